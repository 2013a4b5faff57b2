import PyProof.Rows.All
import Wide.All
import OpenK.AllK
import Wide.FinOn
import PySem.Challenge.RW_us0006_01
open PySem PySem.W PySem.Calls PyProof.Rows
set_option Elab.async false
set_option maxRecDepth 100000
set_option maxHeartbeats 8000000
set_option linter.all false
namespace Mine

-- part B0
section
set_option synthInstance.maxSize 1 in
open_top hd for PySem.Challenge.rw_us0006_01.row
/-- the looks at the law -/
theorem well : PySem.Challenge.rw_us0006_01.wellSaid = true := by decide +kernel
noncomputable abbrev pr : Program := PySem.Challenge.rw_us0006_01.row.prog
noncomputable abbrev KK (w : World) : Frag := hd.heap_1 w.params
end

-- part B1
section
theorem goal_cut {P : Prop} (h : ∀ G : Prop, (P → G) → G) : P := h P id
theorem nd_ne {l : List Nat} (h : l.Nodup) {a b : Nat} (i j : Nat) (ha : l[i]? = some a) (hb : l[j]? = some b) (hij : i < j) : a ≠ b := by
  obtain ⟨hi, rfl⟩ := List.getElem?_eq_some_iff.mp ha
  obtain ⟨hj, rfl⟩ := List.getElem?_eq_some_iff.mp hb
  exact List.pairwise_iff_getElem.mp h i j hi hj hij
theorem sub_step {a k : Nat} (h : k < a) : a - k = a - (k + 1) + 1 := by rw [Nat.sub_add_eq]; exact (Nat.sub_add_cancel (Nat.sub_pos_of_lt h)).symm
theorem ts_sub {n : Nat} {s : Int} (h : 0 ≤ s) : ((n : Int) - s).toNat = n - s.toNat := by
  obtain ⟨k, rfl⟩ := Int.eq_ofNat_of_zero_le h
  exact Int.toNat_sub n k
theorem tn_pred (n : Nat) : (-1 + (n : Int)).toNat = n - 1 := by
  rw [Int.add_comm]; exact Int.toNat_sub n 1

/-- what is known of the top, at a heap -/
structure G (w : World) (p : Program) (loose : List Str) (mg mb : Str → Option Value) (h : Heap) : Prop where
  X : (hd.heap_1 w.params).In h
  T : TopRead p loose mg mb h

theorem G.keeps {w : World} {p : Program} {loose : List Str} {mg mb : Str → Option Value} {h h' : Heap} (g : G w p loose mg mb h) (hk : ∀ b o, h.get? b = some o → h'.get? b = some o) : G w p loose mg mb h' :=
  ⟨g.X.keeps hk, g.T.keeps hk⟩

/-- the surroundings in which every contract is shown -/
noncomputable abbrev U : Around := { handled := none, depth := 500, frames := none, guards := none, units := 2000 }

theorem of_U {α : Type} {M : Model} {A : Around} {t : Sem α} {Q : α → Shared → Prop} {E : Value → Shared → Prop} {s : Shared} (h : wpAny M U t Q E s)
    (hh : A.handled = none := by rfl) (hd : A.depth ≤ 500 := by exact Nat.le_of_ble_eq_true rfl) (hu : A.units ≤ 2000 := by exact Nat.le_of_ble_eq_true rfl) : wpAny M A t Q E s :=
  fun Γ p hΓ => h Γ p ⟨hΓ.1.trans hh, Nat.le_trans hΓ.2.1 hd, (fun _ e => by cases e), (fun _ e => by cases e), Nat.le_trans hΓ.2.2.2.2 hu⟩
section
variable {prog : Program} {w : World} {p : Program} {loose : List Str} {A : Around} {s : Shared} {mg mb : Str → Option Value}
/-- a call of a def of the text that raises nothing -/
theorem enter {name qual : Str} {params : Arguments} {body : List Stmt} {scope : Scope} {dV kV doc pm cdv ct oc : Value} {an od : Option Addr} {osl : Array (Option Value)} {f : Addr} {pos : List Value} {kw : List (Str × Value)} {binds : List (Str × Value)} {Q : Value → Shared → Prop} {E : Value → Shared → Prop}
    (g : G w p loose mg mb s.heap)
    (ho : (hd.heap_1 w.params).lookup f = some ⟨oc, od, .func (fnOf name qual params body scope dV kV doc pm an cdv ct), osl⟩) (hcd : codeIn (hd.heap_1 w.params) cdv qual = true)
    (hbind : BindsTo s (fnOf name qual params body scope dV kV doc pm an cdv ct) ⟨pos, kw⟩ binds) (hloc : ∀ y ∈ binds, scope.names.lookup y.1 = some .local)
    (hcell : ∀ x ∈ scope.names, x.2 ≠ .cell)
    (h : ∀ L h₁, Fr s.heap L h₁ (fun y => binds.reverse.lookup y) → News s.heap L h₁ [] → (hd.heap_1 w.params).In s.heap → TopRead p loose mg mb s.heap →
      wpAny (model prog w) (A.deeper (envOf qual scope L f cdv)) (execs body (envOf qual scope L f cdv))
        (fun fl s' => Q (match fl with | .ret v => v | _ => .none) s') (fun _ _ => False) { s with heap := h₁, toks := s.toks + binds.length })
    (hroom : A.depth < recursionLimit)
    (hco : scope.isCoroutine = false) (hgen : scope.isGenerator = false) (hk : scope.kind = .function) :
    wpAny (model prog w) A (PySem.call (.ref f) pos kw) Q E s := by
  refine wpAny_call (codeAny_call_def (fd := fnOf name qual params body scope dV kV doc pm an cdv ct) (body := body) (binds := binds) hroom (g.X _ _ ho) rfl g.T.nolimit (codeRec_of g.X hcd) rfl hbind hcell hloc (fun h₁ hns hk₁ => ?_) hco hgen hk)
  exact wpAny_mono (h s.heap.objs.size h₁ ⟨hns, hk₁, Nat.le_refl _⟩ News.nil g.X g.T) (fun fl s' hl => hl) (fun _ _ x => x.elim)
end
end

-- part H1
section
/-- what the law's walk ends with -/
structure FinL (h₀ : Heap) (s₁ : Shared) (tabs : List (Addr × Addr)) (r : Result) (s' : Shared) : Prop where
  val : r = .ok (.ret (.bool true))
  keep : ∀ b o, h₀.get? b = some o → s'.heap.get? b = some o
  os : s'.os = s₁.os
  bare : AllBare s'.gens
  grown : GrownAll tabs s'.heap

theorem post_fin {M : Model} {A : Around} {cd : Code} {s s₁ : Shared} {cw : ClaimW} {cl : Str → Option Addr} {mean : ExcName → Option Value} {args : List WData} {tabs : List (Addr × Addr)} (hT : TabsAt tabs s₁.heap)
    (hr : ∀ cls, cw.raises args cls = false) (hp : cw.post args (.bool true) args = true)
    (h : codeAny M A cd (FinL (ghostOf s₁.heap tabs) s₁ tabs) s) : codeAny M A cd (GoodWG cw cl mean args s₁) s :=
  codeAny_mono h fun r s' f => by
    refine ⟨.inl ⟨.bool true, .bool true, [], f.val, hr, .bool true, hp, fun _ => ⟨List.nodup_nil, fun a ha => nomatch ha⟩⟩, ⟨fun b o e => ?_, fun b o e => ?_⟩, f.os, f.bare⟩
    · by_cases hb : b ∈ tabs.map (·.2)
      · obtain ⟨q, hq, rfl⟩ := List.mem_map.mp hb
        have e2 := (hT q hq).2
        obtain ⟨ps, hP⟩ := f.grown.get q hq
        rw [e] at e2
        obtain rfl : o = tabObj #[] := Option.some.inj e2
        exact .inr (.inl ⟨((hT q hq).1.tab (hT q hq).2).isCodeTable, rfl, #[], ps, rfl, by rw [Array.empty_append]; exact hP⟩)
      · exact .inl (f.keep b o (ghost_ne e hb))
    · by_cases hb : b ∈ tabs.map (·.2)
      · obtain ⟨q, hq, rfl⟩ := List.mem_map.mp hb
        obtain ⟨ps, hP⟩ := f.grown.get q hq
        exact ⟨_, hP⟩
      · exact ⟨o, f.keep b o (ghost_ne e hb)⟩

theorem law_post (args : List WData) : PySem.Challenge.rw_us0006_01.row.claim.post args (.bool true) args = true := by
  show (WShape.has [] (.bool true) .bool && (WTm.holds [] (.eq .res (.lit (.bool true))) { args := args, res := some (.bool true), after := args })) = true
  have h1 : WShape.has [] (.bool true) .bool = true := by decide +kernel
  have h2 : same (WData.bool true) (WData.bool true) = true := by decide +kernel
  rw [h1]
  unfold WTm.holds
  simp only [WTm.value, h2]
  rfl
end

-- part B2
section
/-- but for the heap and the tokens the same -/
structure Same (s s' : Shared) : Prop where
  gens : s'.gens = s.gens
  drawn : s'.drawn = s.drawn
  os : s'.os = s.os
theorem Same.refl (s : Shared) : Same s s := ⟨rfl, rfl, rfl⟩
theorem Same.trans {s s' s'' : Shared} (a : Same s s') (b : Same s' s'') : Same s s'' := ⟨b.gens.trans a.gens, b.drawn.trans a.drawn, b.os.trans a.os⟩
theorem Same.to {s s' : Shared} {h : Heap} {t : Nat} (a : Same s s') : Same s { s' with heap := h, toks := t } := ⟨a.gens, a.drawn, a.os⟩

/-- the walk stands still at it -/
structure Stop (P : Prop) : Prop where
  out : P
theorem stop {P : Prop} (h : Stop P) : P := h.out

/-- names bound over unknown ones -/
noncomputable def bd (rest : Str → Option Value) : List (Str × Value) → Str → Option Value
  | [] => rest
  | p :: r => fun z => if z = p.1 then some p.2 else bd rest r z

theorem bd_eq {m : Str → Option Value} : ∀ {ps : List (Str × Value)}, (∀ p ∈ ps, m p.1 = some p.2) → bd m ps = m
  | [], _ => rfl
  | p :: r, h => by
    funext z
    show (if z = p.1 then some p.2 else bd m r z) = m z
    rw [bd_eq (ps := r) fun q hq => h q (.tail _ hq)]
    by_cases e : z = p.1
    · rw [if_pos e, e]; exact (h p (.head _)).symm
    · rw [if_neg e]

/-- a place in a loop: the frame, the ledger, what is said of the whole state -/
noncomputable def At {σ : Type} (h₀ : Heap) (L : Addr) (Led : σ → List (Addr × Obj)) (ps : σ → List (Str × Value)) (P : σ → Shared → Prop) (c : σ) (s : Shared) : Prop :=
  ∃ m news, Fr h₀ L s.heap m ∧ News h₀ L s.heap news ∧ (∀ p ∈ Led c, p ∈ news) ∧ (∀ p ∈ ps c, m p.1 = some p.2) ∧ P c s

theorem At.fr {σ : Type} {h₀ : Heap} {L : Addr} {Led : σ → List (Addr × Obj)} {ps : σ → List (Str × Value)} {P : σ → Shared → Prop} {c : σ} {s : Shared} (a : At h₀ L Led ps P c s) :
    ∃ u, Fr h₀ L s.heap (bd u (ps c)) ∧ News h₀ L s.heap (Led c) ∧ P c s := by
  (refine goal_cut fun Gz hGz => ?_; obtain ⟨m, news, F, N, h1, h2, hp⟩ := a; refine hGz ?_; clear hGz Gz)
  exact ⟨m, by rw [bd_eq h2]; exact F, fun p hp => N p (h1 p hp), hp⟩

theorem At.mk {σ : Type} {h₀ : Heap} {L : Addr} {Led : σ → List (Addr × Obj)} {ps : σ → List (Str × Value)} {P : σ → Shared → Prop} {s : Shared} {m : Str → Option Value} {news : List (Addr × Obj)} (c : σ)
    (F : Fr h₀ L s.heap m) (N : News h₀ L s.heap news) (h1 : ∀ p ∈ Led c, p ∈ news) (h2 : ∀ p ∈ ps c, m p.1 = some p.2) (hp : P c s) : At h₀ L Led ps P c s := ⟨m, news, F, N, h1, h2, hp⟩

section
variable {prog : Program} {w : World} {A : Around} {s : Shared} {env : Env} {h₀ : Heap} {L : Addr} {Q : Flow → Shared → Prop}
/-- a turn's end -/
noncomputable def Turn {σ : Type} (h₀ : Heap) (L : Addr) (Led : σ → List (Addr × Obj)) (ps : σ → List (Str × Value)) (P : σ → Shared → Prop) (ok : σ → Prop) (Q : Flow → Shared → Prop) (f : Flow) (s : Shared) : Prop :=
  match f with
  | .ret v => Q (.ret v) s
  | .brk => Q .next s
  | _ => ∃ c, ok c ∧ At h₀ L Led ps P c s

theorem while_at {σ : Type} {test : Expr} {body : List Stmt} {pos : Pos} (Led : σ → List (Addr × Obj)) (ps : σ → List (Str × Value)) (P : σ → Shared → Prop) (μ : σ → Nat)
    (h0 : ∃ c₀, At h₀ L Led ps P c₀ s)
    (turn : ∀ (c : σ) (u : Str → Option Value) (s : Shared), P c s → Fr h₀ L s.heap (bd u (ps c)) → News h₀ L s.heap (Led c) →
      wpAny (model prog w) A (isTrue test env (eval test env)) (fun b s₂ =>
        if b = true then wpAny (model prog w) A (execs body env) (Turn h₀ L Led ps P (fun c' => μ c' < μ c) Q) (fun _ _ => False) s₂ else Q .next s₂) (fun _ _ => False) s) :
    wpAny (model prog w) A (exec (.While test body [] pos) env) Q (fun _ _ => False) s := by
  obtain ⟨c₀, h0⟩ := h0
  refine wpAny_While (codeAny_whileLoop (fun n s' => ∃ c, μ c = n ∧ At h₀ L Led ps P c s') ?_ (μ c₀) ⟨c₀, rfl, h0⟩)
  rintro n s' ⟨c, rfl, a⟩
  (refine goal_cut fun Gz hGz => ?_; obtain ⟨u, F, N, hp⟩ := a.fr; refine hGz ?_; clear hGz Gz)
  refine wpAny_mono (turn c u s' hp F N) (fun b s₂ h₂ => ?_) (fun _ _ x => x.elim)
  cases b with
  | false =>
    simp only [Bool.false_eq_true, if_false] at h₂ ⊢
    exact wpAny_execs_nil h₂
  | true =>
    simp only [if_true] at h₂ ⊢
    refine wpAny_mono h₂ (fun f s₃ h₃ => ?_) (fun _ _ x => x.elim)
    cases f with
    | ret v => exact h₃
    | brk => exact h₃
    | next => obtain ⟨c', h, a'⟩ := h₃; exact ⟨μ c', h, c', rfl, a'⟩
    | cont => obtain ⟨c', h, a'⟩ := h₃; exact ⟨μ c', h, c', rfl, a'⟩
end
end

-- part B3
section
theorem fresh_B3 : True := by
  k_with_none
  exact trivial
section
variable {prog : Program} {w : World} {A : Around} {R : GenEnd} {Y : Protocol} {n : Nat} {s₀ : Shared} {c : Code} {fs : List Frame} {s : Shared} {env : Env}
  {K : Flow → Sem Fin} {H : Value → Sem Fin} {gd : Bool → Bool} {lv : List Value → List Value}

theorem seg_stmt {st : Stmt} (h : wpAny (model prog w) (A.over c fs) (exec st env) (fun f s' => Seg (model prog w) A R Y n s₀ c (K f) fs s') (fun _ _ => False) s) :
    Seg (model prog w) A R Y n s₀ c ((exec st env).wrap K H gd lv) fs s := seg_wrap (wpAny_mono h (fun _ _ x => x) fun _ _ x => x.elim)

theorem seg_If {test : Expr} {body orelse : List Stmt} {pos : Pos}
    (h : wpAny (model prog w) (A.over c fs) (isTrue test env (eval test env)) (fun b s' => if b = true then Seg (model prog w) A R Y n s₀ c ((execs body env).wrap K H gd lv) fs s' else Seg (model prog w) A R Y n s₀ c ((execs orelse env).wrap K H gd lv) fs s') (fun _ _ => False) s) :
    Seg (model prog w) A R Y n s₀ c ((exec (.If test body orelse pos) env).wrap K H gd lv) fs s := by
  show Seg _ A R Y n s₀ c (.at pos fun _ => (isTrue test env (eval test env) >>= fun b => if b = true then execs body env else execs orelse env).wrap K H gd lv) fs s
  refine seg_at (seg_bind_wrap (wpAny_mono h (fun b s' hb => ?_) fun _ _ x => x.elim))
  cases b with
  | true => simpa using hb
  | false => simpa using hb

theorem seg_For {target iter : Expr} {body orelse : List Stmt} {pos : Pos}
    (h : wpAny (model prog w) (A.over c fs) (eval iter env) (fun x s₁ => wpAny (model prog w) (A.over c fs) (pyIter x) (fun it s₂ => ∀ p (k : Result → Sem Fin) l, k (.ok .next) = K .next →
      Seg (model prog w) A R Y n s₀ (.forLoop target it body orelse env) ((model prog w).den (.forLoop target it body orelse env)) (.ret k none (gd false) l c p [] :: fs) s₂) (fun _ _ => False) s₁) (fun _ _ => False) s)
    (hs : ∀ x, foldedSetIterable iter env x = pure x) :
    Seg (model prog w) A R Y n s₀ c ((exec (.For target iter body orelse pos) env).wrap K H gd lv) fs s := by
  rw [exec_For]
  refine seg_bind_wrap (wpAny_standAt ?_)
  refine seg_bind_wrap (wpAny_mono h (fun x s₁ h₁ => ?_) fun _ _ x => x.elim)
  refine seg_bind_wrap (wpAny_of_eq (hs x) ?_)
  refine seg_bind_wrap (wpAny_standAt ?_)
  refine seg_bind_wrap (wpAny_holding (wpAny_mono h₁ (fun it s₂ h₂ => ?_) fun _ _ x => x.elim))
  show Seg _ A R Y n s₀ c (.call (.forLoop target it body orelse env) none (gd false) (lv []) _) fs s₂
  exact seg_call fun p => h₂ p _ _ rfl

theorem seg_block_end {code : Code} {c₁ : Code} {p₁ : Pos} {k : Result → Sem Fin} {g : Bool} {l : List Value} (h : Seg (model prog w) A R Y n s₀ c₁ (k (.ok .next)) fs s) :
    Seg (model prog w) A R Y n s₀ code (.pure (.again (.block [] env))) (.ret k none g l c₁ p₁ [] :: fs) s := by
  refine seg_again rfl ?_
  show Seg _ A R Y n s₀ _ (leafOf (.ok .next)) _ s
  exact seg_leaf (.ok .next) h

theorem seg_forLoop {σ : Type} {target : Expr} {it : Value} {body : List Stmt} (J : σ → Shared → Shared → Prop) (N μ : σ → Nat)
    (turn : ∀ c s₀ s, J c s₀ s → (∀ c' s₀' s', μ c' < μ c → J c' s₀' s' → Seg (model prog w) A R Y (N c') s₀' (.forLoop target it body [] env) (.pure (.again (.forLoop target it body [] env))) fs s') →
      wpAny (model prog w) (A.over (.forLoop target it body [] env) fs) (pyNext it) (fun r s₁ => match r with
        | none => Seg (model prog w) A R Y (N c) s₀ (.forLoop target it body [] env) (.pure (.again (.block [] env))) fs s₁
        | some v => wpAny (model prog w) (A.over (.forLoop target it body [] env) fs) (letOwnedTupleGo target it v) (fun _ s₂ => wpAny (model prog w) (A.over (.forLoop target it body [] env) fs) (assign target env v) (fun _ s₃ =>
            ∀ H, Seg (model prog w) A R Y (N c) s₀ (.forLoop target it body [] env) ((execs body env).wrap (fun f => match f with
              | .next | .cont => .pure (.again (.forLoop target it body [] env))
              | .brk => .pure (.done .next)
              | .ret v => .pure (.done (.ret v))) H id id) fs s₃) (fun _ _ => False) s₂) (fun _ _ => False) s₁) (fun _ _ => False) s) :
    ∀ c s₀ s, J c s₀ s → Seg (model prog w) A R Y (N c) s₀ (.forLoop target it body [] env) ((model prog w).den (.forLoop target it body [] env)) fs s := by
  have key : ∀ m c s₀ s, μ c = m → J c s₀ s → Seg (model prog w) A R Y (N c) s₀ (.forLoop target it body [] env) ((model prog w).den (.forLoop target it body [] env)) fs s := by
    intro m
    induction m using Nat.strongRecOn with
    | ind m ih =>
      intro c s₀ s hm hJ
      show Seg _ A R Y _ s₀ _ ((forTurn target it body [] env).onRaise (fun x => do noteFrame x env; theTreesLotGoes x)) fs s
      unfold forTurn
      rw [Sem.onRaise_eq_wrap]
      refine seg_bind_wrap (wpAny_standAt ?_)
      refine seg_bind_wrap (wpAny_onRaise (wpAny_mono (turn c s₀ s hJ fun c' s₀' s' hlt hJ' => seg_again rfl (ih (μ c') (hm ▸ hlt) c' s₀' s' rfl hJ')) (fun r s₁ h₁ => ?_) fun _ _ x => x.elim))
      cases r with
      | none => exact h₁
      | some v =>
        refine seg_bind_wrap (wpAny_mono h₁ (fun _ s₂ h₂ => ?_) fun _ _ x => x.elim)
        refine seg_bind_wrap (wpAny_mono h₂ (fun _ s₃ h₃ => ?_) fun _ _ x => x.elim)
        rw [Sem.bind_eq_wrap', Sem.wrap_wrap]
        rw [Sem.wrap_congr (execs body env) _ _ (K' := fun f => match f with
            | .next | .cont => .pure (.again (.forLoop target it body [] env))
            | .brk => .pure (.done .next)
            | .ret v => .pure (.done (.ret v))) (fun f => by cases f <;> rfl) (fun e => rfl)]
        exact h₃ _
  exact fun c s₀ s h => key _ c s₀ s rfl h
end
end

-- part B4
section
noncomputable abbrev UU (d u : Nat) : Around := { handled := none, depth := d, frames := none, guards := none, units := u }
theorem of_UU {d u : Nat} {α : Type} {M : Model} {A : Around} {t : Sem α} {Q : α → Shared → Prop} {E : Value → Shared → Prop} {s : Shared} (h : wpAny M (UU d u) t Q E s)
    (hh : A.handled = none) (hd : A.depth ≤ d) (hu : A.units ≤ u) : wpAny M A t Q E s :=
  fun Γ p hΓ => h Γ p ⟨hΓ.1.trans hh, Nat.le_trans hΓ.2.1 hd, (fun _ e => by cases e), (fun _ e => by cases e), Nat.le_trans hΓ.2.2.2.2 hu⟩

/-- all that a heap holds, but L and what hb holds -/
noncomputable def restOf (hb h : Heap) (L : Addr) : List (Addr × Obj) := (List.range h.objs.size).filterMap fun b => if b = L then none else if (hb.get? b).isSome then none else (h.get? b).map fun o => (b, o)
theorem mem_rest {hb h : Heap} {L b : Addr} {o : Obj} (e : h.get? b = some o) (hL : b ≠ L) (hn : hb.get? b = none) : (b, o) ∈ restOf hb h L := by
  refine List.mem_filterMap.mpr ⟨b, List.mem_range.mpr (Heap.lt_size e), ?_⟩
  rw [if_neg hL, hn, e]; rfl
theorem news_rest {hb h : Heap} {L : Addr} : News hb L h (restOf hb h L) := by
  intro p hp
  obtain ⟨b, _, hb'⟩ := List.mem_filterMap.mp hp
  by_cases hL : b = L
  · rw [if_pos hL] at hb'; cases hb'
  · rw [if_neg hL] at hb'
    cases hn : hb.get? b with
    | some o => rw [hn] at hb'; simp at hb'
    | none =>
      rw [hn] at hb'
      cases he : h.get? b with
      | none => rw [he] at hb'; simp at hb'
      | some o => rw [he] at hb'; simp at hb'; subst hb'; exact ⟨he, hL, hn⟩
theorem kept {hb h h' : Heap} {L : Addr} {m' : Str → Option Value} {news : List (Addr × Obj)} (F' : Fr hb L h' m') (N' : News hb L h' news) (hs : ∀ p ∈ restOf hb h L, p ∈ news)
    (hsub : ∀ b o, hb.get? b = some o → h.get? b = some o) : ∀ b o, b ≠ L → h.get? b = some o → h'.get? b = some o := by
  intro b o hL e
  cases hn : hb.get? b with
  | none => exact (N' _ (hs _ (mem_rest e hL hn))).1
  | some o' =>
    have := hsub b o' hn
    rw [e] at this; cases this
    exact F'.keep b o hn

/-- only fp has changed -/
structure Mv (fp : List Addr) (s s' : Shared) : Prop where
  heap : ∀ b o, b ∉ fp → s.heap.get? b = some o → s'.heap.get? b = some o
  gens : s'.gens = s.gens
  drawn : s'.drawn = s.drawn
  os : s'.os = s.os
theorem Mv.refl (fp : List Addr) (s : Shared) : Mv fp s s := ⟨fun _ _ _ e => e, rfl, rfl, rfl⟩
theorem Mv.trans {fp : List Addr} {s s' s'' : Shared} (a : Mv fp s s') (b : Mv fp s' s'') : Mv fp s s'' := ⟨fun c o hc e => b.heap c o hc (a.heap c o hc e), b.gens.trans a.gens, b.drawn.trans a.drawn, b.os.trans a.os⟩
theorem Mv.step {fp : List Addr} {s s' : Shared} {h : Heap} {t : Nat} (a : Mv fp s s') (hk : ∀ b o, b ∉ fp → s'.heap.get? b = some o → h.get? b = some o) : Mv fp s { s' with heap := h, toks := t } :=
  a.trans ⟨hk, rfl, rfl, rfl⟩

section
variable {prog : Program} {w : World} {p : Program} {loose : List Str} {A : Around} {s : Shared} {mg mb : Str → Option Value}
/-- a call of a generator def of the text -/
theorem enterG {name qual : Str} {params : Arguments} {body : List Stmt} {scope : Scope} {dV kV doc pm cdv ct oc : Value} {an od : Option Addr} {osl : Array (Option Value)} {f : Addr} {pos : List Value} {kw : List (Str × Value)} {binds : List (Str × Value)} {Q : Value → Shared → Prop} {E : Value → Shared → Prop}
    (g : G w p loose mg mb s.heap)
    (ho : (hd.heap_1 w.params).lookup f = some ⟨oc, od, .func (fnOf name qual params body scope dV kV doc pm an cdv ct), osl⟩) (hcd : codeIn (hd.heap_1 w.params) cdv qual = true)
    (hbind : BindsTo s (fnOf name qual params body scope dV kV doc pm an cdv ct) ⟨pos, kw⟩ binds) (hloc : ∀ y ∈ binds, scope.names.lookup y.1 = some .local)
    (hcell : ∀ x ∈ scope.names, x.2 ≠ .cell)
    (h : ∀ (h₁ : Heap) (tk : Nat) (nt qt : Tok), h₁.Ns s.heap.objs.size (fun y => binds.reverse.lookup y) → h₁.objs.size = s.heap.objs.size + 1 → (∀ b o, s.heap.get? b = some o → h₁.get? b = some o) →
      Q (.ref h₁.objs.size) { s with gens := s.gens.push (.fresh (.func body (envOf qual scope s.heap.objs.size f cdv))), toks := tk, heap := h₁.push { cls := .type "generator", data := .fields #[.int s.gens.size 0, .str name nt, .str qual qt] } })
    (hroom : A.depth < recursionLimit)
    (hco : scope.isCoroutine = false) (hgen : scope.isGenerator = true) (hk : scope.kind = .function) :
    wpAny (model prog w) A (PySem.call (.ref f) pos kw) Q E s := by
  refine wpAny_call (codeAny_call_generator (fd := fnOf name qual params body scope dV kV doc pm an cdv ct) (body := body) hroom (g.X _ _ ho) rfl hco hgen rfl (codeRec_of g.X hcd) (hbind _ _ _ _ ?_))
  refine wpAny_newFunctionEnv hcell hloc (fun h₁ hns hsb => ?_) hk
  have hsz : h₁.objs.size = s.heap.objs.size + 1 := by rw [hsb.1, Heap.size_push]
  have hk₁ : ∀ b o, s.heap.get? b = some o → h₁.get? b = some o := fun b o e => hsb.extBut b o (Nat.ne_of_lt (Heap.lt_size e)) (Heap.get?_push_of_some _ e)
  exact ⟨g.T.nolimit.keeps hk₁, h h₁ _ _ _ hns hsz hk₁⟩
end

theorem next_gen {prog : Program} {w : World} {A : Around} {E : Value → Shared → Prop} {s : Shared} {a : Addr} {g n : Nat} {gs : GenState} {P : Nat → Shared → Shared → Prop} {Y : Protocol} {Q : Option Value → Shared → Prop} (hh : A.handled = none)
    (hl : s.heap.NoLimit) (hroom : A.depth < recursionLimit)
    (hg : s.heap.IsGen a g) (hgs : s.gens[g]? = some gs)
    (hgo : gs.Goes (model prog w) A.in1 (fun n s₀ r s₁ => r = .ok (.ret .none) ∧ P n s₀ s₁) Y n (.send .none) (s.setGen g .running))
    (hY : ∀ v s₁ gs', gs'.bare = true → Y (n - 1) (s.setGen g .running) v s₁ (fun r' s'' => match n with
        | 0 => False
        | m + 1 => gs'.Goes (model prog w) A.in1 (fun n s₀ r s₁ => r = .ok (.ret .none) ∧ P n s₀ s₁) Y m r' s'') → Q (some v) (s₁.setGen g gs'))
    (hP : ∀ s₁, P n (s.setGen g .running) s₁ → ∀ h', (∀ b o, s₁.heap.get? b = some o → h'.get? b = some o) → Q none { s₁.setGen g .finished with heap := h' }) :
    wpAny (model prog w) A (pyNext (.ref a)) Q E s := by
  unfold pyNext
  refine wpAny_bind (wpAny_attempt (wpAny_callSpecial?_slot (name := Str.ofString "__next__") hg.typeIs slot_gen_next
    (wpAny_call_entry slot_gen_next hg.typeIs entry_gen_next ?_ (args_gen_next _))))
  show wpAny _ A.in1 (Builtin.Generator.genWake (.ref a) (.send .none)) _ _ s
  unfold Builtin.Generator.genWake
  refine wpAny_bind (wpAny_holding (wpAny_genNumber hg (wpAny_bind (wpAny_genState hgs ?_))))
  cases gs with
  | running => exact hgo.elim
  | finished => exact hgo.elim
  | _ =>
    refine wpAny_bind (wpAny_roomToWake hl hroom ?_)
    show wpAny _ A.in1 (.resume g (.send .none) [] _) _ _ s
    refine wpAny_resumeQ hgs hgo (fun x s₁ hx => ?_) (fun v s₁ gs' hb hv => wpAny_pure ⟨v, rfl, wpAny_pure (hY v s₁ gs' hb hv)⟩)
    obtain ⟨rfl, hp⟩ := hx
    show wpAny _ A.in1 (newExc (.type "StopIteration") [] >>= _) _ _ _
    refine wpAny_bind ?_
    simp only [newExc, newTuple]
    refine wpAny_bind (wpAny_newObj_type ?_ (by size_fits))
    refine wpAny_bind (m := firstArgMember _ _) (wpAny_of_eq (a := Value.none) (by first | rfl | (simp only [firstArgMember]; rfl)) ?_)
    refine wpAny_newObj_type ?_ (by size_fits)
    simp only [raiseNew]
    refine wpAny_bind (wpAny_bind (wpAny_handled ?_))
    first | rw [show A.in1.handled = none from hh] | rw [hh]
    refine wpAny_throw ?_
    refine wpAny_bind (wpAny_isInstance (T := "StopIteration") (b := true) ⟨_, Heap.get?_push_size _ rfl, rfl⟩ isSubtype_stop ?_)
    exact wpAny_pure (hP s₁ hp _ fun b o hb => Heap.get?_push_of_some _ (Heap.get?_push_of_some _ hb))
end

-- part G1
section
theorem fresh_G1 : True := by
  k_with_none
  exact trivial
local macro_rules | `(tactic| walk_at "m_all") => `(tactic| ((repeat' (first | exact List.forall_mem_nil _ | refine List.forall_mem_cons.mpr ⟨?_, ?_⟩)) <;> (with_unfolding_all rfl)))

/-- what _iter_escaped_chars gives: from a place on, the escape, the last place -/
noncomputable def escY : List Nat → Nat → Bool → Int → List (Int × Str)
  | [], _, esc, last => if esc then [(last, Str.ofString "\\")] else []
  | c :: r, i, true, _ => ((i : Int), Str.ofString "\\" ++ ⟨#[c]⟩) :: escY r (i + 1) false i
  | c :: r, i, false, _ => if ((⟨#[c]⟩ : Str) == Str.ofString "\\") = true then escY r (i + 1) true i else ((i : Int), ⟨#[c]⟩) :: escY r (i + 1) false i

/-- is the escape open at the end -/
noncomputable def escE : List Nat → Bool → Bool
  | [], esc => esc
  | _ :: r, true => escE r false
  | c :: r, false => if ((⟨#[c]⟩ : Str) == Str.ofString "\\") = true then escE r true else escE r false

noncomputable def tupO (i : Int) (ti : Tok) (y : Str) (ty : Tok) : Obj := { cls := .type "tuple", data := .seq #[.int i ti, .str y ty] }
noncomputable def Rp (fp : List Addr) : GenEnd := fun n s₀ r s₁ => r = .ok (.ret .none) ∧ (n = 0 ∧ Mv fp s₀ s₁)
noncomputable def Yp (hb : Heap) (fp : List Addr) (all : List (Int × Str)) : Protocol := fun n s₀ v s kap =>
  (∃ y T ti ty, all[all.length - 1 - n]? = some y ∧ v = .ref T ∧ s.heap.get? T = some (tupO y.1 ti y.2 ty) ∧ s₀.heap.get? T = none) ∧ Mv fp s₀ s ∧
  ∃ own : List (Addr × Obj), own.map (·.1) = fp ∧ (∀ p ∈ own, s.heap.get? p.1 = some p.2) ∧ ∀ s'' : Shared, (∀ p ∈ own, s''.heap.get? p.1 = some p.2) → (∀ b o, hb.get? b = some o → s''.heap.get? b = some o) → kap (.send .none) s''

noncomputable def genO (gi : Nat) (nm qn : Value) : Obj := { cls := .type "generator", data := .fields #[.int gi 0, nm, qn] }
structure EscAt (w : World) (hb : Heap) (a : Addr) (gi : Nat) (own : List (Addr × Obj)) (ys : List (Int × Str)) (s : Shared) : Prop where
  here : ∀ p ∈ own, s.heap.get? p.1 = some p.2
  gen : ∃ nm qn, (a, genO gi nm qn) ∈ own
  apart : ∀ p ∈ own, hb.get? p.1 = none
  goes : ∃ gs all, s.gens[gi]? = some gs ∧ gs.bare = true ∧ (∃ k, ys = all.drop k) ∧ ∀ s'' : Shared, (∀ p ∈ own, s''.heap.get? p.1 = some p.2) → (∀ b o, hb.get? b = some o → s''.heap.get? b = some o) →
    ∃ fp, (∀ b ∈ fp, b ∈ own.map (·.1) ∨ s''.heap.get? b = none) ∧ a ∉ fp ∧ gs.Goes (model PySem.Challenge.rw_us0006_01.row.prog w) (UU 600 3000).in1 (Rp fp) (Yp hb fp all) ys.length (.send .none) s''

theorem esc_next {w : World} {hb : Heap} {a : Addr} {gi : Nat} {own : List (Addr × Obj)} {ys : List (Int × Str)} {s : Shared} {A : Around} {E : Value → Shared → Prop} {Q : Option Value → Shared → Prop}
    (h : EscAt w hb a gi own ys s) (hsub : ∀ b o, hb.get? b = some o → s.heap.get? b = some o) (hl : s.heap.NoLimit)
    (hsome : ∀ y r T ti ty own' s', ys = y :: r → s'.heap.get? T = some (tupO y.1 ti y.2 ty) → s.heap.get? T = none → EscAt w hb a gi own' r s' → (∀ b o, b ∉ own.map (·.1) → s.heap.get? b = some o → s'.heap.get? b = some o) →
      (∀ p ∈ own', p.1 ∈ own.map (·.1) ∨ s.heap.get? p.1 = none) → GenOnlyQ gi s.gens s'.gens → s'.drawn = s.drawn → s'.os = s.os → Q (some (.ref T)) s')
    (hnone : ∀ s', ys = [] → (∀ b o, b ∉ own.map (·.1) → s.heap.get? b = some o → s'.heap.get? b = some o) → GenOnlyQ gi s.gens s'.gens → s'.drawn = s.drawn → s'.os = s.os → Q none s')
    (hh : A.handled = none := by rfl) (hd : A.depth ≤ 600 := by exact Nat.le_of_ble_eq_true rfl) (hu : A.units ≤ 3000 := by exact Nat.le_of_ble_eq_true rfl) :
    wpAny (model PySem.Challenge.rw_us0006_01.row.prog w) A (pyNext (.ref a)) Q E s := by
  refine of_UU ?_ hh hd hu
  obtain ⟨here, ⟨nm, qn, hgen⟩, apart, gs, all, hgs, hbare, ⟨k, hk⟩, hgo⟩ := h
  obtain ⟨fp, hfp, haf, hgo⟩ := hgo (s.setGen gi .running) here hsub
  have hIs : s.heap.IsGen a gi := ⟨_, nm, qn, here _ hgen, rfl, rfl, rfl⟩
  have off : ∀ b o, hb.get? b = some o → b ∉ fp := fun b o e hm => by
    rcases hfp b hm with h1 | h1
    · obtain ⟨q, hq, rfl⟩ := List.mem_map.mp h1
      rw [apart q hq] at e; cases e
    · have h2 : s.heap.get? b = none := h1
      rw [hsub b o e] at h2; cases h2
  have offO : ∀ b o, b ∉ own.map (·.1) → s.heap.get? b = some o → b ∉ fp := fun b o hb' e hm => by
    rcases hfp b hm with h1 | h1
    · exact hb' h1
    · have h2 : s.heap.get? b = none := h1
      rw [e] at h2; cases h2
  refine next_gen (P := fun n s₀ s₁ => n = 0 ∧ Mv fp s₀ s₁) rfl hl (Nat.le_of_ble_eq_true rfl) hIs hgs hgo (fun v s₁ gs' hb' hv => ?_) (fun s₁ hp h' hk' => ?_)
  · obtain ⟨⟨y, T, ti, ty, hy, rfl, hT, hTn⟩, mv, own', ho1, ho2, hkap⟩ := hv
    have hsub₁ : ∀ b o, hb.get? b = some o → s₁.heap.get? b = some o := fun b o e => mv.heap b o (off b o e) (hsub b o e)
    cases hys : ys with
    | nil =>
      rw [hys] at hkap
      exact (hkap s₁ ho2 hsub₁).elim
    | cons y' r =>
      rw [hys] at hkap hy hk
      have hlen : all.length = k + (r.length + 1) := by
        have := congrArg List.length hk
        rw [List.length_drop, List.length_cons] at this; omega
      have hget : all[k]? = some y' := by
        have h1 : (all.drop k)[0]? = some y' := by rw [← hk]; rfl
        rw [List.getElem?_drop] at h1; simpa using h1
      have hidx : all.length - 1 - ((y' :: r).length - 1) = k := by rw [hlen, List.length_cons]; omega
      rw [hidx, hget] at hy
      cases hy
      have hr : r = all.drop (k + 1) := by
        have : (all.drop k).drop 1 = r := by rw [← hk]; rfl
        rw [← this, List.drop_drop]
      refine hsome y r T ti ty ((a, genO gi nm qn) :: own') _ hys hT hTn ⟨?_, ⟨nm, qn, List.mem_cons_self ..⟩, ?_, gs', all, setGen_self (gs := .running) ?_, hb', ⟨k + 1, hr⟩, ?_⟩ ?_ ?_ ?_ mv.drawn mv.os
      · intro q hq
        rcases List.mem_cons.mp hq with rfl | hq
        · exact mv.heap a _ haf (here _ hgen)
        · exact ho2 q hq
      · intro q hq
        rcases List.mem_cons.mp hq with rfl | hq
        · exact apart _ hgen
        · cases e : hb.get? q.1 with
          | none => rfl
          | some o => exact absurd (ho1 ▸ List.mem_map_of_mem hq) (off _ _ e)
      · rw [mv.gens]; exact setGen_self hgs
      · intro s'' hs1 hs2
        refine ⟨fp, fun b hb1 => .inl ?_, haf, ?_⟩
        · rw [List.map_cons, ho1]; exact List.mem_cons_of_mem _ hb1
        · exact hkap s'' (fun q hq => hs1 q (List.mem_cons_of_mem _ hq)) hs2
      · exact fun b o hb1 e => mv.heap b o (offO b o hb1 e) e
      · intro q hq
        rcases List.mem_cons.mp hq with rfl | hq
        · exact .inl (List.mem_map_of_mem hgen)
        · exact hfp _ (ho1 ▸ List.mem_map_of_mem hq)
      · have e1 : s₁.gens = s.gens.setIfInBounds gi .running := mv.gens
        refine GenOnlyQ.of (y := gs') ?_ (setGen_self (gs := .running) (by rw [e1]; exact setGen_self hgs)) hb'
        have := (GenOnly.setGen s gi .running).trans (show GenOnly gi (s.setGen gi .running).gens (s₁.setGen gi gs').gens from by
          have h3 := GenOnly.setGen s₁ gi gs'
          rw [e1] at h3; exact h3)
        exact this
  · obtain ⟨hn, mv⟩ := hp
    have e1 : s₁.gens = s.gens.setIfInBounds gi .running := mv.gens
    refine hnone _ (List.length_eq_zero_iff.mp hn) (fun b o hb1 e => hk' b o (mv.heap b o (offO b o hb1 e) e)) ?_ mv.drawn mv.os
    refine GenOnlyQ.of (y := .finished) ?_ (setGen_self (gs := .running) (by rw [e1]; exact setGen_self hgs)) rfl
    exact (GenOnly.setGen s gi .running).trans (show GenOnly gi (s.setGen gi .running).gens (s₁.setGen gi .finished).gens from by
      have h3 := GenOnly.setGen s₁ gi .finished
      rw [e1] at h3; exact h3)
end

-- part G2
section
theorem fresh_G2 : True := by
  k_with_none
  exact trivial
local macro_rules | `(tactic| walk_at "m_uu") => `(tactic| (refine of_UU (d := 700) (u := 4000) ?_ rfl (Nat.le_of_ble_eq_true rfl) (Nat.le_of_ble_eq_true rfl)))
local macro_rules | `(tactic| walk_at "m_all") => `(tactic| ((repeat' (first | exact List.forall_mem_nil _ | refine List.forall_mem_cons.mpr ⟨?_, ?_⟩)) <;> (with_unfolding_all rfl)))

theorem fr_bd {h₀ h : Heap} {L : Addr} {m : Str → Option Value} {ps : List (Str × Value)} (F : Fr h₀ L h m) (hp : ∀ p ∈ ps, m p.1 = some p.2) : ∃ u, Fr h₀ L h (bd u ps) := ⟨m, by rw [bd_eq hp]; exact F⟩

theorem fr_move {h₀ h h' : Heap} {L : Addr} {m : Str → Option Value} (F : Fr h₀ L h m) (hL : ∀ o, h.get? L = some o → h'.get? L = some o) (hk : ∀ b o, b < h₀.objs.size → h.get? b = some o → h'.get? b = some o) : Fr h₀ L h' m :=
  ⟨F.ns.at' hL, fun b o e => hk b o (Heap.lt_size e) (F.keep b o e), F.above⟩

theorem drawsStr {prog : Program} {w : World} {A : Around} (hh : A.handled = none) (it : Addr) (x : Str) (t : Tok) :
    Draws prog w A it [it] x.cps.size (fun i v => ∃ c u, x.cps[i]? = some c ∧ v = .str ⟨#[c]⟩ u) (fun i h => h.IsStrIter it (strIterType x) x t i) := by
  unfold strIterType
  cases ha : x.cps.all (· < 128) with
  | true => exact Draws.strAscii hh it x t
  | false => exact Draws.strWide hh it x t

theorem idx_of {α : Type} {all pre tail : List α} {y : α} (h : all = pre ++ y :: tail) : all[all.length - 1 - tail.length]? = some y := by
  subst h
  have e : (pre ++ y :: tail).length - 1 - tail.length = pre.length := by rw [List.length_append, List.length_cons]; omega
  rw [e, List.getElem?_append_right (Nat.le_refl _), Nat.sub_self]; rfl

theorem yp_mk {hb h8 : Heap} {L e it T : Addr} {all pre tail : List (Int × Str)} {yi : Int} {yt : Str} {ti ty : Tok} {s₀ s' : Shared} {m : Str → Option Value} {kap : Resume → Shared → Prop} (hpre : all = pre ++ (yi, yt) :: tail)
    (F' : Fr hb L s'.heap m) (N' : News hb L s'.heap ((T, tupO yi ti yt ty) :: restOf hb h8 L)) (lt : ∀ p ∈ restOf hb h8 L, p.1 < T) (sub8 : ∀ b o, hb.get? b = some o → h8.get? b = some o)
    (he : ∃ o, h8.get? e = some o) (hi : ∃ o, h8.get? it = some o) (hLL : ∃ o, h8.get? L = some o) (eL : e ≠ L) (iL : it ≠ L) (mv : Mv [L, e, it] s₀ { s' with heap := h8 })
    (hk : ∀ s3 : Shared, Fr hb L s3.heap m → (∀ b o, (b = e ∨ b = it) → h8.get? b = some o → s3.heap.get? b = some o) → kap (.send .none) s3) : Yp hb [L, e, it] all tail.length s₀ (.ref T) s' kap := by
  have hT := N' _ (List.mem_cons_self ..)
  have keep := kept F' N' (fun p hp => List.mem_cons_of_mem _ hp) sub8
  have hT8 : h8.get? T = none := by
    cases e1 : h8.get? T with
    | none => rfl
    | some o => exact absurd (lt _ (mem_rest e1 hT.2.1 hT.2.2)) (Nat.lt_irrefl _)
  obtain ⟨oe, hoe⟩ := he
  obtain ⟨oi, hoi⟩ := hi
  (refine goal_cut fun Gz hGz => ?_; obtain ⟨oL, es, ep, hoL, rL⟩ := id F'.ns; refine hGz ?_; clear hGz Gz)
  refine ⟨⟨(yi, yt), T, ti, ty, idx_of hpre, rfl, hT.1, ?_⟩, ?_, [(L, oL), (e, oe), (it, oi)], rfl, ?_, ?_⟩
  · cases e1 : s₀.heap.get? T with
    | none => rfl
    | some o =>
      exfalso
      have h1 : T ∉ [L, e, it] := fun hm => by
        simp only [List.mem_cons, List.not_mem_nil, or_false] at hm
        rcases hm with h | h | h
        · exact hT.2.1 h
        · rw [h, hoe] at hT8; cases hT8
        · rw [h, hoi] at hT8; cases hT8
      have h2 : h8.get? T = some o := mv.heap T o h1 e1
      rw [h2] at hT8; cases hT8
  · refine ⟨fun b o hb1 e1 => keep b o (fun h => hb1 (h ▸ List.mem_cons_self ..)) (mv.heap b o hb1 e1), mv.gens, mv.drawn, mv.os⟩
  · intro p hp
    simp only [List.mem_cons, List.not_mem_nil, or_false] at hp
    rcases hp with rfl | rfl | rfl
    · exact hoL
    · exact keep _ _ eL hoe
    · exact keep _ _ iL hoi
  · intro s3 hs1 hs2
    refine hk s3 ⟨⟨oL, es, ep, hs1 (_, _) (List.mem_cons_self ..), rL⟩, hs2, F'.above⟩ fun b o hb1 e1 => ?_
    rcases hb1 with rfl | rfl
    · rw [hoe] at e1; cases e1; exact hs1 (_, _) (List.mem_cons_of_mem _ (List.mem_cons_self ..))
    · rw [hoi] at e1; cases e1; exact hs1 (_, _) (List.mem_cons_of_mem _ (List.mem_cons_of_mem _ (List.mem_cons_self ..)))

theorem esc_call {w : World} {p : Program} {loose : List Str} {mg mb : Str → Option Value} {hb : Heap} {s : Shared} {Q E : Value → Shared → Prop} {x : Str} {t : Tok}
    (g : G w p loose mg mb hb) (hsub : ∀ b o, hb.get? b = some o → s.heap.get? b = some o) (hsz : hb.objs.size ≤ s.heap.objs.size) (hesc : escE x.cps.toList false = false)
    (hret : ∀ a own s' gs, s'.gens = s.gens.push gs → EscAt w hb a s.gens.size own (escY x.cps.toList 0 false 0) s' → (∀ q ∈ own, s.heap.get? q.1 = none) → (∀ b o, s.heap.get? b = some o → s'.heap.get? b = some o) →
      gs.bare = true → s'.drawn = s.drawn → s'.os = s.os → Q (.ref a) s') :
    wpAny (model PySem.Challenge.rw_us0006_01.row.prog w) U (call (.ref 55) [.str x t]) Q E s := by
  have g1 : G w p loose mg mb s.heap := g.keeps hsub
  have X := g1.X
  revert X; k_fill; intro X
  refine' enterG (pos := [.str x t]) (kw := []) (binds := [("addr", .str x t)]) g1 ?ho ?hcd ?hb ?hl ?hc ?_ ?hr ?h1 ?h2 ?h3
  case ho => k_is
  case hcd => k_is
  case hb => exact kp_binds X (fun _ => rfl)
  case hl => exact locs rfl
  case hc => decide
  case hr => exact Nat.le_of_ble_eq_true rfl
  case h1 => rfl
  case h2 => rfl
  case h3 => rfl
  intro h₁ tk nt qt hns hsz1 hk1
  (refine goal_cut fun Gz hGz => ?_; obtain ⟨oL, es, ep, hoL, r1⟩ := id hns; refine hGz ?_; clear hGz Gz)
  have hLn : s.heap.get? s.heap.objs.size = none := by
    cases e : s.heap.get? s.heap.objs.size with
    | none => rfl
    | some o => exact absurd (Heap.lt_size e) (Nat.lt_irrefl _)
  have han : s.heap.get? h₁.objs.size = none := by
    cases e : s.heap.get? h₁.objs.size with
    | none => rfl
    | some o => have h9 : h₁.objs.size < s.heap.objs.size := Heap.lt_size e; omega
  refine hret h₁.objs.size [(h₁.objs.size, genO s.gens.size (.str "_iter_escaped_chars" nt) (.str "_iter_escaped_chars" qt)), (s.heap.objs.size, oL)] _ _ rfl ?esc ?_ ?_ ?hbare2 rfl rfl
  case hbare2 => rfl
  case esc => 
   refine ⟨?_, ⟨_, _, List.mem_cons_self ..⟩, ?_, _, _, Array.getElem?_push_size .., rfl, ⟨0, rfl⟩, ?_⟩
   · intro q hq
     rcases List.mem_cons.mp hq with rfl | hq
     · exact Heap.get?_push_size _ rfl
     · rw [List.mem_singleton.mp hq]; exact Heap.get?_push_of_some _ hoL
   · intro q hq
     have none_of : ∀ b, s.heap.get? b = none → hb.get? b = none := fun b e => by
       cases e' : hb.get? b with
       | none => rfl
       | some o => rw [hsub b o e'] at e; cases e
     rcases List.mem_cons.mp hq with rfl | hq
     · exact none_of _ han
     · rw [List.mem_singleton.mp hq]; exact none_of _ hLn
   · intro s'' hs1 hs2
     have hL'' : s''.heap.get? s.heap.objs.size = some oL := hs1 (_, _) (List.mem_cons_of_mem _ (List.mem_singleton.mpr rfl))
     have ha'' : s''.heap.get? h₁.objs.size = some (genO s.gens.size (.str "_iter_escaped_chars" nt) (.str "_iter_escaped_chars" qt)) := hs1 (_, _) (List.mem_cons_self ..)
     have nx : ∀ k, s''.heap.get? (s''.heap.objs.size + k) = none := fun k => by
       cases e : s''.heap.get? (s''.heap.objs.size + k) with
       | none => rfl
       | some o => have h9 : s''.heap.objs.size + k < s''.heap.objs.size := Heap.lt_size e; omega
     refine ⟨[s.heap.objs.size, s''.heap.objs.size + 1, s''.heap.objs.size], ?_, ?_, rfl, ?_⟩
     · intro b hb1
       rcases List.mem_cons.mp hb1 with rfl | hb1
       · exact .inl (by simp)
       rcases List.mem_cons.mp hb1 with rfl | hb1
       · exact .inr (nx 1)
       · rw [List.mem_singleton.mp hb1]; exact .inr (nx 0)
     · intro hm
       have h9 : h₁.objs.size < s''.heap.objs.size := Heap.lt_size ha''
       simp only [List.mem_cons, List.not_mem_nil, or_false] at hm
       have hm' : h₁.objs.size = s.heap.objs.size ∨ h₁.objs.size = s''.heap.objs.size + 1 ∨ h₁.objs.size = s''.heap.objs.size := hm
       omega
     · have F0 : Fr hb s.heap.objs.size s''.heap (fun y => List.lookup y [(Str.ofString "addr", Value.str x t)].reverse) := ⟨⟨oL, es, ep, hL'', r1⟩, hs2, hsz⟩
       have hLlt : s.heap.objs.size < s''.heap.objs.size := Heap.lt_size hL''
       refine seg_func (seg_execs_cons (seg_stmt ?_))
       walk_at "m_uu"
       refine wpAny_Assign_Name (wpAny_Constant_int (wpAny_storeName_local (by rfl) F0.ns (fun h2 hn2 hq2 => ?_) (by rfl))) 
       refine seg_execs_cons (seg_stmt ?_)
       walk_at "m_uu"
       refine wpAny_Assign_Name (wpAny_Constant_bool (wpAny_storeName_local (by rfl) hn2 (fun h3 hn3 hq3 => ?_) (by rfl))) 
       have hsz3 : h3.objs.size = s''.heap.objs.size := by rw [hq3.1, hq2.1]
       have hk3 : ∀ b o, b ≠ s.heap.objs.size → s''.heap.get? b = some o → h3.get? b = some o := fun b o hb1 e => hq3.extBut b o hb1 (hq2.extBut b o hb1 e)
       have F3 : Fr hb s.heap.objs.size h3 _ := (F0.set hn2 hq2).set hn3 hq3
       refine seg_execs_cons (seg_For ?_ ?_)
       · walk_at "m_uu"
         have X9 := g.X
         have T9 := g.T
         have N9 : News hb s.heap.objs.size h3 [] := News.nil
         k_with "call type:enumerate" => (refine stop ?_)
         k_steps
         refine ⟨call_enumerate_str (fun h4 he4 hi4 hz4 hk4 => wpAny_pyIter_enum he4 ?_)⟩
         intro p9 k9 l9 hk9
         dsimp only at he4 hi4 hz4 hk4 ⊢
         rw [hsz3] at he4 hi4 ⊢
         have he0 : s''.heap.objs.size + 1 ≠ s''.heap.objs.size := Nat.succ_ne_self _
         have F4 : Fr hb s.heap.objs.size h4 _ := F3.keeps hk4
         obtain ⟨u4, F5⟩ := fr_bd (ps := [("pos", .int 0 s''.toks), ("escape", .bool false)]) F4 (by walk_at "m_all")
         refine seg_forLoop (σ := Nat × Bool × Int) (fun c s₀ s₁ => c.1 ≤ x.cps.toList.length ∧ (∃ old, IsEnum s₁.heap (s''.heap.objs.size + 1) s''.heap.objs.size c.1 old) ∧ s₁.heap.IsStrIter s''.heap.objs.size (strIterType x) x t c.1 ∧
             (∃ u tk, Fr hb s.heap.objs.size s₁.heap (bd u [("pos", .int c.2.2 tk), ("escape", .bool c.2.1)])) ∧ Mv [s.heap.objs.size, s''.heap.objs.size + 1, s''.heap.objs.size] s₀ s₁ ∧
             escE (x.cps.toList.drop c.1) c.2.1 = false ∧ ∃ pre, escY x.cps.toList 0 false 0 = pre ++ escY (x.cps.toList.drop c.1) c.1 c.2.1 c.2.2)
           (fun c => (escY (x.cps.toList.drop c.1) c.1 c.2.1 c.2.2).length) (fun c => x.cps.toList.length - c.1) ?_ (0, false, 0) s'' _ ⟨Nat.zero_le _, ⟨_, he4⟩, hi4, ⟨u4, s''.toks, F5⟩, ?_, hesc, [], rfl⟩
         · (rintro ⟨i, esc, last⟩ s₀ s₁ hz1 again; refine goal_cut fun Gz hGz => ?_; obtain ⟨hi, ⟨old, he⟩, hit, ⟨u, tk, F⟩, mv, hE, pre, hpre⟩ := hz1; refine hGz ?_; clear hGz Gz)
           dsimp only at hi he hit F mv hE hpre
           by_cases hlt : i < x.cps.toList.length
           · obtain ⟨ch, hch⟩ : ∃ ch, x.cps.toList.drop i = ch :: x.cps.toList.drop (i + 1) := ⟨_, List.drop_eq_getElem_cons hlt⟩
             have hgc : x.cps[i]? = some ch := by
               have h1 : (x.cps.toList.drop i)[0]? = some ch := by rw [hch]; rfl
               rw [List.getElem?_drop] at h1; simpa using h1
             have hsize : i < x.cps.size := by simpa using hlt
             have W := WalksT.enumerateD (prog := PySem.Challenge.rw_us0006_01.row.prog) (w := w) (A := UU 700 4000) (drawsStr rfl s''.heap.objs.size x t) (s''.heap.objs.size + 1) he0 (by simp) (by simp)
             walk_at "m_uu"
             refine W.item i _ _ _ hsize ⟨⟨old, he⟩, hit⟩ (fun T vals h' tk' hPt hTge hTup hMid hk => ?_)
             obtain ⟨ti, v, ⟨c', tc, hc', rfl⟩, rfl⟩ := hPt
             rw [hgc] at hc'
             cases hc'
             show wpAny _ _ (letOwnedTupleGo _ _ _) _ _ _
             walk_at "m_uu"
             refine W.go _ _ _ i T _ _ _ hMid (fun h5 hSt hk5 => ?_)
             have hTw := W.apart i T h' hMid
             obtain ⟨oT, hoT, rT⟩ := hTup
             walk_at "m_uu"
             refine wpAny_assign_Tuple rfl ⟨oT, hk5 T oT hTw hoT, rT⟩ (by rfl) (by rfl) (fun h6 hx6 => ?_)
             replace hx6 : Heap.ExtBut h5.objs.size h5 h6 := hx6
             replace hk : ∀ b o, b ∉ [s''.heap.objs.size + 1, s''.heap.objs.size] → s₁.heap.get? b = some o → h'.get? b = some o := hk
             replace hk5 : ∀ b o, b ∉ [s''.heap.objs.size + 1, s''.heap.objs.size] → h'.get? b = some o → h5.get? b = some o := hk5
             have hk6 : ∀ b o, b ∉ [s''.heap.objs.size + 1, s''.heap.objs.size] → s₁.heap.get? b = some o → h6.get? b = some o := fun b o hb1 e => by
               have e5 := hk5 b o hb1 (hk b o hb1 e)
               exact hx6 b o (Nat.ne_of_lt (Heap.lt_size e5)) e5
             have off : ∀ b : Nat, b < s''.heap.objs.size → b ∉ [s''.heap.objs.size + 1, s''.heap.objs.size] := fun b hb1 hm => by
               simp only [List.mem_cons, List.not_mem_nil, or_false] at hm
               have hm' : b = s''.heap.objs.size + 1 ∨ b = s''.heap.objs.size := hm
               omega
             have F6 : Fr hb s.heap.objs.size h6 _ := fr_move F (fun o e => hk6 _ o (off _ hLlt) e) (fun b o hb1 e => hk6 b o (off _ (Nat.lt_trans hb1 (Nat.lt_of_le_of_lt hsz hLlt))) e)
             show wpAny _ _ (do holding [_] (assign (.Name _ _) _ (.int i ti)); do holding [] (assign (.Name _ _) _ (.str _ tc)); pure ()) _ _ _
             refine wpAny_bind (wpAny_holding (wpAny_assign_Name (wpAny_storeName_local (by rfl) F6.ns (fun h7 hn7 hs7 => ?_) (by rfl))))
             refine wpAny_bind (wpAny_holding (wpAny_assign_Name (wpAny_storeName_local (by rfl) hn7 (fun h8 hn8 hs8 => wpAny_pure ?_) (by rfl))))
             replace hs7 : Heap.SameBut s.heap.objs.size h6 h7 := hs7
             replace hs8 : Heap.SameBut s.heap.objs.size h7 h8 := hs8
             have F8 : Fr hb s.heap.objs.size h8 _ := (F6.set hn7 hs7).set hn8 hs8
             obtain ⟨u8, G8⟩ := fr_bd (ps := [("pos", .int i ti), ("ch", .str ⟨#[ch]⟩ tc), ("escape", .bool esc)]) F8 (by walk_at "m_all")
             clear F8 F6 hn7 hn8
             have eL : s''.heap.objs.size + 1 ≠ s.heap.objs.size := by omega
             have iL : s''.heap.objs.size ≠ s.heap.objs.size := by omega
             obtain ⟨⟨old5, he5⟩, hit5⟩ := hSt
             have old8 : ∀ b o, b ≠ s.heap.objs.size → h5.get? b = some o → h8.get? b = some o := fun b o hb1 e => hs8.extBut b o hb1 (hs7.extBut b o hb1 (hx6 b o (Nat.ne_of_lt (Heap.lt_size e)) e))
             have he8 : IsEnum h8 (s''.heap.objs.size + 1) s''.heap.objs.size ((i + 1 : Nat) : Int) old5 := old8 _ _ eL he5
             have hit8 : h8.IsStrIter s''.heap.objs.size (strIterType x) x t (i + 1) := let ⟨o, ho, r⟩ := hit5; ⟨o, old8 _ _ iL ho, r⟩
             have mv8 : ∀ tk, Mv [s.heap.objs.size, s''.heap.objs.size + 1, s''.heap.objs.size] s₀ { s₁ with heap := h8, toks := tk } := fun tk => mv.step fun b o hb1 e => by
               simp only [List.mem_cons, not_or] at hb1
               exact hs8.extBut b o hb1.1 (hs7.extBut b o hb1.1 (hk6 b o (by simp only [List.mem_cons, not_or]; exact hb1.2) e))
             intro H
             clear hk hk5 hk6 hs7 hs8 hx6 hMid rT hoT hTw F he hit mv hit5 he5 old8
             refine seg_execs_cons (seg_If ?_)
             walk_at "m_uu"
             have N8 : News hb s.heap.objs.size h8 (restOf hb h8 s.heap.objs.size) := news_rest
             have keep8 := G8.keep
             have hL8 : ∃ o, h8.get? s.heap.objs.size = some o := let ⟨o, _, _, ho, _⟩ := G8.ns; ⟨o, ho⟩
             have hi8 : ∃ o, h8.get? s''.heap.objs.size = some o := let ⟨o, ho, _⟩ := hit8; ⟨o, ho⟩
             cases esc with
             | true =>
               k_steps
               dsimp only at hpre ⊢
               have hN : escY (x.cps.toList.drop i) i true last = ((i : Int), Str.ofString "\\" ++ ⟨#[ch]⟩) :: escY (x.cps.toList.drop (i + 1)) (i + 1) false i := by rw [hch]; rfl
               rw [hN] at hpre ⊢
               rw [List.length_cons]
               refine seg_execs_cons (seg_Expr_Yield rfl rfl rfl ?_)
               walk_at "m_uu"
               k_steps
               (rename Fr _ _ _ _ => F9); (rename News _ _ _ _ => N9); (rename (∀ p ∈ restOf _ _ _, _) => lt9); (rename (∀ _ _, _ → _) => hk9')
               refine yp_mk (h8 := h8) hpre F9 N9 lt9 keep8 ⟨_, he8⟩ hi8 hL8 eL iL (mv8 _) fun s3 F10 k10 => ?_
               refine hk9' .none s3 ?_
               show Seg _ _ _ _ _ _ _ ((execs _ _).wrap _ _ _ _) _ _
               refine seg_execs_cons (seg_stmt ?_)
               walk_at "m_uu"
               have N10 : News hb s.heap.objs.size s3.heap (restOf hb s3.heap s.heap.objs.size) := news_rest
               have sub10 := F10.keep
               k_steps
               (rename Fr _ _ _ _ => F11); (rename News _ _ _ _ => N11)
               have keep11 := kept F11 N11 (fun _ hp => hp) sub10
               obtain ⟨u11, G11⟩ := fr_bd (ps := [("pos", .int i ti), ("escape", .bool false)]) F11 (by walk_at "m_all")
               refine again (i + 1, false, i) s3 _ (by dsimp only; omega) ⟨hlt, ⟨_, keep11 _ _ eL (k10 _ _ (.inl rfl) he8)⟩, ?_, ⟨_, _, G11⟩, ⟨fun b o hb1 e => keep11 b o (fun h => hb1 (h ▸ List.mem_cons_self ..)) e, rfl, rfl, rfl⟩, by rw [hch] at hE; exact hE, pre ++ [((i : Int), Str.ofString "\\" ++ ⟨#[ch]⟩)], ?_⟩
               · obtain ⟨o, ho, r⟩ := hit8
                 exact ⟨o, keep11 _ _ iL (k10 _ _ (.inr rfl) ho), r⟩
               · rw [List.append_assoc]; exact hpre
             | false =>
               k_steps
               dsimp only at hpre ⊢
               refine seg_execs_cons (seg_If ?_)
               walk_at "m_uu"
               k_steps
               · (rename ((_ == Str.ofString "\\") = true) => hc)
                 have hN : escY (x.cps.toList.drop i) i false last = escY (x.cps.toList.drop (i + 1)) (i + 1) true i := by rw [hch]; exact if_pos hc
                 have hE2 : escE (x.cps.toList.drop (i + 1)) true = false := by rw [hch] at hE; exact (if_pos hc).symm.trans hE
                 rw [hN] at hpre ⊢
                 refine seg_execs_cons (seg_stmt ?_)
                 walk_at "m_uu"
                 k_steps
                 (rename Fr _ _ _ _ => F11); (rename News _ _ _ _ => N11)
                 have keep11 := kept F11 N11 (fun _ hp => hp) keep8
                 obtain ⟨u11, G11⟩ := fr_bd (ps := [("pos", .int i ti), ("escape", .bool true)]) F11 (by walk_at "m_all")
                 refine again (i + 1, true, i) s₀ _ (by dsimp only; omega) ⟨hlt, ⟨_, keep11 _ _ eL he8⟩, ?_, ⟨_, _, G11⟩, (mv8 0).step fun b o hb1 e => keep11 b o (fun h => hb1 (h ▸ List.mem_cons_self ..)) e, hE2, pre, hpre⟩
                 obtain ⟨o, ho, r⟩ := hit8
                 exact ⟨o, keep11 _ _ iL ho, r⟩
               · (rename ((_ == Str.ofString "\\") = false) => hc)
                 have hN : escY (x.cps.toList.drop i) i false last = ((i : Int), ⟨#[ch]⟩) :: escY (x.cps.toList.drop (i + 1)) (i + 1) false i := by rw [hch]; exact if_neg (by rw [hc]; exact Bool.false_ne_true)
                 have hE2 : escE (x.cps.toList.drop (i + 1)) false = false := by rw [hch] at hE; exact (if_neg (by rw [hc]; exact Bool.false_ne_true)).symm.trans hE
                 rw [hN] at hpre ⊢
                 rw [List.length_cons]
                 refine seg_execs_cons (seg_Expr_Yield rfl rfl rfl ?_)
                 walk_at "m_uu"
                 k_steps
                 (rename Fr _ _ _ _ => F9); (rename News _ _ _ _ => N9); (rename (∀ p ∈ restOf _ _ _, _) => lt9); (rename (∀ _ _, _ → _) => hk9')
                 refine yp_mk (h8 := h8) hpre F9 N9 lt9 keep8 ⟨_, he8⟩ hi8 hL8 eL iL (mv8 _) fun s3 F10 k10 => ?_
                 refine hk9' .none s3 ?_
                 obtain ⟨u11, G11⟩ := fr_bd (ps := [("pos", .int i ti), ("escape", .bool false)]) F10 (by walk_at "m_all")
                 refine again (i + 1, false, i) s3 _ (by dsimp only; omega) ⟨hlt, ⟨_, k10 _ _ (.inl rfl) he8⟩, ?_, ⟨_, _, G11⟩, Mv.refl _ _, hE2, pre ++ [((i : Int), ⟨#[ch]⟩)], ?_⟩
                 · obtain ⟨o, ho, r⟩ := hit8
                   exact ⟨o, k10 _ _ (.inr rfl) ho, r⟩
                 · rw [List.append_assoc]; exact hpre
           · have hin : i = x.cps.size := by
               have h1 : x.cps.toList.length = x.cps.size := by simp
               omega
             have hch : x.cps.toList.drop i = [] := List.drop_eq_nil_of_le (by omega)
             have W := WalksT.enumerateD (prog := PySem.Challenge.rw_us0006_01.row.prog) (w := w) (A := UU 700 4000) (drawsStr rfl s''.heap.objs.size x t) (s''.heap.objs.size + 1) he0 (by simp) (by simp)
             walk_at "m_uu"
             refine W.done _ _ _ (by rw [← hin]; exact ⟨⟨old, he⟩, hit⟩) (fun h8 tk8 hk8 => ?_)
             replace hk8 : ∀ b o, b ∉ [s''.heap.objs.size + 1, s''.heap.objs.size] → s₁.heap.get? b = some o → h8.get? b = some o := hk8
             have off : ∀ b : Nat, b < s''.heap.objs.size → b ∉ [s''.heap.objs.size + 1, s''.heap.objs.size] := fun b hb1 hm => by
               simp only [List.mem_cons, List.not_mem_nil, or_false] at hm
               have hm' : b = s''.heap.objs.size + 1 ∨ b = s''.heap.objs.size := hm
               omega
             have F8 : Fr hb s.heap.objs.size h8 _ := fr_move F (fun o e => hk8 _ o (off _ hLlt) e) (fun b o hb1 e => hk8 b o (off _ (Nat.lt_trans hb1 (Nat.lt_of_le_of_lt hsz hLlt))) e)
             have mv8 : ∀ tk, Mv [s.heap.objs.size, s''.heap.objs.size + 1, s''.heap.objs.size] s₀ { s₁ with heap := h8, toks := tk } := fun tk => mv.step fun b o hb1 e => by
               simp only [List.mem_cons, not_or] at hb1
               exact hk8 b o (by simp only [List.mem_cons, not_or]; exact hb1.2) e
             refine seg_block_end ?_
             rw [hk9]
             dsimp only at hpre ⊢
             refine seg_execs_cons (seg_If ?_)
             walk_at "m_uu"
             have N8 : News hb s.heap.objs.size h8 (restOf hb h8 s.heap.objs.size) := news_rest
             have keep8 := F8.keep
             have hL8 : ∃ o, h8.get? s.heap.objs.size = some o := let ⟨o, _, _, ho, _⟩ := F8.ns; ⟨o, ho⟩
             clear F he hit
             cases esc with
             | true => rw [hch] at hE; cases hE
             | false =>
               k_steps
               have hN : escY (x.cps.toList.drop i) i false last = [] := by rw [hch]; rfl
               rw [hN]
               exact seg_end (.ok (.ret .none)) ⟨rfl, rfl, mv8 _⟩
         · exact ⟨fun b o hb1 e => hk4 b o (hk3 b o (fun h => hb1 (h ▸ List.mem_cons_self ..)) e), rfl, rfl, rfl⟩
       · intro _; rfl
  · intro q hq
    rcases List.mem_cons.mp hq with rfl | hq
    · exact han
    · rw [List.mem_singleton.mp hq]; exact hLn
  · exact fun b o e => Heap.get?_push_of_some _ (hk1 b o e)
end

-- part B5
section
/-- nothing but fp has changed; the rest of the state is as it was, but for generators and tokens -/
structure Ev (fp : List Addr) (s s' : Shared) : Prop where
  heap : ∀ b o, b ∉ fp → s.heap.get? b = some o → s'.heap.get? b = some o
  drawn : s'.drawn = s.drawn
  os : s'.os = s.os
  bare : AllBare s.gens → AllBare s'.gens
theorem Ev.refl (fp : List Addr) (s : Shared) : Ev fp s s := ⟨fun _ _ _ e => e, rfl, rfl, id⟩
theorem Ev.trans {fp : List Addr} {s s' s'' : Shared} (a : Ev fp s s') (b : Ev fp s' s'') : Ev fp s s'' := ⟨fun c o hc e => b.heap c o hc (a.heap c o hc e), b.drawn.trans a.drawn, b.os.trans a.os, fun h => b.bare (a.bare h)⟩
theorem Ev.keep {s s' : Shared} (a : Ev [] s s') : ∀ b o, s.heap.get? b = some o → s'.heap.get? b = some o := fun b o e => a.heap b o (by simp) e

/-- the rest of the state -/
structure Sh (s s' : Shared) : Prop where
  drawn : s'.drawn = s.drawn
  os : s'.os = s.os
  bare : AllBare s.gens → AllBare s'.gens
theorem Sh.refl (s : Shared) : Sh s s := ⟨rfl, rfl, id⟩
theorem Sh.trans {s s' s'' : Shared} (a : Sh s s') (b : Sh s' s'') : Sh s s'' := ⟨b.drawn.trans a.drawn, b.os.trans a.os, fun h => b.bare (a.bare h)⟩
theorem Sh.to {s s' : Shared} {h : Heap} {t : Nat} (a : Sh s s') : Sh s { s' with heap := h, toks := t } := ⟨a.drawn, a.os, a.bare⟩
theorem Sh.ev {s s' : Shared} (a : Sh s s') {fp : List Addr} (h : ∀ b o, b ∉ fp → s.heap.get? b = some o → s'.heap.get? b = some o) : Ev fp s s' := ⟨h, a.drawn, a.os, a.bare⟩
theorem Ev.sh {fp : List Addr} {s s' : Shared} (a : Ev fp s s') : Sh s s' := ⟨a.drawn, a.os, a.bare⟩

theorem fr_move' {h₀ h h' : Heap} {L : Addr} {m : Str → Option Value} (F : Fr h₀ L h m) (hL : ∀ o, h.get? L = some o → h'.get? L = some o) (hk : ∀ b o, h₀.get? b = some o → h'.get? b = some o) : Fr h₀ L h' m :=
  ⟨F.ns.at' hL, hk, F.above⟩

theorem fr_two {h₀ h : Heap} {L : Addr} {m : Str → Option Value} {x1 x2 : Str} {v1 v2 : Value} {ps : List (Str × Value)} (F : Fr h₀ L h (fun y => if y = x2 then some v2 else if y = x1 then some v1 else m y)) (hm : ∀ p ∈ ps, m p.1 = some p.2)
    (h1 : ∀ p ∈ ps, p.1 ≠ x1) (h2 : ∀ p ∈ ps, p.1 ≠ x2) (h12 : x1 ≠ x2) : Fr h₀ L h (bd m ((x1, v1) :: (x2, v2) :: ps)) := by
  have e : bd m ((x1, v1) :: (x2, v2) :: ps) = (fun y => if y = x2 then some v2 else if y = x1 then some v1 else m y) := by
    funext y
    show (if y = x1 then some v1 else if y = x2 then some v2 else bd m ps y) = _
    rw [bd_eq hm]
    by_cases e1 : y = x1
    · subst e1; simp [h12]
    · by_cases e2 : y = x2
      · subst e2; simp [e1]
      · simp [e1, e2]
  rw [e]; exact F

section
variable {w : World} {A : Around} {s : Shared} {env : Env} {h₀ : Heap} {Q : Flow → Shared → Prop}

/-- where a loop over the escaped signs stands -/
structure EscLoop {σ : Type} (w : World) (h₀ : Heap) (L a : Addr) (gi : Nat) (Led : σ → List (Addr × Obj)) (ps : σ → List (Str × Value)) (P : σ → List (Int × Str) → Prop) (sh : Shared) (c : σ) (ys : List (Int × Str)) (own : List (Addr × Obj)) (s : Shared) : Prop where
  esc : EscAt w h₀ a gi own ys s
  fr : ∃ m, Fr h₀ L s.heap m ∧ ∀ p ∈ ps c, m p.1 = some p.2
  led : News h₀ L s.heap (Led c)
  offL : ∀ p ∈ own, p.1 ≠ L
  off : ∀ p ∈ Led c, p.1 ∉ own.map (·.1)
  say : P c ys
  sh : Sh sh s

/-- a turn's end -/
noncomputable def EscTurn {σ : Type} (h₀ : Heap) (L : Addr) (Led : σ → List (Addr × Obj)) (ps : σ → List (Str × Value)) (P : σ → List (Int × Str) → Prop) (r : List (Int × Str)) (own : List (Addr × Obj)) (Q : Flow → Shared → Prop) (s : Shared) (f : Flow) (s₃ : Shared) : Prop :=
  match f with
  | .ret v => Q (.ret v) s₃
  | .brk => Q .next s₃
  | _ => ∃ c' m news, P c' r ∧ Fr h₀ L s₃.heap m ∧ News h₀ L s₃.heap news ∧ (∀ p ∈ Led c', p ∈ news) ∧ (∀ p ∈ own, p ∈ news) ∧ (∀ p ∈ ps c', m p.1 = some p.2) ∧ Same s s₃

theorem for_esc {σ : Type} {x1 x2 : Str} {p1 p2 pt pos : Pos} {k : Nat} {iter : Expr} {body : List Stmt} {ys₀ : List (Int × Str)} {sh : Shared} (Led : σ → List (Addr × Obj)) (ps : σ → List (Str × Value)) (P : σ → List (Int × Str) → Prop) (adr : List Addr)
    (hadr : ∀ c, (Led c).map (·.1) = adr) (hh : A.handled = none) (hd : A.depth ≤ 600) (hu : A.units ≤ 3000)
    (hne1 : ∀ c, ∀ p ∈ ps c, p.1 ≠ x1) (hne2 : ∀ c, ∀ p ∈ ps c, p.1 ≠ x2) (hne : x1 ≠ x2)
    (hx1 : env.kindOf x1 = some .local) (hx2 : env.kindOf x2 = some .local) (hp : (env.scope.kind == .class || (env.scope.kind == .module && env.locals != env.globals)) = false) (hl : h₀.NoLimit)
    (h0 : wpAny (model PySem.Challenge.rw_us0006_01.row.prog w) A (eval iter env) (fun v s₁ => ∃ a gi c own, v = .ref a ∧ EscLoop w h₀ env.locals a gi Led ps P sh c ys₀ own s₁) (fun _ _ => False) s)
    (turn : ∀ (c : σ) (y : Int × Str) (r : List (Int × Str)) (u : Str → Option Value) (s : Shared) (own : List (Addr × Obj)) (ti ty : Tok), P c (y :: r) → Sh sh s → Fr h₀ env.locals s.heap (bd u ((x1, .int y.1 ti) :: (x2, .str y.2 ty) :: ps c)) → News h₀ env.locals s.heap (Led c ++ own) → (∀ p ∈ Led c, ∀ q ∈ own, q.1 ≠ p.1) →
      wpAny (model PySem.Challenge.rw_us0006_01.row.prog w) A (execs body env) (EscTurn h₀ env.locals Led ps P r own Q s) (fun _ _ => False) s)
    (done : ∀ (c : σ) (u : Str → Option Value) (s : Shared), P c [] → Sh sh s → Fr h₀ env.locals s.heap (bd u (ps c)) → News h₀ env.locals s.heap (Led c) → Q .next s)
    (hs : ∀ x, foldedSetIterable iter env x = pure x) :
    wpAny (model PySem.Challenge.rw_us0006_01.row.prog w) A (exec (.For (.Tuple [.Name x1 p1, .Name x2 p2] k pt) iter body [] pos) env) Q (fun _ _ => False) s := by
  refine wpAny_For (wpAny_mono h0 (fun v s₁ h₁ => ?_) fun _ _ x => x.elim) hs
  obtain ⟨a, gi, c₀, own₀, rfl, z⟩ := h₁
  obtain ⟨nm, qn, hgen⟩ := z.esc.gen
  refine wpAny_pyIter_gen ⟨_, nm, qn, z.esc.here _ hgen, rfl, rfl, rfl⟩ ?_
  refine codeAny_mono (R := fun r s' => match r with | .ok f => Q f s' | .error _ => False) ?_ (fun r s' h => by cases r with | ok f => exact h | error e => exact h.elim)
  refine codeAny_forLoop_any (fun n s' => ∃ c ys own, n = ys.length + 1 ∧ EscLoop w h₀ env.locals a gi Led ps P sh c ys own s') ?_ _ ⟨c₀, ys₀, own₀, rfl, z⟩
  rintro n s' ⟨c, ys, own, rfl, z⟩
  obtain ⟨m, F, hm⟩ := z.fr
  refine esc_next z.esc F.keep (hl.keeps F.keep) ?_ ?_ hh hd hu
  · rintro y r T ti ty own' s₂ rfl hT hTn esc' hk hown' hgq hdr hos
    show wpAny _ _ (letOwnedTupleGo _ _ _) _ _ _
    obtain ⟨nm', qn', hgen'⟩ := esc'.gen
    (refine goal_cut fun Gz hGz => ?_; obtain ⟨oL, _, _, hoL, _⟩ := id F.ns; refine hGz ?_; clear hGz Gz)
    have keepL : ∀ o, s'.heap.get? env.locals = some o → s₂.heap.get? env.locals = some o := fun o e => hk _ o (fun hm => by
      obtain ⟨q, hq, he⟩ := List.mem_map.mp hm
      exact z.offL q hq he) e
    have F₂ : Fr h₀ env.locals s₂.heap m := fr_move' F keepL (fun b o e => hk b o (fun hm => by
      obtain ⟨q, hq, he⟩ := List.mem_map.mp hm
      have := z.esc.apart q hq
      rw [he, e] at this; cases this) (F.keep b o e))
    have N₂ : News h₀ env.locals s₂.heap (Led c) := fun p hp => ⟨hk _ _ (z.off p hp) (z.led p hp).1, (z.led p hp).2⟩
    have offL' : ∀ p ∈ own', p.1 ≠ env.locals := fun p hp e => by
      rcases hown' p hp with h1 | h1
      · obtain ⟨q, hq, he⟩ := List.mem_map.mp h1
        exact z.offL q hq (he.trans e)
      · rw [e, hoL] at h1; cases h1
    have off' : ∀ p ∈ Led c, p.1 ∉ own'.map (·.1) := fun p hp hm => by
      obtain ⟨q, hq, he⟩ := List.mem_map.mp hm
      rcases hown' q hq with h1 | h1
      · exact z.off p hp (he ▸ h1)
      · rw [he, (z.led p hp).1] at h1; cases h1
    have sh₂ : Sh sh s₂ := z.sh.trans ⟨hdr, hos, hgq.bare⟩
    unfold letOwnedTupleGo
    refine wpAny_bind (wpAny_load (esc'.here _ hgen') ?_)
    show wpAny _ _ (if (["enumerate", "zip", "dict_itemiterator", "dict_reverseitemiterator", "odict_iterator", "itertools.zip_longest", "itertools.pairwise"].contains "generator" && _) = true then _ else pure ()) _ _ _
    rw [if_neg (by simp)]
    refine wpAny_pure ?_
    refine wpAny_assign_Tuple hh ⟨_, hT, rfl, _, rfl⟩ (by rfl) (by rfl) (fun h3 hx3 => ?_)
    replace hx3 : Heap.ExtBut s₂.heap.objs.size s₂.heap h3 := hx3
    have up3 : ∀ b o, s₂.heap.get? b = some o → h3.get? b = some o := fun b o e => hx3 b o (Nat.ne_of_lt (Heap.lt_size e)) e
    have F₃ : Fr h₀ env.locals h3 m := F₂.keeps up3
    show wpAny _ A (do holding [_] (assign (.Name x1 p1) env (.int y.1 ti)); do holding [] (assign (.Name x2 p2) env (.str y.2 ty)); pure ()) _ _ _
    refine wpAny_bind (wpAny_holding (wpAny_assign_Name (wpAny_storeName_local hx1 F₃.ns (fun h4 hn4 hs4 => ?_) hp)))
    refine wpAny_bind (wpAny_holding (wpAny_assign_Name (wpAny_storeName_local hx2 hn4 (fun h5 hn5 hs5 => wpAny_pure ?_) hp)))
    replace hs4 : Heap.SameBut env.locals h3 h4 := hs4
    replace hs5 : Heap.SameBut env.locals h4 h5 := hs5
    have F₅ := (F₃.set hn4 hs4).set hn5 hs5
    have up5 : ∀ b o, b ≠ env.locals → s₂.heap.get? b = some o → h5.get? b = some o := fun b o hb e => hs5.extBut b o hb (hs4.extBut b o hb (up3 b o e))
    have Nc : News h₀ env.locals h5 (Led c ++ own') := fun p hp => by
      rcases List.mem_append.mp hp with h | h
      · exact ⟨up5 _ _ (N₂ p h).2.1 (N₂ p h).1, (N₂ p h).2⟩
      · exact ⟨up5 _ _ (offL' p h) (esc'.here p h), offL' p h, esc'.apart p h⟩
    have F₆ := fr_two F₅ hm (hne1 c) (hne2 c) hne
    refine wpAny_mono (turn c y r _ _ own' ti ty z.say (sh₂.to) F₆ Nc (fun p hp q hq e => off' p hp (e ▸ List.mem_map_of_mem hq))) (fun f s₃ h₃ => ?_) fun _ _ x => x.elim
    have fin : (∃ c' m news, P c' r ∧ Fr h₀ env.locals s₃.heap m ∧ News h₀ env.locals s₃.heap news ∧ (∀ p ∈ Led c', p ∈ news) ∧ (∀ p ∈ own', p ∈ news) ∧ (∀ p ∈ ps c', m p.1 = some p.2) ∧ Same { s₂ with heap := h5, toks := s₂.toks + 1 + 1 } s₃) →
        ∃ k, k < (y :: r).length + 1 ∧ ∃ c ys own, k = ys.length + 1 ∧ EscLoop w h₀ env.locals a gi Led ps P sh c ys own s₃ := by
      rintro ⟨c', m', news, hP, F', N', hl1, hl2, hm', sm⟩
      have adr' : ∀ p ∈ Led c', p.1 ∈ (Led c).map (·.1) := fun p hp => by rw [hadr c, ← hadr c']; exact List.mem_map_of_mem hp
      (refine goal_cut fun Gz hGz => ?_; obtain ⟨gs, all, hg1, hg2, hg3, hg4⟩ := esc'.goes; refine hGz ?_; clear hGz Gz)
      refine ⟨r.length + 1, by rw [List.length_cons]; omega, c', r, own', rfl, ⟨⟨fun p hp => (N' p (hl2 p hp)).1, esc'.gen, esc'.apart, gs, all, ?_, hg2, hg3, hg4⟩, ⟨m', F', hm'⟩, fun p hp => N' p (hl1 p hp), offL', fun p hp hmm => ?_, hP, ?_⟩⟩
      · rw [sm.gens]; exact hg1
      · obtain ⟨q, hq, he⟩ := List.mem_map.mp (adr' p hp)
        exact off' q hq (he ▸ hmm)
      · exact sh₂.trans ⟨sm.drawn, sm.os, fun h => by rw [sm.gens]; exact h⟩
    cases f with
    | ret v => exact h₃
    | brk => exact h₃
    | next => exact fin h₃
    | cont => exact fin h₃
  · rintro s₂ rfl hk hgq hdr hos
    have keepL : ∀ o, s'.heap.get? env.locals = some o → s₂.heap.get? env.locals = some o := fun o e => hk _ o (fun hm => by
      obtain ⟨q, hq, he⟩ := List.mem_map.mp hm
      exact z.offL q hq he) e
    have F₂ : Fr h₀ env.locals s₂.heap m := fr_move' F keepL (fun b o e => hk b o (fun hm => by
      obtain ⟨q, hq, he⟩ := List.mem_map.mp hm
      have := z.esc.apart q hq
      rw [he, e] at this; cases this) (F.keep b o e))
    have N₂ : News h₀ env.locals s₂.heap (Led c) := fun p hp => ⟨hk _ _ (z.off p hp) (z.led p hp).1, (z.led p hp).2⟩
    refine wpAny_execs_nil (done c m s₂ z.say (z.sh.trans ⟨hdr, hos, hgq.bare⟩) ?_ N₂)
    rw [bd_eq hm]; exact F₂
end
end

-- part B6
section
theorem fresh_B6 : True := by
  k_with_none
  exact trivial
section
variable {prog : Program} {w : World} {A : Around} {s : Shared} {env : Env} {h₀ : Heap} {Q : Flow → Shared → Prop}

/-- where a loop over a walker stands -/
structure WkLoop {σ : Type} (h₀ : Heap) (L I : Addr) (fp : List Addr) (Kp : List (Addr × Obj)) (St : Nat → Heap → Prop) (Led : σ → List (Addr × Obj)) (ps : σ → List (Str × Value)) (P : Nat → σ → Shared → Prop) (i : Nat) (c : σ) (s : Shared) : Prop where
  st : St i s.heap
  new : h₀.get? I = none
  offL : I ≠ L
  fr : ∃ m, Fr h₀ L s.heap m ∧ ∀ p ∈ ps c, m p.1 = some p.2
  led : News h₀ L s.heap (Led c)
  kep : News h₀ L s.heap Kp
  kepI : ∀ p ∈ Kp, p.1 ≠ I
  off : ∀ p ∈ Led c, p.1 ≠ I ∧ ∀ q ∈ Kp, q.1 ≠ p.1
  say : P i c s
  fits : ∀ b ∈ fp, b = I ∨ (∃ o, h₀.get? b = some o) ∨ (∃ o, ∀ c, (b, o) ∈ Led c) ∨ ∃ o, (b, o) ∈ Kp

/-- a turn's end -/
noncomputable def WkTurn {σ : Type} (h₀ : Heap) (L : Addr) (own : List (Addr × Obj)) (Led : σ → List (Addr × Obj)) (ps : σ → List (Str × Value)) (P : Nat → σ → Shared → Prop) (i : Nat) (Q : Flow → Shared → Prop) (f : Flow) (s₃ : Shared) : Prop :=
  match f with
  | .ret v => Q (.ret v) s₃
  | .brk => Q .next s₃
  | _ => ∃ c' m news, P (i + 1) c' s₃ ∧ Fr h₀ L s₃.heap m ∧ News h₀ L s₃.heap news ∧ (∀ p ∈ Led c', p ∈ news) ∧ (∀ p ∈ own, p ∈ news) ∧ (∀ p ∈ ps c', m p.1 = some p.2)

theorem bd_cons {h₀ h : Heap} {L : Addr} {m : Str → Option Value} {x : Str} {v : Value} {ps : List (Str × Value)} (F : Fr h₀ L h (fun y => if y = x then some v else m y)) (hm : ∀ p ∈ ps, m p.1 = some p.2) : Fr h₀ L h (bd m ((x, v) :: ps)) := by
  have e : bd m ((x, v) :: ps) = (fun y => if y = x then some v else m y) := by
    funext y
    show (if y = x then some v else bd m ps y) = _
    rw [bd_eq hm]
  rw [e]; exact F

theorem for_walk {σ : Type} {x : Str} {pt pos : Pos} {iter : Expr} {body : List Stmt} {n : Nat} {Pt : Nat → Value → Prop} (Led : σ → List (Addr × Obj)) (ps : σ → List (Str × Value)) (P : Nat → σ → Shared → Prop) (adr : List Addr)
    (hadr : ∀ c, (Led c).map (·.1) = adr)
    (hx : env.kindOf x = some .local) (hp : (env.scope.kind == .class || (env.scope.kind == .module && env.locals != env.globals)) = false)
    (hP : ∀ i c s h t, P i c s → P i c { s with heap := h, toks := t })
    (h0 : wpAny (model prog w) A (eval iter env) (fun v s₁ => wpAny (model prog w) A (pyIter v) (fun it s₂ => ∃ I fp Kp St c₀, it = .ref I ∧ Walks prog w A I fp [I] n Pt St ∧ (∀ i h, St i h → ∃ o, h.get? I = some o) ∧ WkLoop h₀ env.locals I fp Kp St Led ps P 0 c₀ s₂) (fun _ _ => False) s₁) (fun _ _ => False) s)
    (turn : ∀ (i : Nat) (c : σ) (v : Value) (u : Str → Option Value) (s : Shared) (own : List (Addr × Obj)), i < n → Pt i v → P i c s → Fr h₀ env.locals s.heap (bd u ((x, v) :: ps c)) → News h₀ env.locals s.heap (Led c ++ own) → (∀ p ∈ Led c, ∀ q ∈ own, q.1 ≠ p.1) →
      wpAny (model prog w) A (execs body env) (WkTurn h₀ env.locals own Led ps P i Q) (fun _ _ => False) s)
    (hne : ∀ c, ∀ p ∈ ps c, p.1 ≠ x)
    (done : ∀ (c : σ) (u : Str → Option Value) (s : Shared), P n c s → Fr h₀ env.locals s.heap (bd u (ps c)) → News h₀ env.locals s.heap (Led c) → Q .next s)
    (hs : ∀ x, foldedSetIterable iter env x = pure x) :
    wpAny (model prog w) A (exec (.For (.Name x pt) iter body [] pos) env) Q (fun _ _ => False) s := by
  refine wpAny_For (wpAny_mono h0 (fun v s₁ h₁ => wpAny_mono h₁ (fun it s₂ h₂ => ?_) fun _ _ x => x.elim) fun _ _ x => x.elim) hs
  obtain ⟨I, fp, Kp, St, c₀, rfl, W, live, z₀⟩ := h₂
  refine codeAny_mono (R := fun r s' => match r with | .ok f => Q f s' | .error _ => False) ?_ (fun r s' h => by cases r with | ok f => exact h | error e => exact h.elim)
  refine codeAny_forLoop_any (fun k s' => ∃ i c, k = n + 1 - i ∧ i ≤ n ∧ WkLoop h₀ env.locals I fp Kp St Led ps P i c s') ?_ _ ⟨0, c₀, rfl, Nat.zero_le _, z₀⟩
  rintro k s' ⟨i, c, rfl, hi, z⟩
  obtain ⟨m, F, hm⟩ := z.fr
  have moved : ∀ h', (∀ b o, b ∉ [I] → s'.heap.get? b = some o → h'.get? b = some o) → Fr h₀ env.locals h' m ∧ News h₀ env.locals h' (Led c) ∧ News h₀ env.locals h' Kp := fun h' hk => by
    refine ⟨fr_move' F (fun o e => hk _ o (fun hm => z.offL (List.mem_singleton.mp hm).symm) e) (fun b o e => hk b o (fun hm => ?_) (F.keep b o e)), fun p hp => ⟨hk _ _ (fun hm => (z.off p hp).1 (List.mem_singleton.mp hm)) (z.led p hp).1, (z.led p hp).2⟩, fun p hp => ⟨hk _ _ (fun hm => z.kepI p hp (List.mem_singleton.mp hm)) (z.kep p hp).1, (z.kep p hp).2⟩⟩
    have e1 := List.mem_singleton.mp hm
    have e2 := z.new
    rw [e1] at e; rw [e] at e2; cases e2
  by_cases hlt : i < n
  · refine W.item i s' _ _ hlt z.st (fun v h' tk hPt hSt hk => ?_)
    obtain ⟨F₂, N₂, K₂⟩ := moved h' hk
    refine wpAny_pure ?_
    refine wpAny_assign_Name (wpAny_storeName_local hx F₂.ns (fun h4 hn4 hs4 => ?_) hp)
    replace hs4 : Heap.SameBut env.locals h' h4 := hs4
    have F₄ := bd_cons (F₂.set hn4 hs4) hm
    have up : ∀ b o, b ≠ env.locals → h'.get? b = some o → h4.get? b = some o := fun b o hb e => hs4.extBut b o hb e
    obtain ⟨oI, hoI⟩ := live _ _ hSt
    have N₄ : News h₀ env.locals h4 (Led c ++ (I, oI) :: Kp) := fun p hp => by
      rcases List.mem_append.mp hp with h | h
      · exact ⟨up _ _ (N₂ p h).2.1 (N₂ p h).1, (N₂ p h).2⟩
      · rcases List.mem_cons.mp h with rfl | h
        · exact ⟨up _ _ z.offL hoI, z.offL, z.new⟩
        · exact ⟨up _ _ (K₂ p h).2.1 (K₂ p h).1, (K₂ p h).2⟩
    have ap : ∀ p ∈ Led c, ∀ q ∈ (I, oI) :: Kp, q.1 ≠ p.1 := fun p hp q hq => by
      rcases List.mem_cons.mp hq with rfl | hq
      · exact fun e => (z.off p hp).1 e.symm
      · exact (z.off p hp).2 q hq
    refine wpAny_mono (turn i c v _ _ _ hlt hPt (hP i c s' _ _ z.say) F₄ N₄ ap) (fun f s₃ h₃ => ?_) fun _ _ x => x.elim
    have fin : (∃ c' m news, P (i + 1) c' s₃ ∧ Fr h₀ env.locals s₃.heap m ∧ News h₀ env.locals s₃.heap news ∧ (∀ p ∈ Led c', p ∈ news) ∧ (∀ p ∈ (I, oI) :: Kp, p ∈ news) ∧ (∀ p ∈ ps c', m p.1 = some p.2)) →
        ∃ k, k < n + 1 - i ∧ ∃ i c, k = n + 1 - i ∧ i ≤ n ∧ WkLoop h₀ env.locals I fp Kp St Led ps P i c s₃ := by
      rintro ⟨c', m', news, hP', F', N', hl1, hI, hm'⟩
      refine ⟨n + 1 - (i + 1), by omega, i + 1, c', rfl, by omega, ⟨W.frame _ _ _ hSt (fun b hb o e => ?_), z.new, z.offL, ⟨m', F', hm'⟩, fun p hp => N' p (hl1 p hp), fun p hp => N' p (hI p (List.mem_cons_of_mem _ hp)), z.kepI, fun p hp => ?_, hP', z.fits⟩⟩
      · rcases z.fits b hb with rfl | ⟨o', ho'⟩ | ⟨o', ho'⟩ | ⟨o', ho'⟩
        · rw [hoI] at e; cases e
          exact (N' _ (hI _ (List.mem_cons_self ..))).1
        · have e1 := F₂.keep b o' ho'
          have e2 := F'.keep b o' ho'
          rw [e] at e1; cases e1; exact e2
        · have e1 := (N₂ _ (ho' c)).1
          have e2 := (N' _ (hl1 _ (ho' c'))).1
          rw [e] at e1; cases e1; exact e2
        · have e1 := (K₂ _ ho').1
          have e2 := (N' _ (hI _ (List.mem_cons_of_mem _ ho'))).1
          rw [e] at e1; cases e1; exact e2
      · have h1 : p.1 ∈ (Led c).map (·.1) := by rw [hadr c, ← hadr c']; exact List.mem_map_of_mem hp
        obtain ⟨q, hq, he⟩ := List.mem_map.mp h1
        rw [← he]; exact z.off q hq
    cases f with
    | ret v => exact h₃
    | brk => exact h₃
    | next => exact fin h₃
    | cont => exact fin h₃
  · have hin : i = n := by omega
    subst hin
    refine W.done s' _ _ z.st (fun h' tk hk => ?_)
    obtain ⟨F₂, N₂, _⟩ := moved h' hk
    refine wpAny_execs_nil (done c m _ (hP i c s' _ _ z.say) ?_ N₂)
    rw [bd_eq hm]; exact F₂

theorem wk_str (I : Addr) (hh : A.handled = none) (x : Str) (t : Tok) : Walks prog w A I [I] [I] x.cps.size (SignAt x) (fun i h => h.IsStrIter I (strIterType x) x t i) := by
  unfold strIterType
  cases ha : x.cps.all (· < 128) with
  | true => exact Walks.strAscii hh I x t
  | false => exact Walks.strWide hh I x t

theorem Walks.imp {I : Addr} {fp wr : List Addr} {n : Nat} {P P' : Nat → Value → Prop} {St : Nat → Heap → Prop} (W : Walks prog w A I fp wr n P St) (h : ∀ i v, i < n → P i v → P' i v) : Walks prog w A I fp wr n P' St :=
  ⟨W.sub, W.frame, fun i s Q E hi st hQ => W.item i s Q E hi st fun v h' tk hv => hQ v h' tk (h i v hi hv), W.done, W.self⟩

/-- over a list that stands in the ledger or lay there before -/
theorem iter_list {σ : Type} {Led : σ → List (Addr × Obj)} {ps : σ → List (Str × Value)} {P : Nat → σ → Shared → Prop} {L l : Addr} {items : Array Value} (c₀ : σ) {m : Str → Option Value} {news : List (Addr × Obj)} {n : Nat} {Pt : Nat → Value → Prop}
    (hh : A.handled = none) (hl : s.heap.IsList l items) (hn : items.size = n) (hPt : ∀ i v, i < n → items[i]? = some v → Pt i v) (Kp : List (Addr × Obj)) (hfit : (∃ o, h₀.get? l = some o) ∨ (∃ o, ∀ c, (l, o) ∈ Led c) ∨ ∃ o, (l, o) ∈ Kp) (hK : ∀ p ∈ Kp, p ∈ news) (hKa : ∀ p ∈ Led c₀, ∀ q ∈ Kp, q.1 ≠ p.1)
    (F : Fr h₀ L s.heap m) (N : News h₀ L s.heap news) (hl1 : ∀ p ∈ Led c₀, p ∈ news) (hm : ∀ p ∈ ps c₀, m p.1 = some p.2) (say : ∀ h, P 0 c₀ { s with heap := h }) :
    wpAny (model prog w) A (pyIter (.ref l)) (fun it s₂ => ∃ I fp Kp St c₀, it = .ref I ∧ Walks prog w A I fp [I] n Pt St ∧ (∀ i h, St i h → ∃ o, h.get? I = some o) ∧ WkLoop h₀ L I fp Kp St Led ps P 0 c₀ s₂) (fun _ _ => False) s := by
  have hnew : s.heap.get? s.heap.objs.size = none := by
    cases e : s.heap.get? s.heap.objs.size with
    | none => rfl
    | some o => exact absurd (Heap.lt_size e) (Nat.lt_irrefl _)
  obtain ⟨o, ho, _⟩ := id hl
  have hne : l ≠ s.heap.objs.size := fun e => by rw [e, hnew] at ho; cases ho
  refine wpAny_pyIter_list hl ⟨_, _, Kp, _, c₀, rfl, Walks.imp (hn ▸ Walks.list hh _ l hne items) hPt, fun i h st => let ⟨o, ho, _⟩ := st.1; ⟨o, ho⟩, ?_⟩
  have up : ∀ b o, s.heap.get? b = some o → (s.heap.push { cls := .type "list_iterator", data := .fields #[.ref l, .int 0 0] }).get? b = some o := fun b o e => Heap.get?_push_of_some _ e
  refine ⟨⟨⟨_, Heap.get?_push_size _ rfl, rfl, rfl⟩, let ⟨o, ho, r⟩ := hl; ⟨o, up _ _ ho, r⟩⟩, ?_, ?_, ⟨m, F.keeps up, hm⟩, fun p hp => ⟨up _ _ (N p (hl1 p hp)).1, (N p (hl1 p hp)).2⟩, fun p hp => ⟨up _ _ (N p (hK p hp)).1, (N p (hK p hp)).2⟩, ?_, ?_, say _, ?_⟩
  · cases e : h₀.get? s.heap.objs.size with
    | none => rfl
    | some o => have := F.keep _ _ e; rw [hnew] at this; cases this
  · intro e
    obtain ⟨oL, _, _, hoL, _⟩ := id F.ns
    rw [← e, hnew] at hoL; cases hoL
  · intro p hp e
    have := (N p (hK p hp)).1
    rw [e, hnew] at this; cases this
  · intro p hp
    refine ⟨fun e => ?_, hKa p hp⟩
    have := (N p (hl1 p hp)).1
    rw [e, hnew] at this; cases this
  · intro b hb
    simp only [List.mem_cons, List.not_mem_nil, or_false] at hb
    rcases hb with rfl | rfl
    · exact .inl rfl
    · exact .inr hfit

theorem iter_range {σ : Type} {Led : σ → List (Addr × Obj)} {ps : σ → List (Str × Value)} {P : Nat → σ → Shared → Prop} {L r : Addr} {a b : Int} {t u v : Tok} (c₀ : σ) {m : Str → Option Value} {news : List (Addr × Obj)} {n : Nat} {Pt : Nat → Value → Prop}
    (hh : A.handled = none) (hr : IsRange s.heap r a b 1 t u v) (hsmall : Builtin.Range.small a b 1 = true) (hn : Builtin.Range.rangeSize a b 1 = n) (hPt : ∀ i t, i < n → Pt i (.int (a + i) t))
    (F : Fr h₀ L s.heap m) (N : News h₀ L s.heap news) (hl1 : ∀ p ∈ Led c₀, p ∈ news) (hm : ∀ p ∈ ps c₀, m p.1 = some p.2) (say : ∀ h, P 0 c₀ { s with heap := h }) :
    wpAny (model prog w) A (pyIter (.ref r)) (fun it s₂ => ∃ I fp Kp St c₀, it = .ref I ∧ Walks prog w A I fp [I] n Pt St ∧ (∀ i h, St i h → ∃ o, h.get? I = some o) ∧ WkLoop h₀ L I fp Kp St Led ps P 0 c₀ s₂) (fun _ _ => False) s := by
  have hnew : s.heap.get? s.heap.objs.size = none := by
    cases e : s.heap.get? s.heap.objs.size with
    | none => rfl
    | some o => exact absurd (Heap.lt_size e) (Nat.lt_irrefl _)
  refine wpAny_pyIter_range hr hsmall ⟨_, _, [], _, c₀, rfl, Walks.imp (Walks.range hh _ a 1 n) (fun i v hi ⟨t, e⟩ => e ▸ (Int.mul_one (i : Int)).symm ▸ hPt i t hi), fun i h st => ⟨_, st⟩, ?_⟩
  have up : ∀ d o, s.heap.get? d = some o → (s.heap.push { cls := .type "range_iterator", data := .fields #[rawInt a, rawInt (Builtin.Range.rangeSize a b 1), rawInt 1] }).get? d = some o := fun d o e => Heap.get?_push_of_some _ e
  refine ⟨?_, ?_, ?_, ⟨m, F.keeps up, hm⟩, fun p hp => ⟨up _ _ (N p (hl1 p hp)).1, (N p (hl1 p hp)).2⟩, (fun p hp => (nomatch hp)), (fun p hp => (nomatch hp)), ?_, say _, ?_⟩
  · show Heap.get? _ _ = _
    rw [hn]
    refine (Heap.get?_push_size _ rfl).trans ?_
    simp
  · cases e : h₀.get? s.heap.objs.size with
    | none => rfl
    | some o => have := F.keep _ _ e; rw [hnew] at this; cases this
  · intro e
    obtain ⟨oL, _, _, hoL, _⟩ := id F.ns
    rw [← e, hnew] at hoL; cases hoL
  · intro p hp
    refine ⟨fun e => ?_, fun q hq => (nomatch hq)⟩
    have := (N p (hl1 p hp)).1
    rw [e, hnew] at this; cases this
  · intro b hb
    exact .inl (List.mem_singleton.mp hb)

theorem iter_str {σ : Type} {Led : σ → List (Addr × Obj)} {ps : σ → List (Str × Value)} {P : Nat → σ → Shared → Prop} {L : Addr} {y : Str} {t : Tok} (c₀ : σ) {m : Str → Option Value} {news : List (Addr × Obj)} {n : Nat} {Pt : Nat → Value → Prop}
    (hh : A.handled = none) (hn : y.cps.size = n) (hPt : ∀ i v, i < n → SignAt y i v → Pt i v)
    (F : Fr h₀ L s.heap m) (N : News h₀ L s.heap news) (hl1 : ∀ p ∈ Led c₀, p ∈ news) (hm : ∀ p ∈ ps c₀, m p.1 = some p.2) (say : ∀ h, P 0 c₀ { s with heap := h }) :
    wpAny (model prog w) A (pyIter (.str y t)) (fun it s₂ => ∃ I fp Kp St c₀, it = .ref I ∧ Walks prog w A I fp [I] n Pt St ∧ (∀ i h, St i h → ∃ o, h.get? I = some o) ∧ WkLoop h₀ L I fp Kp St Led ps P 0 c₀ s₂) (fun _ _ => False) s := by
  have hnew : s.heap.get? s.heap.objs.size = none := by
    cases e : s.heap.get? s.heap.objs.size with
    | none => rfl
    | some o => exact absurd (Heap.lt_size e) (Nat.lt_irrefl _)
  have fin : ∀ o : Obj, o.isFreed = false → (s.heap.push o).IsStrIter s.heap.objs.size (strIterType y) y t 0 →
      ∃ I fp Kp St c₀, Value.ref s.heap.objs.size = .ref I ∧ Walks prog w A I fp [I] n Pt St ∧ (∀ i h, St i h → ∃ o, h.get? I = some o) ∧ WkLoop h₀ L I fp Kp St Led ps P 0 c₀ { s with heap := s.heap.push o } := fun o hf hst => by
    have up : ∀ d o', s.heap.get? d = some o' → (s.heap.push o).get? d = some o' := fun d o' e => Heap.get?_push_of_some _ e
    refine ⟨_, _, [], _, c₀, rfl, Walks.imp (hn ▸ wk_str _ hh y t) hPt, fun i h st => let ⟨o, ho, _⟩ := st; ⟨o, ho⟩, hst, ?_, ?_, ⟨m, F.keeps up, hm⟩, fun p hp => ⟨up _ _ (N p (hl1 p hp)).1, (N p (hl1 p hp)).2⟩, (fun p hp => (nomatch hp)), (fun p hp => (nomatch hp)), ?_, say _, ?_⟩
    · cases e : h₀.get? s.heap.objs.size with
      | none => rfl
      | some o => have := F.keep _ _ e; rw [hnew] at this; cases this
    · intro e
      obtain ⟨oL, _, _, hoL, _⟩ := id F.ns
      rw [← e, hnew] at hoL; cases hoL
    · intro p hp
      refine ⟨fun e => ?_, fun q hq => (nomatch hq)⟩
      have := (N p (hl1 p hp)).1
      rw [e, hnew] at this; cases this
    · intro b hb
      exact .inl (List.mem_singleton.mp hb)
  cases ha : y.cps.all (· < 128)
  · exact wpAny_pyIter_wide ha (fin _ rfl ⟨_, Heap.get?_push_size _ rfl, by unfold strIterType; rw [ha]; rfl, rfl⟩)
  · exact wpAny_pyIter_ascii ha (fin _ rfl ⟨_, Heap.get?_push_size _ rfl, by unfold strIterType; rw [ha]; rfl, rfl⟩)
end
end

-- part B7
section
theorem rangeSize1 {a b : Int} (ha : 0 ≤ a) (hb : 0 ≤ b) : Builtin.Range.rangeSize a b 1 = ((b - a).toNat : Int) := by
  unfold Builtin.Range.rangeSize
  rw [if_pos (by decide)]
  split
  · rw [Int.ediv_one]; omega
  · omega
theorem range0 {a : Int} {n : Nat} (e : a = n) : Builtin.Range.rangeSize 0 a 1 = (n : Int) := by
  subst e; rw [rangeSize1 (by decide) (Int.natCast_nonneg n), Int.sub_zero, Int.toNat_natCast]
theorem range1 {n : Nat} : Builtin.Range.rangeSize 1 (n : Int) 1 = ((n - 1 : Nat) : Int) := by
  rw [rangeSize1 (by decide) (Int.natCast_nonneg n)]; exact congrArg Int.ofNat (Int.toNat_sub n 1)
theorem small1 {a b : Int} (ha : 0 ≤ a) (ha2 : a ≤ 100000) (hb : 0 ≤ b) (hb2 : b ≤ 100000) : Builtin.Range.small a b 1 = true := by
  unfold Builtin.Range.small
  rw [rangeSize1 ha hb]
  unfold Builtin.Range.rangeFitsLong
  simp
  omega
theorem getD_ints {vs : List Value} {ns : List Int} (hi : IntsAre vs ns) {i : Nat} {v : Value} (h : vs.toArray[i]? = some v) : ∃ t, v = .int (ns.getD i 0) t := by
  have hlt : i < ns.length := by
    rw [← hi.length]
    rw [List.getElem?_toArray] at h
    exact (List.getElem?_eq_some_iff.mp h).1
  have h1 : ns[i]? = some (ns.getD i 0) := by
    rw [List.getD_eq_getElem?_getD, List.getElem?_eq_getElem hlt]; rfl
  obtain ⟨t, ht⟩ := hi.get i _ h1
  rw [List.getElem?_toArray, ht] at h
  exact ⟨t, (Option.some.inj h).symm⟩
end

-- part B8
section
section
variable {prog : Program} {w : World} {p : Program} {loose : List Str} {A : Around} {s : Shared} {mg mb : Str → Option Value}
/-- a call of a def that may change what stands in own -/
theorem enterM {name qual : Str} {params : Arguments} {body : List Stmt} {scope : Scope} {dV kV doc pm cdv ct oc : Value} {an od : Option Addr} {osl : Array (Option Value)} {f : Addr} {pos : List Value} {kw : List (Str × Value)} {binds : List (Str × Value)} {Q : Value → Shared → Prop} {E : Value → Shared → Prop}
    {h₀ : Heap} (own : List (Addr × Obj)) (g : G w p loose mg mb h₀) (hsub : ∀ b o, h₀.get? b = some o → s.heap.get? b = some o) (hown : ∀ q ∈ own, s.heap.get? q.1 = some q.2 ∧ h₀.get? q.1 = none)
    (ho : (hd.heap_1 w.params).lookup f = some ⟨oc, od, .func (fnOf name qual params body scope dV kV doc pm an cdv ct), osl⟩) (hcd : codeIn (hd.heap_1 w.params) cdv qual = true)
    (hbind : BindsTo s (fnOf name qual params body scope dV kV doc pm an cdv ct) ⟨pos, kw⟩ binds) (hloc : ∀ y ∈ binds, scope.names.lookup y.1 = some .local)
    (hcell : ∀ x ∈ scope.names, x.2 ≠ .cell)
    (h : ∀ hb L h₁, Fr hb L h₁ (fun y => binds.reverse.lookup y) → News hb L h₁ own → G w p loose mg mb hb → (hd.heap_1 w.params).In hb → TopRead p loose mg mb hb → hb.objs.size = s.heap.objs.size → (∀ b o, hb.get? b = some o → s.heap.get? b = some o) → (∀ b o, b ∉ own.map (·.1) → s.heap.get? b = some o → hb.get? b = some o) →
      wpAny (model prog w) (A.deeper (envOf qual scope L f cdv)) (execs body (envOf qual scope L f cdv))
        (fun fl s' => Q (match fl with | .ret v => v | _ => .none) s') (fun _ _ => False) { s with heap := h₁, toks := s.toks + binds.length })
    (hroom : A.depth < recursionLimit)
    (hco : scope.isCoroutine = false) (hgen : scope.isGenerator = false) (hk : scope.kind = .function) :
    wpAny (model prog w) A (PySem.call (.ref f) pos kw) Q E s := by
  have gs : G w p loose mg mb s.heap := g.keeps hsub
  have gb : G w p loose mg mb (hideAll s.heap (own.map (·.1))) := g.keeps fun b o e => hideAll_get _ (hsub b o e) fun hm => by
    obtain ⟨q, hq, rfl⟩ := List.mem_map.mp hm
    rw [(hown q hq).2] at e; cases e
  refine wpAny_call (codeAny_call_def (fd := fnOf name qual params body scope dV kV doc pm an cdv ct) (body := body) (binds := binds) hroom (gs.X _ _ ho) rfl gs.T.nolimit (codeRec_of gs.X hcd) rfl hbind hcell hloc (fun h₁ hns hk₁ => ?_) hco hgen hk)
  refine wpAny_mono (h _ s.heap.objs.size h₁ ⟨hns, fun b o e => hk₁ b o (of_hideAll _ e), Nat.le_of_eq (hideAll_size _ _)⟩ (fun q hq => ⟨hk₁ _ _ (hown q hq).1, Nat.ne_of_lt (Heap.lt_size (hown q hq).1), hideAll_none _ (List.mem_map_of_mem hq)⟩) gb gb.X gb.T (hideAll_size _ _) (fun b o e => of_hideAll _ e) (fun b o hm e => hideAll_get _ e hm)) (fun fl s' hl => hl) (fun _ _ x => x.elim)
end
end

-- part B9
section
section
variable {prog : Program} {w : World} {p : Program} {loose : List Str} {A : Around} {s : Shared} {mg mb : Str → Option Value}
/-- a call of a def with cells -/
theorem enterC {name qual : Str} {params : Arguments} {body : List Stmt} {scope : Scope} {dV kV doc pm cdv ct oc : Value} {an od : Option Addr} {osl : Array (Option Value)} {f : Addr} {pos : List Value} {kw : List (Str × Value)} {binds : List (Str × Value)} {Q : Value → Shared → Prop} {E : Value → Shared → Prop}
    (g : G w p loose mg mb s.heap)
    (ho : (hd.heap_1 w.params).lookup f = some ⟨oc, od, .func (fnOf name qual params body scope dV kV doc pm an cdv ct), osl⟩) (hcd : codeIn (hd.heap_1 w.params) cdv qual = true)
    (hbind : BindsTo s (fnOf name qual params body scope dV kV doc pm an cdv ct) ⟨pos, kw⟩ binds)
    (hkind : ∀ n, ∀ x ∈ binds, scope.names.lookup x.1 = some .local ∨ (scope.names.lookup x.1 = some .cell ∧ ((cellsFrom n scope.names []).lookup x.1).isSome = true))
    (hnd : ((cellsFrom 0 scope.names []).map (·.1)).Nodup)
    (h : ∀ L h₁ tk cells, Fr s.heap L h₁ (bindL (envOfC qual scope L f cdv).kindOf binds fun _ => none) → News s.heap L h₁ cells → CellsAre (bindC (envOfC qual scope L f cdv).kindOf binds fun _ => none) (cellsFrom (L + 1) scope.names []) cells → (hd.heap_1 w.params).In s.heap → TopRead p loose mg mb s.heap →
      wpAny (model prog w) (A.deeper (envOfC qual scope L f cdv)) (execs body (envOfC qual scope L f cdv))
        (fun fl s' => Q (match fl with | .ret v => v | _ => .none) s') (fun _ _ => False) { s with heap := h₁, toks := tk })
    (hroom : A.depth < recursionLimit)
    (hco : scope.isCoroutine = false) (hgen : scope.isGenerator = false) (hk : scope.kind = .function) :
    wpAny (model prog w) A (PySem.call (.ref f) pos kw) Q E s := by
  refine wpAny_call (codeAny_call_function hroom (g.X _ _ ho) rfl hco hgen rfl (codeRec_of g.X hcd) (hbind _ _ _ _ ?_))
  refine wpAny_newFunctionEnv_cells hk (hkind _) fun env' he s' x => ?_
  subst he
  refine ⟨g.T.nolimit.keeps x.toInCall.keep, codeAny_func ?_⟩
  obtain ⟨h₁, tk, rfl, _⟩ := x.done
  have hk₁ := x.toInCall.keep
  obtain ⟨cells, NC, Y⟩ := Cl.news (h₀ := s.heap) (Nat.le_refl _) fun n c hm => ⟨x.cell n c (lookup_of_mem_nodup (cellsFrom_names scope.names 0 (s.heap.objs.size + 1) [] [] rfl ▸ hnd) hm), x.above n c hm⟩
  exact wpAny_mono (h s.heap.objs.size h₁ tk cells ⟨x.toInCall.ns, hk₁, Nat.le_refl _⟩ NC Y g.X g.T) (fun fl s' hl => hl) (fun _ _ x => x.elim)
end
end

-- part L1
section
theorem fresh_L1 : True := by
  k_with_none
  exact trivial
local macro_rules | `(tactic| walk_at "m_all") => `(tactic| ((repeat' (first | exact List.forall_mem_nil _ | refine List.forall_mem_cons.mpr ⟨?_, ?_⟩)) <;> (with_unfolding_all rfl)))
local macro_rules | `(tactic| walk_at "m_enter") => `(tactic| (
  (case ho => k_is); (case hcd => k_is); (case hb => exact kp_binds (by assumption) (fun _ => rfl)); (case hl => exact locs rfl); (case hc => decide); (case hr => exact Nat.le_of_ble_eq_true rfl); (case h1 => rfl); (case h2 => rfl); (case h3 => rfl)))

noncomputable def levStep (ls : List Int) (x : Int) : List Int := ls ++ [x.fmod (ls.getD (ls.length - 1) 0 + 2)]
theorem getD_nonneg {ls : List Int} (h : ∀ z ∈ ls, 0 ≤ z) (k : Nat) : 0 ≤ ls.getD k 0 := by
  rw [List.getD_eq_getElem?_getD]
  cases e : ls[k]? with
  | none => exact Int.le_refl _
  | some z => exact h z (List.mem_of_getElem? e)
theorem take_snoc {α : Type} {xs : List α} {i : Nat} (d : α) (h : i < xs.length) : xs.take (i + 1) = xs.take i ++ [xs.getD i d] := by
  rw [List.take_succ, List.getElem?_eq_getElem h, List.getD_eq_getElem?_getD, List.getElem?_eq_getElem h]; rfl
noncomputable def levR (xs : List Int) : List Int := (xs.take (xs.length - 1)).foldl levStep [0]

local macro_rules | `(tactic| walk_at "call builtin:list.append") => `(tactic| ((refine append_head (by assumption) (by assumption) (by assumption) ?_ (by assumption)); intro _ _ _))
theorem levels_spec {w : World} {p : Program} {loose : List Str} {mg mb : Str → Option Value}
  {s : Shared} {Q E : Value → Shared → Prop} {l : Addr} {vs : List Value} {ns : List Int}
  (g : G w p loose mg mb s.heap) (hl : s.heap.IsList l vs.toArray) (hi : IntsAre vs ns) (hlen : ns.length < 100) (hpos : 0 < ns.length)
  (hret : ∀ r its n s', s'.heap.get? r = some { cls := .type "list", data := .seq its n } → s.heap.get? r = none → IntsAre its.toList (levR ns) → Ev [] s s' → Q (.ref r) s') :
  wpAny (model PySem.Challenge.rw_us0006_01.row.prog w) (UU 480 1800) (call (.ref 123) [.ref l]) Q E s := by
  have X := g.X
  revert X; k_fill; intro X
  refine' enter (pos := [.ref l]) (kw := []) (binds := [("drawn", .ref l)]) g ?ho ?hcd ?hb ?hl ?hc ?_ ?hr ?h1 ?h2 ?h3
  walk_at "m_enter"
  intro L h₁ F N X T
  k_with "exec For" => (refine stop ?_)
  k_steps
  refine ⟨?_⟩
  (rename Fr _ _ _ _ => F0); (rename News _ _ _ _ => N0)
  rename_i rl hb1 hb2 hb3
  refine for_walk (h₀ := s.heap) (n := ns.length - 1) (Pt := fun i v => ∃ t, v = .int ((ns.take (ns.length - 1)).getD i 0) t) (σ := List Value × Nat × List Int) (fun c => [(rl, { cls := .type "list", data := .seq c.1.toArray c.2.1 })])
    (fun c => [("levels", .ref rl)]) (fun i c s' => Same s s' ∧ IntsAre c.1 c.2.2 ∧ c.2.2 = ((ns.take (ns.length - 1)).take i).foldl levStep [0] ∧ c.2.2.length = i + 1 ∧ ∀ z ∈ c.2.2, 0 ≤ z) [rl] (fun _ => rfl) rfl rfl (fun _ _ _ _ _ h => ⟨h.1.to, h.2⟩) ?_ ?_ ?hn1 ?_ (fun _ => rfl)
  case hn1 => intro c; simp only [List.forall_mem_cons]; decide
  · k_with "pyIter ref" => (refine stop ?_)
    k_steps
    (rename Fr _ _ _ _ => F1); (rename News _ _ _ _ => N1); (rename (IntsAre _ (List.take _ _)) => hI1); (rename (_ < _) => hlt)
    refine ⟨?_⟩
    have hn : (List.take (ns.length - 1) ns).length = ns.length - 1 := by rw [List.length_take]; omega
    refine iter_list ([.int 0 _], 0, [0]) rfl (by exact N1.isList (.head _)) (List.size_toArray.trans (hI1.length.trans hn)) ?_ [(_, _)] (.inr (.inr ⟨_, List.mem_singleton.mpr rfl⟩)) (by intro p hp; rw [List.mem_singleton.mp hp]; exact .head _) ?_ F1 N1 (by intro p hp; rw [List.mem_singleton.mp hp]; exact .tail _ (.head _)) (by walk_at "m_all") (fun h => ⟨⟨rfl, rfl, rfl⟩, .cons _ _ .nil, rfl, rfl, by simp⟩)
    · intro i v hi hv
      have h1 : (List.take (ns.length - 1) ns)[i]? = some ((List.take (ns.length - 1) ns).getD i 0) := by
        rw [List.getD_eq_getElem?_getD, List.getElem?_eq_getElem (by omega)]; rfl
      obtain ⟨t, ht⟩ := hI1.get i _ h1
      rw [List.getElem?_toArray, ht] at hv
      exact ⟨t, (Option.some.inj hv).symm⟩
    · intro p hp q hq
      rw [List.mem_singleton.mp hp, List.mem_singleton.mp hq]
      exact Nat.ne_of_gt hlt
  · (rintro i ⟨its, nn, ls⟩ v u s2 own hi2 ⟨tv, rfl⟩ hz1 F1 N1 hap; refine goal_cut fun Gz hGz => ?_; obtain ⟨hs, hI, hls, hln, hnn⟩ := hz1; refine hGz ?_; clear hGz Gz)
    dsimp only [List.cons_append, List.nil_append] at F1 N1 hap hI hls hln hnn
    rw [List.forall_mem_singleton] at hap
    have hvl := hI.length
    have hsm : its.toArray.size ≤ sizeLine := by rw [List.size_toArray, sizeLine_eq]; omega
    have hge : 0 ≤ ls.getD (ls.length - 1) 0 := getD_nonneg hnn _
    have ei : (-1 + (ls.length : Int)).toNat = ls.length - 1 := tn_pred _
    k_steps
    · exfalso
      (rename (_ + 2 = 0) => hz)
      rw [ei] at hz; omega
    · (rename Fr _ _ _ _ => F2); (rename News _ _ _ _ => N2); (rename (_ ≠ _) => hz)
      rw [ei] at N2
      refine ⟨(its ++ [.int (((List.take (ns.length - 1) ns).getD i 0).fmod (ls.getD (ls.length - 1) 0 + 2)) ?tt], ?nn, levStep ls ((List.take (ns.length - 1) ns).getD i 0)), _, _, ⟨?gs, ?g1, ?g2, ?g3, ?g4⟩, F2, N2, ?g5, fun p hp => List.mem_cons_of_mem _ hp, ?g6⟩
      case g5 => intro p hp; rw [List.mem_singleton.mp hp]; rw [← List.push_toArray]; exact List.mem_cons_self ..
      case g6 => walk_at "m_all"
      case gs => exact hs.to
      case g1 => exact hI.append (.cons _ _ .nil)
      case g2 =>
        dsimp only
        rw [take_snoc 0 (by rw [List.length_take]; omega), List.foldl_append, ← hls]
        rfl
      case g3 => unfold levStep; rw [List.length_append]; dsimp only [List.length_singleton]; rw [hln]
      case g4 =>
        intro z hz2
        rcases List.mem_append.mp hz2 with h | h
        · exact hnn z h
        · rw [List.mem_singleton.mp h]; exact Int.fmod_nonneg_of_pos _ (by omega)
  · (rintro ⟨its, nn, ls⟩ u s2 hz1 F1 N1; refine goal_cut fun Gz hGz => ?_; obtain ⟨hs, hI, hls, hln, hnn⟩ := hz1; refine hGz ?_; clear hGz Gz)
    dsimp only at F1 N1 hI hls hln
    have hq : ∀ tk, Q (.ref rl) { s2 with toks := tk } := fun tk => by
      refine hret rl its.toArray nn _ (N1.get (.head _)) (N1 _ (.head _)).2.2 ?_ ⟨fun b o _ e => F1.keep b o e, hs.drawn, hs.os, fun h => ?_⟩
      · rw [List.toList_toArray, show levR ns = ls from ?_]
        · exact hI
        · rw [hls]; unfold levR; rw [List.take_take, Nat.min_self]
      · show AllBare s2.gens
        rw [hs.gens]; exact h
    k_steps
    exact hq _
end

-- part S1
section
theorem fresh_S1 : True := by
  k_with_none
  exact trivial
local macro_rules | `(tactic| walk_at "m_all") => `(tactic| ((repeat' (first | exact List.forall_mem_nil _ | refine List.forall_mem_cons.mpr ⟨?_, ?_⟩)) <;> (with_unfolding_all rfl)))
local macro_rules | `(tactic| walk_at "m_enter") => `(tactic| (
  (case ho => k_is); (case hcd => k_is); (case hb => exact kp_binds (by assumption) (fun _ => rfl)); (case hl => exact locs rfl); (case hc => decide); (case hr => exact Nat.le_of_ble_eq_true rfl); (case h1 => rfl); (case h2 => rfl); (case h3 => rfl)))
local macro_rules | `(tactic| walk_at "call builtin:list.append") => `(tactic| ((refine append_head (by assumption) (by assumption) (by assumption) ?_ (by assumption)); intro _ _ _))

structure StS where
  start : Int
  op : Option Int
  res : List Str

noncomputable def stStep (x : Str) (c : StS) (y : Int × Str) : StS :=
  if (y.2 == Str.ofString "\"") = true then
    match c.op with
    | none => { c with op := some y.1 }
    | some o => ⟨y.1 + 1, none, if c.start = o then c.res else c.res ++ [Txt.slice x (some c.start) (some o)]⟩
  else c

noncomputable def stripR (x : Str) : Str :=
  if (Builtin.Str.occurrences x (Str.ofString "\"") 0 x.length 1).isEmpty = true then x else
    let c := (escY x.cps.toList 0 false 0).foldl (stStep x) ⟨0, none, []⟩
    Txt.join ⟨#[]⟩ (if c.start < (x.length : Int) then c.res ++ [Txt.slice x (some c.start) none] else c.res)

theorem escY_len : ∀ (l : List Nat) (i : Nat) (e : Bool) (k : Int), (escY l i e k).length ≤ l.length + 1
  | [], _, e, _ => by cases e <;> simp [escY]
  | c :: r, i, true, _ => by simpa [escY] using escY_len r (i + 1) false i
  | c :: r, i, false, _ => by
    unfold escY
    split
    · have := escY_len r (i + 1) true i; simp only [List.length_cons]; omega
    · have := escY_len r (i + 1) false i; simp only [List.length_cons]; omega

/-- where the loop of _strip_quoted_realnames stands -/
structure StP (x : Str) (fin : StS) (c : StS) (vs : Array Value) (ys : List (Int × Str)) : Prop where
  is : StrsAre vs.toList c.res
  goes : ys.foldl (stStep x) c = fin
  few : c.res.length + ys.length ≤ 501
  short : ∀ y ∈ c.res, y.length ≤ x.length

theorem StP.small {x : Str} {fin c : StS} {vs : Array Value} {ys : List (Int × Str)} (h : StP x fin c vs ys) : vs.size ≤ sizeLine := by
  have h1 := h.is.length
  have h2 := h.few
  rw [Array.length_toList] at h1
  rw [sizeLine_eq]; omega

theorem sum_len_le : ∀ (r : List Str) (n : Nat), (∀ z ∈ r, z.length ≤ n) → (r.map (·.length)).sum ≤ r.length * n
  | [], _, _ => Nat.zero_le _
  | z :: r, n, h => by
    have := sum_len_le r n fun y hy => h y (.tail _ hy)
    have hz := h z (.head _)
    rw [List.map_cons, List.sum_cons, List.length_cons, Nat.succ_mul]; omega

theorem strip_spec {w : World} {p : Program} {loose : List Str} {mg mb : Str → Option Value}
  {s : Shared} {Q E : Value → Shared → Prop} {x : Str} {t : Tok}
  (g : G w p loose mg mb s.heap) (hlen : x.cps.size ≤ 500) (hesc : escE x.cps.toList false = false)
  (hret : ∀ t' s', Ev [] s s' → Q (.str (stripR x) t') s') :
  wpAny (model PySem.Challenge.rw_us0006_01.row.prog w) (UU 490 1900) (call (.ref 62) [.str x t]) Q E s := by
  have X := g.X
  have hlen' : x.length ≤ 500 := hlen
  revert X; k_fill; intro X
  refine' enter (pos := [.str x t]) (kw := []) (binds := [("addr", .str x t)]) g ?ho ?hcd ?hb ?hl ?hc ?_ ?hr ?h1 ?h2 ?h3
  walk_at "m_enter"
  intro L h₁ F N X T
  k_with "exec For" => (refine stop ?_)
  k_steps
  · (rename ((Builtin.Str.occurrences _ _ _ _ _).isEmpty = true) => he)
    have e : stripR x = x := by unfold stripR; rw [if_pos he]
    have hq : ∀ tk, Q (.str x t) { s with heap := h₁, toks := tk } := fun tk => by
      have := hret t { s with heap := h₁, toks := tk } ⟨fun b o _ e => F.keep b o e, rfl, rfl, id⟩
      rw [e] at this; exact this
    exact hq _
  (rename Fr _ _ _ _ => F0); (rename News _ _ _ _ => N0); (rename ((Builtin.Str.occurrences _ _ _ _ _).isEmpty = false) => he)
  refine ⟨?_⟩
  have hlim := T.nolimit
  rename_i rl hb1 hb2 hb3
  refine for_esc (w := w) (h₀ := s.heap) (ys₀ := escY x.cps.toList 0 false 0) (sh := s) (σ := StS × Tok × Tok × Array Value × Nat) (fun c => [(rl, { cls := .type "list", data := .seq c.2.2.2.1 c.2.2.2.2 })])
    (fun c => [("addr", .str x t), ("start", .int c.1.start c.2.1), ("open_pos", match c.1.op with | none => .none | some o => .int o c.2.2.1), ("result", .ref rl)])
    (fun c ys => StP x ((escY x.cps.toList 0 false 0).foldl (stStep x) ⟨0, none, []⟩) c.1 c.2.2.2.1 ys) [rl] (fun _ => rfl) rfl (Nat.le_of_ble_eq_true rfl) (Nat.le_of_ble_eq_true rfl) ?hn1 ?hn2 (by decide) rfl rfl rfl hlim ?_ ?_ ?_ (fun _ => rfl)
  case hn1 => intro c; simp only [List.forall_mem_cons]; decide
  case hn2 => intro c; simp only [List.forall_mem_cons]; decide
  · k_with "call ref" => (refine stop ?_)
    k_steps
    refine ⟨?_⟩
    refine of_U (esc_call (hb := s.heap) g F0.keep ?_ hesc ?_)
    · obtain ⟨o, _, _, ho, _⟩ := id F0.ns
      exact Nat.le_trans F0.above (Nat.le_of_lt (Heap.lt_size ho))
    · intro a own s' gs hgs hE hown hk hb hdr hos
      have el := escY_len x.cps.toList 0 false 0
      obtain ⟨oL, _, _, hoL, _⟩ := id F0.ns
      refine ⟨a, _, (⟨0, none, []⟩, _, 0, #[], 0), own, rfl, hE, ⟨_, fr_move' F0 (hk _) (fun b o e => hk b o (F0.keep b o e)), by walk_at "m_all"⟩, fun q hq => ⟨hk _ _ (N0 q hq).1, (N0 q hq).2⟩, ?_, ?_, ⟨.nil, rfl, ?_, by simp⟩, hdr, hos, ?_⟩
      · intro q hq e
        have h1 := hown q hq
        have h2 : _ = some oL := hoL
        rw [e] at h1
        exact absurd (h1.symm.trans h2) (by simp)
      · intro q hq hm
        obtain ⟨q', hq', e⟩ := List.mem_map.mp hm
        have h1 := hown q' hq'
        rw [e] at h1
        exact absurd (h1.symm.trans (N0 q hq).1) (by simp)
      · have : x.cps.toList.length = x.cps.size := by simp
        show 0 + _ ≤ 501
        omega
      · intro hbs
        rw [hgs]
        exact hbs.push hb
  · rintro ⟨⟨st, op, res⟩, ts, to, vs, nn⟩ y r u s2 own ti ty hP hsh F1 N1 hap
    have hsm := hP.small
    cases op with
    | none =>
      dsimp only at hP F1 N1
      k_steps
      · (rename Fr _ _ _ _ => F2); (rename News _ _ _ _ => N2); (rename ((_ == Str.ofString "\"") = true) => hc)
        refine ⟨(⟨st, some y.1, res⟩, ts, _, vs, nn), _, _, ⟨hP.is, ?_, ?_, hP.short⟩, F2, N2, ?_, ?_, by walk_at "m_all", ⟨rfl, rfl, rfl⟩⟩
        · have := hP.goes
          rw [List.foldl_cons] at this
          rw [show stStep x ⟨st, none, res⟩ y = ⟨st, some y.1, res⟩ from by unfold stStep; rw [if_pos hc]] at this
          exact this
        · have := hP.few; rw [List.length_cons] at this; dsimp only at this ⊢; omega
        · exact fun p hp => List.mem_append_left _ hp
        · exact fun p hp => List.mem_append_right _ hp
      · (rename ((_ == Str.ofString "\"") = false) => hc)
        refine ⟨(⟨st, none, res⟩, ts, to, vs, nn), _, _, ⟨hP.is, ?_, ?_, hP.short⟩, F1, N1, ?_, ?_, by walk_at "m_all", ⟨rfl, rfl, rfl⟩⟩
        · have := hP.goes
          rw [List.foldl_cons] at this
          rw [show stStep x ⟨st, none, res⟩ y = ⟨st, none, res⟩ from by unfold stStep; rw [if_neg (by rw [hc]; exact Bool.false_ne_true)]] at this
          exact this
        · have := hP.few; rw [List.length_cons] at this; dsimp only at this ⊢; omega
        · exact fun p hp => List.mem_append_left _ hp
        · exact fun p hp => List.mem_append_right _ hp
    | some o =>
      dsimp only [List.cons_append, List.nil_append] at hP F1 N1 hsm hap
      rw [List.forall_mem_singleton] at hap
      k_steps
      · (rename Fr _ _ _ _ => F2); (rename News _ _ _ _ => N2); (rename ((_ == Str.ofString "\"") = true) => hc); (rename (st ≠ o) => hne); (rename ((Txt.slice _ _ _).length ≤ _) => hsl)
        refine ⟨(⟨y.1 + 1, none, res ++ [Txt.slice x (some st) (some o)]⟩, ?ts, to, vs.push ?v, ?n), _, _, ?g1, F2, N2, ?g3, fun p hp => List.mem_cons_of_mem _ hp, ?g2, ⟨rfl, rfl, rfl⟩⟩
        case g3 => intro p hp; rw [List.mem_singleton.mp hp]; exact List.mem_cons_self ..
        case g2 => walk_at "m_all"
        refine ⟨?_, ?_, ?_, ?_⟩
        · exact strsAre_push hP.is
        · have := hP.goes
          rw [List.foldl_cons] at this
          rw [show stStep x ⟨st, some o, res⟩ y = ⟨y.1 + 1, none, res ++ [Txt.slice x (some st) (some o)]⟩ from by unfold stStep; rw [if_pos hc]; dsimp only; rw [if_neg hne]] at this
          exact this
        · have := hP.few; rw [List.length_cons] at this; dsimp only at this ⊢; rw [List.length_append, List.length_singleton]; omega
        · intro z hz
          rcases List.mem_append.mp hz with h | h
          · exact hP.short z h
          · rw [List.mem_singleton.mp h]; exact hsl
      · (rename Fr _ _ _ _ => F2); (rename News _ _ _ _ => N2); (rename ((_ == Str.ofString "\"") = true) => hc); (rename (st = o) => hne)
        refine ⟨(⟨y.1 + 1, none, res⟩, _, to, vs, nn), _, _, ⟨hP.is, ?_, ?_, hP.short⟩, F2, N2, ?_, ?_, by walk_at "m_all", ⟨rfl, rfl, rfl⟩⟩
        · have := hP.goes
          rw [List.foldl_cons] at this
          rw [show stStep x ⟨st, some o, res⟩ y = ⟨y.1 + 1, none, res⟩ from by unfold stStep; rw [if_pos hc]; dsimp only; rw [if_pos hne]] at this
          exact this
        · have := hP.few; rw [List.length_cons] at this; dsimp only at this ⊢; omega
        · exact fun p hp => by rw [List.mem_singleton.mp hp]; exact List.mem_cons_self ..
        · exact fun p hp => List.mem_cons_of_mem _ hp
      · (rename ((_ == Str.ofString "\"") = false) => hc)
        refine ⟨(⟨st, some o, res⟩, ts, to, vs, nn), _, _, ⟨hP.is, ?_, ?_, hP.short⟩, F1, N1, ?_, ?_, by walk_at "m_all", ⟨rfl, rfl, rfl⟩⟩
        · have := hP.goes
          rw [List.foldl_cons] at this
          rw [show stStep x ⟨st, some o, res⟩ y = ⟨st, some o, res⟩ from by unfold stStep; rw [if_neg (by rw [hc]; exact Bool.false_ne_true)]] at this
          exact this
        · have := hP.few; rw [List.length_cons] at this; dsimp only at this ⊢; omega
        · exact fun p hp => by rw [List.mem_singleton.mp hp]; exact List.mem_cons_self ..
        · exact fun p hp => List.mem_cons_of_mem _ hp
  · rintro ⟨⟨st, op, res⟩, ts, to, vs, nn⟩ u s2 hP hsh F1 N1
    have hsm := hP.small
    dsimp only at hP F1 N1 hsm
    have hap : ∀ p ∈ ([] : List (Addr × Obj)), p.1 ≠ rl := by simp
    have hw : ∀ r : List Str, r.length ≤ 502 → (∀ z ∈ r, z.length ≤ x.length) → (r.map (·.length)).sum + r.length ≤ 1048576 := fun r hr hz => by
      have := sum_len_le r x.length hz
      have h2 : r.length * x.length ≤ 502 * 500 := Nat.mul_le_mul hr hlen'
      omega
    have hlr := hP.few
    have hfin : (escY x.cps.toList 0 false 0).foldl (stStep x) ⟨0, none, []⟩ = ⟨st, op, res⟩ := hP.goes.symm
    have hstr : stripR x = Txt.join ⟨#[]⟩ (if st < (x.length : Int) then res ++ [Txt.slice x (some st) none] else res) := by
      unfold stripR; rw [if_neg (by rw [he]; exact Bool.false_ne_true), hfin]
    rw [hstr] at hret
    k_with "call method str list" => (refine stop ?_)
    k_with "call builtin:str.join" => (refine stop ?_)
    k_steps
    · (rename Fr _ _ _ _ => F2); (rename News _ _ _ _ => N2); (rename (st < _) => hlt); (rename ((Txt.slice _ _ _).length ≤ _) => hsl)
      refine ⟨?_⟩
      refine join_listW (x := Str.ofString "") (ys := res ++ [Txt.slice x (some st) none]) (by exact N2.isList (.head _)) ?_ (Nat.le_of_ble_eq_true rfl) (hw _ ?_ ?_) ?_
      · exact strsAre_push hP.is
      · rw [List.length_append, List.length_singleton]; dsimp only at hlr; omega
      · intro z hz
        rcases List.mem_append.mp hz with h | h
        · exact hP.short z h
        · rw [List.mem_singleton.mp h]; exact hsl
      · intro t' k
        rw [if_pos hlt] at hret
        exact hret t' _ ⟨fun b o _ e => F2.keep b o e, hsh.drawn, hsh.os, hsh.bare⟩
    · (rename (¬ st < _) => hlt)
      refine ⟨?_⟩
      refine join_listW (x := Str.ofString "") (ys := res) (by exact N1.isList (.head _)) hP.is (Nat.le_of_ble_eq_true rfl) (hw _ ?_ hP.short) ?_
      · dsimp only at hlr; omega
      · intro t' k
        rw [if_neg hlt] at hret
        exact hret t' _ ⟨fun b o _ e => F1.keep b o e, hsh.drawn, hsh.os, hsh.bare⟩
end

-- part J1
section
theorem fresh_J1 : True := by
  k_with_none
  exact trivial
theorem wpAny_callBorrowed {M : Model} {A : Around} {f : Value} {pos : List Value} {Q : Value → Shared → Prop} {E : Value → Shared → Prop} {s : Shared} (h : wpAny M A (call f pos []) Q E s) : wpAny M A (callBorrowed f pos) Q E s := fun Γ p hΓ => by
  have h1 := h Γ p hΓ
  unfold call at h1
  rw [Sem.wp_runValue] at h1
  refine wpCode_mono (fun r s' hr => ?_) h1
  cases r with
  | ok fl => cases fl <;> exact hr
  | error e => exact hr

/-- an iterator over a text, at k; behind the end when k is more than its length -/
noncomputable def sO (x : Str) (t : Tok) (k : Nat) : Obj :=
  { cls := .type (strIterType x), data := .fields #[if k ≤ x.cps.size then .str x t else .none, .int (if k ≤ x.cps.size then k else x.cps.size : Nat) 0] }

theorem upd_fields {h : Heap} {a : Addr} {ty : Value} {xs : Array Value} {f : Array Value → Array Value} (ho : h.get? a = some { cls := ty, data := .fields xs }) :
    (h.update a (Obj.mapFields f)).get? a = some { cls := ty, data := .fields (f xs) } := by
  rw [Heap.get?_update_self _ ho (Obj.isFreed_of_fields (Obj.data_mapFields (vs := xs) rfl _))]
  rfl

section
variable {prog : Program} {w : World} {A : Around} {E : Value → Shared → Prop} {s : Shared}

theorem iter_of_str {x : Str} {t : Tok} {Q : Value → Shared → Prop} (h : ∀ h' I, h'.get? I = some (sO x t 0) → s.heap.get? I = none → (∀ b o, s.heap.get? b = some o → h'.get? b = some o) → Q (.ref I) { s with heap := h' }) :
    wpAny (model prog w) A (call (.builtin "iter") [.str x t]) Q E s := by
  refine call_function_entry (by decide +kernel) (by decide +kernel) kdk_entry_iter (kdk_args_iter _) ?_
  unfold Builtin.«iter»
  refine wpAny_bind (m := someArgs "iter" 1 2 _) (wpAny_of_eq (a := [Value.str x t]) (by first | rfl | kernel_rfl!) ?_)
  show wpAny _ _ (pyIter (.str x t) >>= _) _ _ _
  have hn : s.heap.get? s.heap.objs.size = none := by
    cases e : s.heap.get? s.heap.objs.size with
    | none => rfl
    | some o => exact absurd (Heap.lt_size e) (Nat.lt_irrefl _)
  cases ha : x.cps.all (· < 128)
  · refine wpAny_bind (wpAny_pyIter_wide ha (wpAny_pure ⟨_, rfl, h _ _ ?_ hn fun b o e => Heap.get?_push_of_some _ e⟩))
    rw [Heap.get?_push_size _ rfl]; unfold sO strIterType; rw [ha]; rfl
  · refine wpAny_bind (wpAny_pyIter_ascii ha (wpAny_pure ⟨_, rfl, h _ _ ?_ hn fun b o e => Heap.get?_push_of_some _ e⟩))
    rw [Heap.get?_push_size _ rfl]; unfold sO strIterType; rw [ha]; rfl

theorem sO_in {x : Str} {t : Tok} {k : Nat} (h : k ≤ x.cps.size) : sO x t k = { cls := .type (strIterType x), data := .fields #[.str x t, .int (k : Int) 0] } := by
  unfold sO; rw [if_pos h, if_pos h]
theorem sO_end {x : Str} {t : Tok} : sO x t (x.cps.size + 1) = { cls := .type (strIterType x), data := .fields #[.none, .int (x.cps.size : Int) 0] } := by
  unfold sO; rw [if_neg (by omega), if_neg (by omega)]


theorem stop_new {α : Type} {Q : α → Shared → Prop} (hh : A.handled = none) (hE : ∀ e h', (∀ b o, s.heap.get? b = some o → h'.get? b = some o) → (∃ o, h'.get? e = some o ∧ o.cls = .type "StopIteration") → E (.ref e) { s with heap := h' }) :
    wpAny (model prog w) A (do raiseNew (← newExc (.type "StopIteration") []) : Sem α) Q E s := by
  show wpAny _ _ (newExc (.type "StopIteration") [] >>= _) _ _ _
  refine wpAny_bind ?_
  simp only [newExc, newTuple]
  refine wpAny_bind (wpAny_newObj_type ?_ (by size_fits))
  refine wpAny_bind (m := firstArgMember _ _) (wpAny_of_eq (a := Value.none) (by first | rfl | (simp only [firstArgMember]; rfl)) ?_)
  refine wpAny_newObj_type ?_ (by size_fits)
  simp only [raiseNew]
  refine wpAny_bind (wpAny_handled ?_)
  rw [hh]
  refine wpAny_bind (wpAny_pure (wpAny_throw ?_))
  exact hE _ _ (fun b o e => Heap.get?_push_of_some _ (Heap.get?_push_of_some _ e)) ⟨_, Heap.get?_push_size _ rfl, rfl⟩

/-- it is a StopIteration -/
noncomputable def IsStop (e : Value) (s : Shared) : Prop := ∃ a o, e = .ref a ∧ s.heap.get? a = some o ∧ o.cls = .type "StopIteration"

theorem pyNext_slot {ty id : String} {b : Builtin} {it : Addr} {Q : Option Value → Shared → Prop} (hT : s.TypeIs (.ref it) ty) (hsl : Slot ty "__next__" id) (hb : entryFor table id = some b) (hargs : ∀ a, argsOk id ⟨[a], []⟩)
    (body : wpAny (model prog w) A.in1 (b ⟨[.ref it], []⟩) (fun fin s' => ∃ v, fin = .done (.ret v) ∧ Q (some v) s') (fun e s' => IsStop e s' ∧ Q none s') s) :
    wpAny (model prog w) A (pyNext (.ref it)) Q E s := by
  unfold pyNext
  refine wpAny_bind (wpAny_attempt (wpAny_callSpecial?_slot (name := Str.ofString "__next__") hT hsl (wpAny_call_entry hsl hT hb ?_ (hargs _))))
  refine wpAny_mono body (fun fin s' h => ?_) (fun e s' h => ?_)
  · obtain ⟨v, rfl, h⟩ := h
    exact ⟨v, rfl, wpAny_pure h⟩
  · obtain ⟨⟨a, o, rfl, ho, hc⟩, h⟩ := h
    exact wpAny_bind (wpAny_isInstance (T := "StopIteration") (b := true) ⟨_, ho, hc⟩ isSubtype_stop (wpAny_pure h))

/-- the body of the text iterators' __next__ -/
theorem strNext_body {x : Str} {t : Tok} {it : Addr} {k : Nat} {b : Builtin} {Q : Fin → Shared → Prop} (hb : b = Builtin.«str_ascii_iterator.__next__» ∨ b = Builtin.«str_iterator.__next__») (hh : A.handled = none) (ho : s.heap.get? it = some (sO x t k)) (hk : k ≤ x.cps.size + 1)
    (hitem : ∀ c tk h', x.cps[k]? = some c → h'.get? it = some (sO x t (k + 1)) → (∀ b o, b ≠ it → s.heap.get? b = some o → h'.get? b = some o) → Q (.done (.ret (.str ⟨#[c]⟩ tk))) { s with heap := h', toks := s.toks + 1 })
    (hend : ∀ e h', x.cps[k]? = none → h'.get? it = some (sO x t (x.cps.size + 1)) → (∀ b o, b ≠ it → s.heap.get? b = some o → h'.get? b = some o) → IsStop e { s with heap := h' } → E e { s with heap := h' }) :
    wpAny (model prog w) A (b ⟨[.ref it], []⟩) Q E s := by
  by_cases hke : k ≤ x.cps.size
  · rw [sO_in hke] at ho
    cases hx : x.cps[k]? with
    | some c =>
      have hlt : k < x.cps.size := by
        rcases Nat.lt_or_ge k x.cps.size with h | h
        · exact h
        · rw [Array.getElem?_eq_none h] at hx; cases hx
      rcases hb with rfl | rfl <;>
      · show wpAny _ _ (field (.ref it) 0 >>= _) _ _ s
        refine wpAny_bind (wpAny_field ho rfl (x := .str x t) rfl ?_)
        show wpAny _ _ (field (.ref it) 1 >>= _) _ _ s
        refine wpAny_bind (wpAny_field ho rfl (x := .int k 0) rfl ?_)
        simp only [Int.toNat_natCast, hx]
        refine wpAny_bind (wpAny_setField ho rfl (by simp) (wpAny_bind (wpAny_mkStr (wpAny_pure ?_) (by show 1 ≤ sizeLine; decide))))
        refine hitem c _ _ hx ?_ fun b o hb e => (Heap.get?_update_ne _ _ _ _ hb).trans e
        rw [upd_fields ho, sO_in (by omega)]; simp [rawInt]
    | none =>
      have hge : k = x.cps.size := by
        rcases Nat.lt_or_ge k x.cps.size with h | h
        · rw [Array.getElem?_eq_getElem h] at hx; cases hx
        · omega
      subst hge
      rcases hb with rfl | rfl <;>
      · show wpAny _ _ (field (.ref it) 0 >>= _) _ _ s
        refine wpAny_bind (wpAny_field ho rfl (x := .str x t) rfl ?_)
        show wpAny _ _ (field (.ref it) 1 >>= _) _ _ s
        refine wpAny_bind (wpAny_field ho rfl (x := .int x.cps.size 0) rfl ?_)
        simp only [Int.toNat_natCast, hx]
        refine wpAny_bind (wpAny_rule (wpAny_bind (wpAny_setField ho rfl (by simp) (wpAny_bind (wpAny_letGo ?_)))))
        refine stop_new hh fun e h' hk' hs => ?_
        obtain ⟨oe, he1, he2⟩ := hs
        refine hend _ h' hx (hk' _ _ ?_) (fun b o hb e => hk' b o ((Heap.get?_update_ne _ _ _ _ hb).trans e)) ⟨_, oe, rfl, he1, he2⟩
        rw [sO_end]
        refine (upd_fields ho).trans ?_
        simp
  · have hke' : k = x.cps.size + 1 := by omega
    subst hke'
    rw [sO_end] at ho
    have hx : x.cps[x.cps.size + 1]? = none := Array.getElem?_eq_none (by omega)
    rcases hb with rfl | rfl <;>
    · show wpAny _ _ (field (.ref it) 0 >>= _) _ _ s
      refine wpAny_bind (wpAny_field ho rfl (x := .none) rfl ?_)
      refine wpAny_bind (wpAny_rule ?_)
      refine stop_new hh fun e h' hk' hs => ?_
      obtain ⟨oe, he1, he2⟩ := hs
      refine hend _ h' hx (hk' _ _ ?_) (fun b o hb e => hk' b o e) ⟨_, oe, rfl, he1, he2⟩
      rw [sO_end]; exact ho

/-- next(iterator over a text) -/
theorem pyNext_sO {x : Str} {t : Tok} {it : Addr} {k : Nat} {Q : Option Value → Shared → Prop} (hh : A.handled = none) (ho : s.heap.get? it = some (sO x t k)) (hk : k ≤ x.cps.size + 1)
    (hitem : ∀ c tk h', x.cps[k]? = some c → h'.get? it = some (sO x t (k + 1)) → (∀ b o, b ≠ it → s.heap.get? b = some o → h'.get? b = some o) → Q (some (.str ⟨#[c]⟩ tk)) { s with heap := h', toks := s.toks + 1 })
    (hend : ∀ h', x.cps[k]? = none → h'.get? it = some (sO x t (x.cps.size + 1)) → (∀ b o, b ≠ it → s.heap.get? b = some o → h'.get? b = some o) → Q none { s with heap := h' }) :
    wpAny (model prog w) A (pyNext (.ref it)) Q E s := by
  cases ha : x.cps.all (· < 128)
  · refine pyNext_slot (ty := "str_iterator") ⟨_, ho, by unfold sO strIterType; rw [ha]; rfl⟩ F.slot_str_iterator_next F.entry_str_iterator_next (fun a => F.args_str_iterator_next_1 a) ?_
    exact strNext_body (.inr rfl) hh ho hk (fun c tk h' h1 h2 h3 => ⟨_, rfl, hitem c tk h' h1 h2 h3⟩) (fun e h' h1 h2 h3 h4 => ⟨h4, hend h' h1 h2 h3⟩)
  · refine pyNext_slot (ty := "str_ascii_iterator") ⟨_, ho, by unfold sO strIterType; rw [ha]; rfl⟩ F.slot_str_ascii_iterator_next F.entry_str_ascii_iterator_next (fun a => F.args_str_ascii_iterator_next_1 a) ?_
    exact strNext_body (.inl rfl) hh ho hk (fun c tk h' h1 h2 h3 => ⟨_, rfl, hitem c tk h' h1 h2 h3⟩) (fun e h' h1 h2 h3 h4 => ⟨h4, hend h' h1 h2 h3⟩)
end
end

-- part J2
section
theorem fresh_J2 : True := by
  k_with_none
  exact trivial
theorem slot_ci_next : Slot "callable_iterator" "__next__" "callable_iterator.__next__" :=
  .of (owner := "callable_iterator") (n := "__next__") (by rw [typeLookup_type, builtinLookup_eq_fast]; kernel_rfl) (by decide +kernel) (by decide +kernel) (by decide +kernel)
    (by first | exact .inl (by decide +kernel) | exact .inr (by decide +kernel)) (by rw [isSubtype_type]; kernel_rfl)
theorem slot_ci_iter : Slot "callable_iterator" "__iter__" "callable_iterator.__iter__" :=
  .of (owner := "callable_iterator") (n := "__iter__") (by rw [typeLookup_type, builtinLookup_eq_fast]; kernel_rfl) (by decide +kernel) (by decide +kernel) (by decide +kernel)
    (by first | exact .inl (by decide +kernel) | exact .inr (by decide +kernel)) (by rw [isSubtype_type]; kernel_rfl)
theorem entry_ci_next : entryFor table "callable_iterator.__next__" = some Builtin.«callable_iterator.__next__» := entryFor_of_tree (by kernel_rfl)
theorem entry_ci_iter : entryFor table "callable_iterator.__iter__" = some Builtin.«dict_keyiterator.__iter__» :=
  entryFor_alias (id' := "dict_keyiterator.__iter__") (by kernel_rfl) rfl (by decide +kernel) (by kernel_rfl)
theorem args_ci_next (a : Value) : argsOk "callable_iterator.__next__" ⟨[a], []⟩ := by unfold argsOk; kernel_rfl
theorem args_ci_iter (a : Value) : argsOk "callable_iterator.__iter__" ⟨[a], []⟩ := by unfold argsOk; kernel_rfl
theorem args_iter2 (a b : Value) : argsOk "iter" ⟨[a, b], []⟩ := by unfold argsOk; kernel_rfl

section
variable {prog : Program} {w : World} {A : Around} {E : Value → Shared → Prop} {s : Shared}
theorem next2 {ty id : String} {it : Addr} {dflt : Value} {Q : Value → Shared → Prop} (hT : s.TypeIs (.ref it) ty) (hsl : Slot ty "__next__" id)
    (h : wpAny (model prog w) A.in1 (pyNext (.ref it)) (fun r s' => Q (r.getD dflt) s') E s) : wpAny (model prog w) A (call (.builtin "next") [.ref it, dflt]) Q E s := by
  refine call_function_entry (by decide +kernel) (by decide +kernel) kdk_entry_next (kdk_args_next2 _ _) ?_
  unfold Builtin.«next»
  refine wpAny_bind (m := someArgs "next" 1 2 _) (wpAny_of_eq (a := [Value.ref it, dflt]) (by first | rfl | kernel_rfl!) ?_)
  dsimp only
  refine wpAny_bind (wpAny_specialOf (name := Str.ofString "__next__") hT hsl.lookup ?_)
  refine wpAny_ite_split (fun hab => absurd hab (by simp)) (fun _ => ?_)
  refine wpAny_bind (wpAny_mono h (fun r s' h' => ?_) fun _ _ x => x)
  exact wpAny_pure ⟨_, rfl, h'⟩

/-- the iterator that calls -/
noncomputable def ciO (f : Value) (te : Tok) (e : Bool) : Obj := { cls := .type "callable_iterator", data := .fields (if e then #[.none, .none, .bool true] else #[f, .str (Str.ofString "") te, .bool false]) }

theorem pyIter_ci {it : Addr} {f : Value} {te : Tok} {e : Bool} {Q : Value → Shared → Prop} (ho : s.heap.get? it = some (ciO f te e)) (h : Q (.ref it) s) :
    wpAny (model prog w) A (pyIter (.ref it)) Q E s := by
  have hT : s.TypeIs (.ref it) "callable_iterator" := ⟨_, ho, rfl⟩
  refine wpAny_pyIter_slot hT slot_ci_iter (wpAny_call_entry slot_ci_iter hT entry_ci_iter ?_ (args_ci_iter _))
  show wpAny _ _ (ret (.ref it)) _ _ s
  exact wpAny_pure ⟨_, rfl, "callable_iterator", _, hT, slot_ci_next.lookup, h⟩

theorem pyNext_ci {it m fn : Addr} {self : Value} {te : Tok} {of : Obj} {fd : FuncData} {Q : Option Value → Shared → Prop} (hh : A.handled = none) (ho : s.heap.get? it = some (ciO (.ref m) te false))
    (hm : s.heap.get? m = some (methodObj (.ref fn) self)) (hf : s.heap.get? fn = some of) (hd : of.data = .func fd)
    (hcall : wpAny (model prog w) A.in1 (call (.ref m) []) (fun r s₁ => ∃ y ty, r = .str y ty ∧ s₁.heap.get? it = some (ciO (.ref m) te false) ∧ s₁.heap.get? m = some (methodObj (.ref fn) self) ∧ s₁.heap.get? fn = some of ∧
      (y ≠ Str.ofString "" → Q (some r) s₁) ∧ (y = Str.ofString "" → ∀ h', h'.get? it = some (ciO (.ref m) te true) → (∀ b o, b ≠ it → s₁.heap.get? b = some o → h'.get? b = some o) → Q none { s₁ with heap := h' })) (fun _ _ => False) s) :
    wpAny (model prog w) A (pyNext (.ref it)) Q E s := by
  refine pyNext_slot (ty := "callable_iterator") ⟨_, ho, rfl⟩ slot_ci_next entry_ci_next args_ci_next ?_
  unfold Builtin.«callable_iterator.__next__»
  show wpAny _ _ (field (.ref it) 2 >>= _) _ _ s
  refine wpAny_bind (wpAny_field ho rfl (x := .bool false) rfl ?_)
  dsimp only
  rw [if_neg (show ¬ ((Value.bool false == Value.bool true) = true) from by decide)]
  refine wpAny_bind (wpAny_field ho rfl (x := .ref m) rfl ?_)
  refine wpAny_bind (wpAny_attempt ?_)
  refine wpAny_mono (E := fun _ _ => False) (Q := fun r s₁ => ∃ y ty, r = .str y ty ∧ s₁.heap.get? it = some (ciO (.ref m) te false) ∧ s₁.heap.get? m = some (methodObj (.ref fn) self) ∧ s₁.heap.get? fn = some of ∧
      (y ≠ Str.ofString "" → Q (some r) s₁) ∧ (y = Str.ofString "" → ∀ h', h'.get? it = some (ciO (.ref m) te true) → (∀ b o, b ≠ it → s₁.heap.get? b = some o → h'.get? b = some o) → Q none { s₁ with heap := h' })) ?_ (fun r s₁ h => ?_) (fun _ _ x => x.elim)
  · unfold callOutOfASlot borrowsExactly
    dsimp only
    refine wpAny_bind (wpAny_bind (wpAny_load hm ?_))
    dsimp only
    rw [if_pos (show ((Value.type "method" == Value.type "method") = true) from by decide)]
    show wpAny _ _ (do match (← load fn).data with | .func _ => pure true | _ => pure false) _ _ _
    refine wpAny_bind (wpAny_load hf ?_)
    rw [hd]
    refine wpAny_pure ?_
    rw [if_pos rfl]
    exact wpAny_callBorrowed hcall
  · obtain ⟨y, ty, rfl, ho1, hm1, hf1, hne, heq⟩ := h
    dsimp only
    refine wpAny_bind (wpAny_field ho1 rfl (x := .bool false) rfl ?_)
    rw [if_neg (show ¬ ((Value.bool false == Value.bool true) = true) from by decide)]
    refine wpAny_bind (wpAny_field ho1 rfl (x := .str (Str.ofString "") te) rfl ?_)
    refine wpAny_bind (wpAny_holding (wpAny_eqBool_str ?_))
    by_cases hy : Str.ofString "" = y
    · rw [decide_eq_true hy]
      rw [if_neg (show ¬ ((!true) = true) from by decide)]
      refine wpAny_bind (wpAny_rule (wpAny_bind ?_))
      show wpAny _ _ (field (.ref it) 0 >>= _) _ _ _
      refine wpAny_bind (wpAny_field ho1 rfl (x := .ref m) rfl ?_)
      show wpAny _ _ (slotLetsGo _ _ _ >>= _) _ _ _
      refine wpAny_bind ?_
      unfold slotLetsGo borrowsExactly
      dsimp only
      refine wpAny_bind (wpAny_bind (wpAny_load hm1 ?_))
      dsimp only
      rw [if_pos (show ((Value.type "method" == Value.type "method") = true) from by decide)]
      show wpAny _ _ (do match (← load fn).data with | .func _ => pure true | _ => pure false) _ _ _
      refine wpAny_bind (wpAny_load hf1 ?_)
      rw [hd]
      refine wpAny_pure ?_
      rw [if_pos rfl]
      refine wpAny_pure ?_
      show wpAny _ _ (setField (.ref it) 0 .none >>= _) _ _ _
      refine wpAny_bind (wpAny_setField ho1 rfl (by simp [ciO]) ?_)
      have h1 := upd_fields (f := (·.setIfInBounds 0 .none)) (show s₁.heap.get? it = some { cls := .type "callable_iterator", data := .fields #[.ref m, .str (Str.ofString "") te, .bool false] } from ho1)
      show wpAny _ _ (setField (.ref it) 1 .none >>= _) _ _ _
      refine wpAny_bind (wpAny_setField h1 rfl (by simp) ?_)
      have h2 := upd_fields (f := (·.setIfInBounds 1 .none)) h1
      show wpAny _ _ (setField (.ref it) 2 (.bool true)) _ _ _
      refine wpAny_setField h2 rfl (by simp) ?_
      have h3 := upd_fields (f := (·.setIfInBounds 2 (.bool true))) h2
      refine stop_new hh fun e h' hk hs => ?_
      obtain ⟨oe, he1, he2⟩ := hs
      refine ⟨⟨_, oe, rfl, he1, he2⟩, heq hy.symm h' (hk _ _ ?_) fun b o hb eb => hk b o ?_⟩
      · refine h3.trans ?_
        simp [ciO]
      · exact (Heap.get?_update_ne _ _ _ _ hb).trans ((Heap.get?_update_ne _ _ _ _ hb).trans ((Heap.get?_update_ne _ _ _ _ hb).trans eb))
    · rw [decide_eq_false hy]
      refine wpAny_pure ⟨_, rfl, hne (fun e => hy e.symm)⟩

theorem pyNext_ci_end {it : Addr} {f : Value} {te : Tok} {Q : Option Value → Shared → Prop} (hh : A.handled = none) (ho : s.heap.get? it = some (ciO f te true))
    (h : ∀ h', (∀ b o, s.heap.get? b = some o → h'.get? b = some o) → Q none { s with heap := h' }) :
    wpAny (model prog w) A (pyNext (.ref it)) Q E s := by
  refine pyNext_slot (ty := "callable_iterator") ⟨_, ho, rfl⟩ slot_ci_next entry_ci_next args_ci_next ?_
  unfold Builtin.«callable_iterator.__next__»
  show wpAny _ _ (field (.ref it) 2 >>= _) _ _ s
  refine wpAny_bind (wpAny_field ho rfl (x := .bool true) rfl ?_)
  dsimp only
  rw [if_pos (show ((Value.bool true == Value.bool true) = true) from by decide)]
  refine wpAny_bind (wpAny_rule ?_)
  refine wpAny_bind (stop_new hh fun e h' hk hs => ?_)
  obtain ⟨oe, he1, he2⟩ := hs
  exact ⟨⟨_, oe, rfl, he1, he2⟩, h h' hk⟩

theorem lookup_method_call : ∃ r, typeLookup (.type "method") "__call__" = pure (some r) := ⟨.builtin "method.__call__", by rw [typeLookup_type, builtinLookup_eq_fast]; kernel_rfl⟩

theorem iter_sentinel {m : Addr} {f self : Value} {te : Tok} {Q : Value → Shared → Prop} (hm : s.heap.get? m = some (methodObj f self))
    (h : ∀ h' I, h'.get? I = some (ciO (.ref m) te false) → s.heap.get? I = none → (∀ b o, s.heap.get? b = some o → h'.get? b = some o) → Q (.ref I) { s with heap := h' }) :
    wpAny (model prog w) A (call (.builtin "iter") [.ref m, .str (Str.ofString "") te]) Q E s := by
  refine call_function_entry (by decide +kernel) (by decide +kernel) kdk_entry_iter (args_iter2 _ _) ?_
  unfold Builtin.«iter»
  refine wpAny_bind (m := someArgs "iter" 1 2 _) (wpAny_of_eq (a := [Value.ref m, .str (Str.ofString "") te]) (by first | rfl | kernel_rfl!) ?_)
  obtain ⟨r, hr⟩ := lookup_method_call
  dsimp only
  refine wpAny_bind (wpAny_specialOf (name := Str.ofString "__call__") (T := "method") ⟨_, hm, rfl⟩ hr ?_)
  refine wpAny_ite_split (fun hab => absurd hab (by simp)) (fun _ => ?_)
  have hn : s.heap.get? s.heap.objs.size = none := by
    cases e : s.heap.get? s.heap.objs.size with
    | none => rfl
    | some o => exact absurd (Heap.lt_size e) (Nat.lt_irrefl _)
  refine wpAny_bind (wpAny_rule (wpAny_bind ?_))
  show wpAny _ _ (newFields "callable_iterator" _) _ _ _
  exact wpAny_newObj_type (wpAny_pure ⟨_, rfl, h _ _ (Heap.get?_push_size _ rfl) hn fun b o e => Heap.get?_push_of_some _ e⟩)
end
end

-- part C1
section
theorem fresh_C1 : True := by
  k_with_none
  exact trivial
local macro_rules | `(tactic| walk_at "m_all") => `(tactic| ((repeat' (first | exact List.forall_mem_nil _ | refine List.forall_mem_cons.mpr ⟨?_, ?_⟩)) <;> (with_unfolding_all rfl)))

noncomputable def bisR (ns : List Int) (x : Int) : Nat → Nat → Nat → Nat
  | 0, lo, _ => lo
  | f + 1, lo, hi => if lo < hi then (if x < ns.getD ((lo + hi) / 2) 0 then bisR ns x f lo ((lo + hi) / 2) else bisR ns x f ((lo + hi) / 2 + 1) hi) else lo

theorem bisR_spec {w : World} {p : Program} {loose : List Str} {mg mb : Str → Option Value}
  {s : Shared} {Q E : Value → Shared → Prop} {l : Addr} {vs : List Value} {ns : List Int} {x : Int} {tx : Tok}
  (g : G w p loose mg mb s.heap) (hl : s.heap.IsList l vs.toArray) (hi : IntsAre vs ns) (hlen : ns.length < 100)
  (hret : ∀ t s', Same s s' → (∀ b o, s.heap.get? b = some o → s'.heap.get? b = some o) → Q (.int (bisR ns x ns.length 0 ns.length) t) s') :
  wpAny (model PySem.Challenge.rw_us0006_01.row.prog w) U (call (.ref 32) [.ref l, .int x tx]) Q E s := by
  have X := g.X
  revert X; k_fill; intro X
  refine' enter (pos := [.ref l, .int x tx]) (kw := []) (binds := [("a", .ref l), ("x", .int x tx), ("lo", .int 0 202), ("hi", .none), ("key", .none)]) g ?ho ?hcd ?hb ?hl ?hc ?_ ?hr ?h1 ?h2 ?h3
  case ho => k_is
  case hcd => k_is
  case hb => exact kp_binds X (fun _ => rfl)
  case hl => exact locs rfl
  case hc => decide
  case hr => exact Nat.le_of_ble_eq_true rfl
  case h1 => rfl
  case h2 => rfl
  case h3 => rfl
  intro L h₁ F N X T
  k_with "exec While Compare cons nil" => (refine stop ?_)
  k_steps
  refine ⟨?_⟩
  refine while_at (h₀ := s.heap) (L := L) (σ := Nat × Nat × Nat × Tok × Tok) (fun _ => []) (fun c => [("a", .ref l), ("x", .int x tx), ("lo", .int (c.1 : Int) c.2.2.2.1), ("hi", .int (c.2.1 : Int) c.2.2.2.2), ("key", .none)])
      (fun c s' => Same s s' ∧ c.1 ≤ c.2.1 ∧ c.2.1 ≤ ns.length ∧ c.2.1 - c.1 ≤ c.2.2.1 ∧ bisR ns x c.2.2.1 c.1 c.2.1 = bisR ns x ns.length 0 ns.length) (fun c => c.2.2.1) ?_ ?_
  · exact ⟨(0, ns.length, ns.length, _, _), At.mk _ (by assumption) (by assumption) (by walk_at "m_all") (by walk_at "m_all") ⟨⟨rfl, rfl, rfl⟩, Nat.zero_le _, Nat.le_refl _, Nat.le_refl _, rfl⟩⟩
  · (rintro ⟨lo, hi', f, t1, t2⟩ u s' hz1 F' N'; refine goal_cut fun Gz hGz => ?_; obtain ⟨hs, h1, h2, h3, h4⟩ := hz1; refine hGz ?_; clear hGz Gz)
    dsimp only at h1 h2 h3 h4 F'
    have em : ((lo : Int) + (hi' : Int)).fdiv 2 = (((lo + hi') / 2 : Nat) : Int) := by
      rw [Int.fdiv_eq_ediv_of_nonneg _ (by decide)]; omega
    k_steps
    · (rename Fr _ _ _ _ => F1); (rename News _ _ _ _ => N1); (rename ((lo : Int) < _) => hlt); (rename (x < _) => hx)
      rw [em] at F1 hx
      rw [Int.toNat_natCast] at hx
      obtain ⟨f', rfl⟩ : ∃ f', f = f' + 1 := ⟨f - 1, by omega⟩
      have hlt' : lo < hi' := by omega
      rw [bisR, if_pos hlt', if_pos hx] at h4
      exact ⟨(lo, (lo + hi') / 2, f', _, _), by dsimp only; omega, At.mk _ F1 N1 (by walk_at "m_all") (by walk_at "m_all") ⟨hs.to, by dsimp only; omega, by dsimp only; omega, by dsimp only; omega, h4⟩⟩
    · (rename Fr _ _ _ _ => F1); (rename News _ _ _ _ => N1); (rename ((lo : Int) < _) => hlt); (rename (¬ x < _) => hx)
      rw [em] at F1 hx
      rw [Int.toNat_natCast] at hx
      obtain ⟨f', rfl⟩ : ∃ f', f = f' + 1 := ⟨f - 1, by omega⟩
      have hlt' : lo < hi' := by omega
      rw [bisR, if_pos hlt', if_neg hx] at h4
      exact ⟨((lo + hi') / 2 + 1, hi', f', _, _), by dsimp only; omega, At.mk _ F1 N1 (by walk_at "m_all") (by walk_at "m_all") ⟨hs.to, by dsimp only; omega, by dsimp only; omega, by dsimp only; omega, h4⟩⟩
    · rename (¬ (lo : Int) < _) => hn
      have e : bisR ns x ns.length 0 ns.length = lo := by
        rw [← h4]
        cases f with
        | zero => rfl
        | succ f => rw [bisR, if_neg (by omega)]
      have hq := hret t1 s' hs F'.keep
      rw [e] at hq
      exact hq
end

-- part C2
section
theorem fresh_C2 : True := by
  k_with_none
  exact trivial
local macro_rules | `(tactic| walk_at "m_all") => `(tactic| ((repeat' (first | exact List.forall_mem_nil _ | refine List.forall_mem_cons.mpr ⟨?_, ?_⟩)) <;> (with_unfolding_all rfl)))

noncomputable def bisL (ns : List Int) (x : Int) : Nat → Nat → Nat → Nat
  | 0, lo, _ => lo
  | f + 1, lo, hi => if lo < hi then (if ns.getD ((lo + hi) / 2) 0 < x then bisL ns x f ((lo + hi) / 2 + 1) hi else bisL ns x f lo ((lo + hi) / 2)) else lo

theorem bisL_spec {w : World} {p : Program} {loose : List Str} {mg mb : Str → Option Value}
  {s : Shared} {Q E : Value → Shared → Prop} {l : Addr} {vs : List Value} {ns : List Int} {x : Int} {tx : Tok}
  (g : G w p loose mg mb s.heap) (hl : s.heap.IsList l vs.toArray) (hi : IntsAre vs ns) (hlen : ns.length < 100)
  (hret : ∀ t s', Same s s' → (∀ b o, s.heap.get? b = some o → s'.heap.get? b = some o) → Q (.int (bisL ns x ns.length 0 ns.length) t) s') :
  wpAny (model PySem.Challenge.rw_us0006_01.row.prog w) U (call (.ref 41) [.ref l, .int x tx]) Q E s := by
  have X := g.X
  revert X; k_fill; intro X
  refine' enter (pos := [.ref l, .int x tx]) (kw := []) (binds := [("a", .ref l), ("x", .int x tx), ("lo", .int 0 216), ("hi", .none), ("key", .none)]) g ?ho ?hcd ?hb ?hl ?hc ?_ ?hr ?h1 ?h2 ?h3
  case ho => k_is
  case hcd => k_is
  case hb => exact kp_binds X (fun _ => rfl)
  case hl => exact locs rfl
  case hc => decide
  case hr => exact Nat.le_of_ble_eq_true rfl
  case h1 => rfl
  case h2 => rfl
  case h3 => rfl
  intro L h₁ F N X T
  k_with "exec While Compare cons nil" => (refine stop ?_)
  k_steps
  refine ⟨?_⟩
  refine while_at (h₀ := s.heap) (L := L) (σ := Nat × Nat × Nat × Tok × Tok) (fun _ => []) (fun c => [("a", .ref l), ("x", .int x tx), ("lo", .int (c.1 : Int) c.2.2.2.1), ("hi", .int (c.2.1 : Int) c.2.2.2.2), ("key", .none)])
      (fun c s' => Same s s' ∧ c.1 ≤ c.2.1 ∧ c.2.1 ≤ ns.length ∧ c.2.1 - c.1 ≤ c.2.2.1 ∧ bisL ns x c.2.2.1 c.1 c.2.1 = bisL ns x ns.length 0 ns.length) (fun c => c.2.2.1) ?_ ?_
  · exact ⟨(0, ns.length, ns.length, _, _), At.mk _ (by assumption) (by assumption) (by walk_at "m_all") (by walk_at "m_all") ⟨⟨rfl, rfl, rfl⟩, Nat.zero_le _, Nat.le_refl _, Nat.le_refl _, rfl⟩⟩
  · (rintro ⟨lo, hi', f, t1, t2⟩ u s' hz1 F' N'; refine goal_cut fun Gz hGz => ?_; obtain ⟨hs, h1, h2, h3, h4⟩ := hz1; refine hGz ?_; clear hGz Gz)
    dsimp only at h1 h2 h3 h4 F'
    have em : ((lo : Int) + (hi' : Int)).fdiv 2 = (((lo + hi') / 2 : Nat) : Int) := by
      rw [Int.fdiv_eq_ediv_of_nonneg _ (by decide)]; omega
    k_steps
    · (rename Fr _ _ _ _ => F1); (rename News _ _ _ _ => N1); (rename ((lo : Int) < _) => hlt); (rename (ns.getD _ _ < x) => hx)
      rw [em] at F1 hx
      rw [Int.toNat_natCast] at hx
      obtain ⟨f', rfl⟩ : ∃ f', f = f' + 1 := ⟨f - 1, by omega⟩
      have hlt' : lo < hi' := by omega
      rw [bisL, if_pos hlt', if_pos hx] at h4
      exact ⟨((lo + hi') / 2 + 1, hi', f', _, _), by dsimp only; omega, At.mk _ F1 N1 (by walk_at "m_all") (by walk_at "m_all") ⟨hs.to, by dsimp only; omega, by dsimp only; omega, by dsimp only; omega, h4⟩⟩
    · (rename Fr _ _ _ _ => F1); (rename News _ _ _ _ => N1); (rename ((lo : Int) < _) => hlt); (rename (¬ ns.getD _ _ < x) => hx)
      rw [em] at F1 hx
      rw [Int.toNat_natCast] at hx
      obtain ⟨f', rfl⟩ : ∃ f', f = f' + 1 := ⟨f - 1, by omega⟩
      have hlt' : lo < hi' := by omega
      rw [bisL, if_pos hlt', if_neg hx] at h4
      exact ⟨(lo, (lo + hi') / 2, f', _, _), by dsimp only; omega, At.mk _ F1 N1 (by walk_at "m_all") (by walk_at "m_all") ⟨hs.to, by dsimp only; omega, by dsimp only; omega, by dsimp only; omega, h4⟩⟩
    · rename (¬ (lo : Int) < _) => hn
      have e : bisL ns x ns.length 0 ns.length = lo := by
        rw [← h4]
        cases f with
        | zero => rfl
        | succ f => rw [bisL, if_neg (by omega)]
      have hq := hret t1 s' hs F'.keep
      rw [e] at hq
      exact hq
end

-- part C3
section
theorem fresh_C3 : True := by
  k_with_none
  exact trivial
local macro_rules | `(tactic| walk_at "m_all") => `(tactic| ((repeat' (first | exact List.forall_mem_nil _ | refine List.forall_mem_cons.mpr ⟨?_, ?_⟩)) <;> (with_unfolding_all rfl)))

theorem bisR4_spec {w : World} {p : Program} {loose : List Str} {mg mb : Str → Option Value}
  {s : Shared} {Q E : Value → Shared → Prop} {l : Addr} {vs : List Value} {ns : List Int} {x : Int} {tx tl : Tok}
  (g : G w p loose mg mb s.heap) (hl : s.heap.IsList l vs.toArray) (hi : IntsAre vs ns) (hlen : ns.length < 100)
  (hret : ∀ t s', Same s s' → (∀ b o, s.heap.get? b = some o → s'.heap.get? b = some o) → Q (.int (bisR ns x ns.length 0 ns.length) t) s') :
  wpAny (model PySem.Challenge.rw_us0006_01.row.prog w) U (call (.ref 32) [.ref l, .int x tx, .int 0 tl, .none]) Q E s := by
  have X := g.X
  revert X; k_fill; intro X
  refine' enter (pos := [.ref l, .int x tx, .int 0 tl, .none]) (kw := []) (binds := [("a", .ref l), ("x", .int x tx), ("lo", .int 0 tl), ("hi", .none), ("key", .none)]) g ?ho ?hcd ?hb ?hl ?hc ?_ ?hr ?h1 ?h2 ?h3
  case ho => k_is
  case hcd => k_is
  case hb => exact kp_binds X (fun _ => rfl)
  case hl => exact locs rfl
  case hc => decide
  case hr => exact Nat.le_of_ble_eq_true rfl
  case h1 => rfl
  case h2 => rfl
  case h3 => rfl
  intro L h₁ F N X T
  k_with "exec While Compare cons nil" => (refine stop ?_)
  k_steps
  refine ⟨?_⟩
  refine while_at (h₀ := s.heap) (L := L) (σ := Nat × Nat × Nat × Tok × Tok) (fun _ => []) (fun c => [("a", .ref l), ("x", .int x tx), ("lo", .int (c.1 : Int) c.2.2.2.1), ("hi", .int (c.2.1 : Int) c.2.2.2.2), ("key", .none)])
      (fun c s' => Same s s' ∧ c.1 ≤ c.2.1 ∧ c.2.1 ≤ ns.length ∧ c.2.1 - c.1 ≤ c.2.2.1 ∧ bisR ns x c.2.2.1 c.1 c.2.1 = bisR ns x ns.length 0 ns.length) (fun c => c.2.2.1) ?_ ?_
  · exact ⟨(0, ns.length, ns.length, _, _), At.mk _ (by assumption) (by assumption) (by walk_at "m_all") (by walk_at "m_all") ⟨⟨rfl, rfl, rfl⟩, Nat.zero_le _, Nat.le_refl _, Nat.le_refl _, rfl⟩⟩
  · (rintro ⟨lo, hi', f, t1, t2⟩ u s' hz1 F' N'; refine goal_cut fun Gz hGz => ?_; obtain ⟨hs, h1, h2, h3, h4⟩ := hz1; refine hGz ?_; clear hGz Gz)
    dsimp only at h1 h2 h3 h4 F'
    have em : ((lo : Int) + (hi' : Int)).fdiv 2 = (((lo + hi') / 2 : Nat) : Int) := by
      rw [Int.fdiv_eq_ediv_of_nonneg _ (by decide)]; omega
    k_steps
    · (rename Fr _ _ _ _ => F1); (rename News _ _ _ _ => N1); (rename ((lo : Int) < _) => hlt); (rename (x < _) => hx)
      rw [em] at F1 hx
      rw [Int.toNat_natCast] at hx
      obtain ⟨f', rfl⟩ : ∃ f', f = f' + 1 := ⟨f - 1, by omega⟩
      have hlt' : lo < hi' := by omega
      rw [bisR, if_pos hlt', if_pos hx] at h4
      exact ⟨(lo, (lo + hi') / 2, f', _, _), by dsimp only; omega, At.mk _ F1 N1 (by walk_at "m_all") (by walk_at "m_all") ⟨hs.to, by dsimp only; omega, by dsimp only; omega, by dsimp only; omega, h4⟩⟩
    · (rename Fr _ _ _ _ => F1); (rename News _ _ _ _ => N1); (rename ((lo : Int) < _) => hlt); (rename (¬ x < _) => hx)
      rw [em] at F1 hx
      rw [Int.toNat_natCast] at hx
      obtain ⟨f', rfl⟩ : ∃ f', f = f' + 1 := ⟨f - 1, by omega⟩
      have hlt' : lo < hi' := by omega
      rw [bisR, if_pos hlt', if_neg hx] at h4
      exact ⟨((lo + hi') / 2 + 1, hi', f', _, _), by dsimp only; omega, At.mk _ F1 N1 (by walk_at "m_all") (by walk_at "m_all") ⟨hs.to, by dsimp only; omega, by dsimp only; omega, by dsimp only; omega, h4⟩⟩
    · rename (¬ (lo : Int) < _) => hn
      have e : bisR ns x ns.length 0 ns.length = lo := by
        rw [← h4]
        cases f with
        | zero => rfl
        | succ f => rw [bisR, if_neg (by omega)]
      have hq := hret t1 s' hs F'.keep
      rw [e] at hq
      exact hq
end

-- part S2
section
theorem fresh_S2 : True := by
  k_with_none
  exact trivial
local macro_rules | `(tactic| walk_at "m_all") => `(tactic| ((repeat' (first | exact List.forall_mem_nil _ | refine List.forall_mem_cons.mpr ⟨?_, ?_⟩)) <;> (with_unfolding_all rfl)))
local macro_rules | `(tactic| walk_at "m_enter") => `(tactic| (
  (case ho => k_is); (case hcd => k_is); (case hb => exact kp_binds (by assumption) (fun _ => rfl)); (case hl => exact locs rfl); (case hc => decide); (case hr => exact Nat.le_of_ble_eq_true rfl); (case h1 => rfl); (case h2 => rfl); (case h3 => rfl)))

noncomputable def chkGo : List (Int × Str) → Int → Bool
  | [], o => o == 0
  | y :: r, o => if (y.2 == Str.ofString "(") = true then chkGo r (o + 1) else if (y.2 == Str.ofString ")") = true then (if o - 1 < 0 then false else chkGo r (o - 1)) else chkGo r o

noncomputable def checkR (x : Str) : Bool := chkGo (escY (stripR x).cps.toList 0 false 0) 0

theorem check_spec {w : World} {p : Program} {loose : List Str} {mg mb : Str → Option Value}
  {s : Shared} {Q E : Value → Shared → Prop} {x : Str} {t : Tok}
  (g : G w p loose mg mb s.heap) (hlen : x.cps.size ≤ 500) (hesc : escE x.cps.toList false = false) (hesc2 : escE (stripR x).cps.toList false = false)
  (hret : ∀ s', Ev [] s s' → Q (.bool (checkR x)) s') :
  wpAny (model PySem.Challenge.rw_us0006_01.row.prog w) (UU 480 1800) (call (.ref 69) [.str x t]) Q E s := by
  have X := g.X
  have hlen' : x.length ≤ 500 := hlen
  revert X; k_fill; intro X
  refine' enter (pos := [.str x t]) (kw := []) (binds := [("addr", .str x t)]) g ?ho ?hcd ?hb ?hl ?hc ?_ ?hr ?h1 ?h2 ?h3
  walk_at "m_enter"
  intro L h₁ F N X T
  k_with "call ref" => (refine stop ?_)
  k_steps
  refine ⟨?_⟩
  have hlim := T.nolimit
  refine of_UU (strip_spec (g.keeps (by exact F.keep)) hlen hesc ?_) rfl (Nat.le_of_ble_eq_true rfl) (Nat.le_of_ble_eq_true rfl)
  intro t' s' hev
  have F1 : Fr s.heap L s'.heap _ := fr_move' F (by exact hev.keep _) (fun b o e => hev.keep b o (F.keep b o e))
  have N1 : News s.heap L s'.heap [] := News.nil
  have hq0 : ∀ s2 : Shared, Sh s s2 → ∀ h' tk, (∀ b o, s.heap.get? b = some o → h'.get? b = some o) → Q (.bool (checkR x)) { s2 with heap := h', toks := tk } :=
    fun s2 hsh h' tk hk => hret _ (hsh.to.ev (fun b o _ e => hk b o e))
  k_with "exec For" => (refine stop ?_)
  k_steps
  (rename Fr _ _ _ _ => F2); (rename News _ _ _ _ => N2)
  refine ⟨?_⟩
  refine for_esc (w := w) (h₀ := s.heap) (ys₀ := escY (stripR x).cps.toList 0 false 0) (sh := s) (σ := Int × Tok) (fun c => [])
    (fun c => [("opens", .int c.1 c.2)]) (fun c ys => chkGo ys c.1 = checkR x) [] (fun _ => rfl) rfl (Nat.le_of_ble_eq_true rfl) (Nat.le_of_ble_eq_true rfl) ?hn1 ?hn2 (by decide) rfl rfl rfl hlim ?_ ?_ ?_ (fun _ => rfl)
  case hn1 => intro c; simp only [List.forall_mem_cons]; decide
  case hn2 => intro c; simp only [List.forall_mem_cons]; decide
  · k_with "call ref" => (refine stop ?_)
    k_steps
    refine ⟨?_⟩
    refine of_UU (d := 500) (u := 2000) (esc_call (hb := s.heap) g F2.keep ?_ hesc2 ?_) rfl (Nat.le_of_ble_eq_true rfl) (Nat.le_of_ble_eq_true rfl)
    · obtain ⟨o, _, _, ho, _⟩ := id F2.ns
      exact Nat.le_trans F2.above (Nat.le_of_lt (Heap.lt_size ho))
    · intro a own s3 gs hgs hE hown hk hb hdr hos
      obtain ⟨oL, _, _, hoL, _⟩ := id F2.ns
      refine ⟨a, _, (0, _), own, rfl, hE, ⟨_, fr_move' F2 (hk _) (fun b o e => hk b o (F2.keep b o e)), by walk_at "m_all"⟩, (fun q hq => (nomatch hq)), ?_, (fun q hq => (nomatch hq)), rfl, ⟨hdr.trans hev.drawn, hos.trans hev.os, ?_⟩⟩
      · intro q hq e
        have h1 := hown q hq
        have h2 : _ = some oL := hoL
        rw [e] at h1
        exact absurd (h1.symm.trans h2) (by simp)
      · intro hbs
        rw [hgs]
        exact (hev.bare hbs).push hb
  · rintro ⟨o, to⟩ y r u s2 own ti ty hP hsh F3 N3 hap
    dsimp only at hP F3 N3
    rw [chkGo] at hP
    k_steps
    · (rename Fr _ _ _ _ => F4); (rename News _ _ _ _ => N4); (rename ((_ == Str.ofString "(") = true) => hc)
      rw [if_pos hc] at hP
      exact ⟨(o + 1, _), _, _, hP, F4, N4, fun p hp => (nomatch hp), fun p hp => hp, by walk_at "m_all", ⟨rfl, rfl, rfl⟩⟩
    · (rename Fr _ _ _ _ => F4); (rename News _ _ _ _ => N4); (rename ((_ == Str.ofString "(") = false) => hc); (rename ((_ == Str.ofString ")") = true) => hc2); (rename (_ < _) => hlt)
      rw [if_neg (by rw [hc]; exact Bool.false_ne_true), if_pos hc2, if_pos hlt] at hP
      have hq := hq0 s2 hsh
      rw [← hP] at hq
      exact hq _ _ F4.keep
    · (rename Fr _ _ _ _ => F4); (rename News _ _ _ _ => N4); (rename ((_ == Str.ofString "(") = false) => hc); (rename ((_ == Str.ofString ")") = true) => hc2); (rename (¬ _ < _) => hlt)
      rw [if_neg (by rw [hc]; exact Bool.false_ne_true), if_pos hc2, if_neg hlt] at hP
      exact ⟨(o - 1, _), _, _, hP, F4, N4, fun p hp => (nomatch hp), fun p hp => hp, by walk_at "m_all", ⟨rfl, rfl, rfl⟩⟩
    · (rename ((_ == Str.ofString "(") = false) => hc); (rename ((_ == Str.ofString ")") = false) => hc2)
      rw [if_neg (by rw [hc]; exact Bool.false_ne_true), if_neg (by rw [hc2]; exact Bool.false_ne_true)] at hP
      exact ⟨(o, to), _, _, hP, F3, N3, fun p hp => (nomatch hp), fun p hp => hp, by walk_at "m_all", ⟨rfl, rfl, rfl⟩⟩
  · rintro ⟨o, to⟩ u s2 hP hsh F3 N3
    dsimp only at hP F3 N3
    k_steps
    have hq := hq0 s2 hsh
    rw [← hP] at hq
    exact hq _ _ F3.keep
end

-- part J3
section
theorem fresh_J3 : True := by
  k_with_none
  exact trivial
/-- an iterator over a list, at i; behind the end when i is more than its length -/
noncomputable def liO (l : Addr) (n i : Nat) : Obj :=
  { cls := .type "list_iterator", data := .fields #[if i ≤ n then .ref l else .none, .int (if i ≤ n then i else n : Nat) 0] }
theorem liO_in {l : Addr} {n i : Nat} (h : i ≤ n) : liO l n i = { cls := .type "list_iterator", data := .fields #[.ref l, .int (i : Int) 0] } := by
  unfold liO; rw [if_pos h, if_pos h]
theorem liO_end {l : Addr} {n : Nat} : liO l n (n + 1) = { cls := .type "list_iterator", data := .fields #[.none, .int (n : Int) 0] } := by
  unfold liO; rw [if_neg (by omega), if_neg (by omega)]

section
variable {prog : Program} {w : World} {A : Around} {E : Value → Shared → Prop} {s : Shared}
theorem next1 {ty id : String} {b : Builtin} {it : Addr} {Q : Value → Shared → Prop} (hT : s.TypeIs (.ref it) ty) (hsl : Slot ty "__next__" id) (hb : entryFor table id = some b) (hargs : ∀ a, argsOk id ⟨[a], []⟩)
    (body : wpAny (model prog w) A.in1.in1 (b ⟨[.ref it], []⟩) (fun fin s' => ∃ v, fin = .done (.ret v) ∧ Q v s') E s) :
    wpAny (model prog w) A (call (.builtin "next") [.ref it]) Q E s := by
  refine call_function_entry (by decide +kernel) (by decide +kernel) kdk_entry_next (kdk_args_next _) ?_
  unfold Builtin.«next»
  refine wpAny_bind (m := someArgs "next" 1 2 _) (wpAny_of_eq (a := [Value.ref it]) (by first | rfl | kernel_rfl!) ?_)
  dsimp only
  refine wpAny_bind (wpAny_specialOf (name := Str.ofString "__next__") hT hsl.lookup ?_)
  refine wpAny_ite_split (fun hab => absurd hab (by simp)) (fun _ => ?_)
  refine wpAny_bind (wpAny_callSpecial?_slot (name := Str.ofString "__next__") hT hsl (wpAny_call_entry hsl hT hb ?_ (hargs _)))
  refine wpAny_mono body (fun fin s' h => ?_) (fun e s' h => h)
  obtain ⟨v, rfl, h⟩ := h
  exact ⟨v, rfl, wpAny_pure ⟨_, rfl, h⟩⟩

theorem listNext_body {l it : Addr} {items : Array Value} {i : Nat} {Q : Fin → Shared → Prop} (hh : A.handled = none) (ho : s.heap.get? it = some (liO l items.size i)) (hl : s.heap.IsList l items) (hne : l ≠ it) (hi : i ≤ items.size + 1)
    (hitem : ∀ v h', items[i]? = some v → h'.get? it = some (liO l items.size (i + 1)) → (∀ b o, b ≠ it → s.heap.get? b = some o → h'.get? b = some o) → Q (.done (.ret v)) { s with heap := h' })
    (hend : ∀ e h', items[i]? = none → h'.get? it = some (liO l items.size (items.size + 1)) → (∀ b o, b ≠ it → s.heap.get? b = some o → h'.get? b = some o) → IsStop e { s with heap := h' } → E e { s with heap := h' }) :
    wpAny (model prog w) A (Builtin.«list_iterator.__next__» ⟨[.ref it], []⟩) Q E s := by
  obtain ⟨ol, hol, _, nl, hdl⟩ := id hl
  by_cases hie : i ≤ items.size
  · rw [liO_in hie] at ho
    show wpAny _ _ (field (.ref it) 0 >>= _) _ _ s
    refine wpAny_bind (wpAny_field ho rfl (x := .ref l) rfl ?_)
    show wpAny _ _ (if (Value.ref l == Value.none) = true then _ else _) _ _ s
    rw [if_neg (show ¬ ((Value.ref l == Value.none) = true) from Bool.false_ne_true)]
    show wpAny _ _ (field (.ref it) 1 >>= _) _ _ s
    refine wpAny_bind (wpAny_field ho rfl (x := .int i 0) rfl ?_)
    show wpAny _ _ (seqItems? (.ref l) >>= _) _ _ s
    refine wpAny_bind (wpAny_seqItems hol hdl ?_)
    cases hx : items[i]? with
    | some v =>
      have hlt : i < items.size := by
        rcases Nat.lt_or_ge i items.size with h | h
        · exact h
        · rw [Array.getElem?_eq_none h] at hx; cases hx
      simp only [Int.toNat_natCast, hx]
      refine wpAny_bind (wpAny_setField ho rfl (by simp) (wpAny_pure ?_))
      refine hitem v _ hx ?_ fun b o hb e => (Heap.get?_update_ne _ _ _ _ hb).trans e
      rw [upd_fields ho, liO_in (by omega)]; simp [rawInt]
    | none =>
      have hge : i = items.size := by
        rcases Nat.lt_or_ge i items.size with h | h
        · rw [Array.getElem?_eq_getElem h] at hx; cases hx
        · omega
      subst hge
      simp only [Int.toNat_natCast, hx]
      refine wpAny_bind (wpAny_rule (wpAny_bind (wpAny_setField ho rfl (by simp) ?_)))
      refine stop_new hh fun e h' hk' hs => ?_
      obtain ⟨oe, he1, he2⟩ := hs
      refine hend _ h' hx (hk' _ _ ?_) (fun b o hb e => hk' b o ((Heap.get?_update_ne _ _ _ _ hb).trans e)) ⟨_, oe, rfl, he1, he2⟩
      rw [liO_end]
      refine (upd_fields ho).trans ?_
      simp
  · have hie' : i = items.size + 1 := by omega
    subst hie'
    rw [liO_end] at ho
    have hx : items[items.size + 1]? = none := Array.getElem?_eq_none (by omega)
    show wpAny _ _ (field (.ref it) 0 >>= _) _ _ s
    refine wpAny_bind (wpAny_field ho rfl (x := .none) rfl ?_)
    show wpAny _ _ (if (Value.none == Value.none) = true then _ else _) _ _ s
    rw [if_pos (show ((Value.none == Value.none) = true) from by decide)]
    refine wpAny_bind (wpAny_rule ?_)
    refine wpAny_bind (stop_new hh fun e h' hk' hs => ?_)
    obtain ⟨oe, he1, he2⟩ := hs
    refine hend _ h' hx (hk' _ _ ?_) (fun b o hb e => hk' b o e) ⟨_, oe, rfl, he1, he2⟩
    rw [liO_end]; exact ho

theorem iter_of_list {l : Addr} {items : Array Value} {Q : Value → Shared → Prop} (hl : s.heap.IsList l items) (h : ∀ h' I, h'.get? I = some (liO l items.size 0) → s.heap.get? I = none → (∀ b o, s.heap.get? b = some o → h'.get? b = some o) → Q (.ref I) { s with heap := h' }) :
    wpAny (model prog w) A (call (.builtin "iter") [.ref l]) Q E s := by
  refine call_function_entry (by decide +kernel) (by decide +kernel) kdk_entry_iter (kdk_args_iter _) ?_
  unfold Builtin.«iter»
  refine wpAny_bind (m := someArgs "iter" 1 2 _) (wpAny_of_eq (a := [Value.ref l]) (by first | rfl | kernel_rfl!) ?_)
  show wpAny _ _ (pyIter (.ref l) >>= _) _ _ _
  have hn : s.heap.get? s.heap.objs.size = none := by
    cases e : s.heap.get? s.heap.objs.size with
    | none => rfl
    | some o => exact absurd (Heap.lt_size e) (Nat.lt_irrefl _)
  refine wpAny_bind (wpAny_pyIter_list hl (wpAny_pure ⟨_, rfl, h _ _ ?_ hn fun b o e => Heap.get?_push_of_some _ e⟩))
  rw [Heap.get?_push_size _ rfl, liO_in (Nat.zero_le _)]; rfl
end
end

local macro_rules | `(tactic| walk_at "m_all") => `(tactic| ((repeat' (first | exact List.forall_mem_nil _ | refine List.forall_mem_cons.mpr ⟨?_, ?_⟩)) <;> (with_unfolding_all rfl)))
local macro_rules | `(tactic| walk_at "m_enter") => `(tactic| (
  (case ho => k_is); (case hcd => k_is); (case hb => exact kp_binds (by assumption) (fun _ => rfl)); (case hl => exact locs rfl); (case hc => decide); (case hr => exact Nat.le_of_ble_eq_true rfl); (case h1 => rfl); (case h2 => rfl); (case h3 => rfl)))
local macro_rules | `(tactic| walk_at "call builtin:list.append") => `(tactic| ((refine append_head (by assumption) (by assumption) (by assumption) ?_ (by assumption)); intro _ _ _))
local macro_rules | `(tactic| walk_at "exec For Name Call cons nil") => `(tactic| (refine stop ?_))
local macro_rules | `(tactic| walk_at "exec For Name Name cons nil") => `(tactic| (refine stop ?_))
local macro_rules | `(tactic| walk_at "exec For") => `(tactic| (refine stop ?_))

-- part W1
section
theorem fresh_W1 : True := by
  k_with_none
  exact trivial
local macro_rules | `(tactic| omega) => `(tactic| first | ((with_reducible show _ ≠ _); first | assumption | exact Ne.symm (by assumption)) | ((repeat (rename (@Ne _ _ _) => hzne; clear hzne)); (repeat (rename (@Ne _ _ _ ∧ _) => hzne; clear hzne)); (repeat (rename ((@Ne _ _ _ ∧ _) ∧ _) => hzne; clear hzne)); omega +splitDisjunctions) | omega +splitDisjunctions)

theorem pick_ints {vs : List Value} {ns : List Int} (hi : IntsAre vs ns) (lo hi' st : Option Int) : AllInts (slicePick vs.toArray lo hi' st) := fun v hv => by
  unfold slicePick at hv
  rw [List.mem_toArray, List.mem_filterMap] at hv
  obtain ⟨j, _, hj⟩ := hv
  rw [List.getElem?_toArray] at hj
  exact hi.all v (List.mem_of_getElem? hj)
theorem sum_pick {prog : Program} {w : World} {A : Around} {E : Value → Shared → Prop} {s : Shared} {h₀ : Heap} {L D : Addr} {m : Str → Option Value} {news : List (Addr × Obj)} {its : Array Value} {n : Nat} {Q : Value → Shared → Prop}
    (hh : A.handled = none) (F : Fr h₀ L s.heap m) (N : News h₀ L s.heap news) (hm : (D, { cls := .type "list", data := .seq its n }) ∈ news) (hall : AllInts its)
    (h : ∀ h' tk t', Fr h₀ L h' m → News h₀ L h' news → Q (.int (numsOf its.toList).sum t') { s with heap := h', toks := tk }) : wpAny (model prog w) A (call (.builtin "sum") [.ref D]) Q E s := by
  have hl : s.heap.IsList D its := ⟨_, (N _ hm).1, rfl, _, rfl⟩
  obtain ⟨xs, rfl⟩ := hall.items
  rw [nums_intItems] at h
  refine sum_intListG hh hl fun h' tk t' hk => ?_
  have := h h' tk t' (F.keeps hk) (fun q hq => ⟨hk _ _ (N q hq).1, (N q hq).2⟩)
  rw [preSum_eq, List.take_of_length_le (by simp)]; exact this
local macro_rules | `(tactic| walk_at "call builtin:sum") => `(tactic| (refine sum_pick rfl (by assumption) (by assumption) (by first | exact .head _ | exact .tail _ (.head _)) (pick_ints (by assumption) _ _ _) ?_; intro _ _ _ _ _))

theorem drawn_spec {w : World} {p : Program} {loose : List Str} {mg mb : Str → Option Value} {mean : ExcName → Option Value}
  {s : Shared} {Q E : Value → Shared → Prop} {l : Addr} {vs : List Value} {ns : List Int}
  (g : G w p loose mg mb s.heap) (TT : Top p loose mean mg mb s.heap) (hl : s.heap.IsList l vs.toArray) (hi : IntsAre vs ns) (hlen : ns.length ≤ 63)
  (hret : ∀ r (its : List Value) n xs s', s'.heap.get? r = some { cls := .type "list", data := .seq its.toArray n } → s.heap.get? r = none → IntsAre its xs → (xs.length = 5 ∨ xs.length = 6) → (∀ x ∈ xs, 0 ≤ x ∧ x < 69120) → Ev [] s s' → Q (.ref r) s') :
  wpAny (model PySem.Challenge.rw_us0006_01.row.prog w) (UU 470 1700) (call (.ref 116) [.ref l]) Q E s := by
  have X := g.X
  revert X; k_fill; intro X
  refine' enterC (pos := [.ref l]) (kw := []) (binds := [("script", .ref l)]) g ?ho ?hcd ?hb ?hl ?hc ?_ ?hr ?h1 ?h2 ?h3
  case ho => k_is
  case hcd => k_is
  case hb => exact kp_binds X (fun _ => rfl)
  case hl => exact kindsX rfl
  case hc => decide
  case hr => exact Nat.le_of_ble_eq_true rfl
  case h1 => rfl
  case h2 => rfl
  case h3 => rfl
  intro L h₁ tk cells F N Y X T
  clear T
  k_cells Y
  k_steps
  (rename Fr _ _ _ _ => F1); (rename News _ _ _ _ => N1)
  rename List Value => ys
  (rename IntsAre ys _ => hys)
  have h1 := N1 _ (.head _)
  refine hret _ ys _ _ _ h1.1 h1.2.2 hys ?_ ?_ ⟨fun b o _ e => F1.keep b o e, rfl, rfl, id⟩
  · rw [List.length_map]
    have e : (rangeKs 0 (5 + (ns.length : Int).fmod 2 - 0).toNat).length = (5 + (ns.length : Int).fmod 2 - 0).toNat := by simp [rangeKs]
    rw [e]
    have h2 : (ns.length : Int).fmod 2 = (ns.length : Int) % 2 := Int.fmod_eq_emod_of_nonneg _ (by decide)
    rw [h2]; omega
  · intro z hz
    obtain ⟨k', _, rfl⟩ := List.mem_map.mp hz
    rw [Int.fmod_eq_emod_of_nonneg _ (by decide)]
    omega
end

-- part M1
section
theorem fresh_M1 : True := by
  k_with_none
  exact trivial
theorem str_len_append (a b : Str) : (a ++ b).length = a.length + b.length := by
  show (a.cps ++ b.cps).size = _
  rw [Array.size_append]; rfl
theorem mul_len {n : Int} (h : n ≤ 150) : (Txt.mul (Str.ofString ")") n).length ≤ 150 := by
  have e := len_mul (Str.ofString ")") n
  have h1 : (Str.ofString ")").length = 1 := rfl
  rw [h1] at e
  split at e <;> omega
noncomputable def sgnStep (ns : List Int) (acc : Str) (i : Nat) : Str := acc ++ (Txt.mul (Str.ofString ")") (ns.getD i 0 + 1 - ns.getD (i + 1) 0) ++ Str.ofString "(")
noncomputable def sgnR (ns : List Int) : Str := (List.range (ns.length - 1)).foldl (sgnStep ns) (Str.ofString "(") ++ Txt.mul (Str.ofString ")") (ns.getD (ns.length - 1) 0 + 1)

theorem signs_spec {w : World} {p : Program} {loose : List Str} {mg mb : Str → Option Value}
  {s : Shared} {Q E : Value → Shared → Prop} {l : Addr} {vs : List Value} {ns : List Int}
  (g : G w p loose mg mb s.heap) (hl : s.heap.IsList l vs.toArray) (hi : IntsAre vs ns) (hlen : ns.length < 100) (hpos : 0 < ns.length) (hbd : ∀ k, 0 ≤ ns.getD k 0 ∧ ns.getD k 0 < 100)
  (hret : ∀ t s', Ev [] s s' → Q (.str (sgnR ns) t) s') :
  wpAny (model PySem.Challenge.rw_us0006_01.row.prog w) (UU 480 1800) (call (.ref 130) [.ref l]) Q E s := by
  have X := g.X
  revert X; k_fill; intro X
  refine' enter (pos := [.ref l]) (kw := []) (binds := [("levels", .ref l)]) g ?ho ?hcd ?hb ?hl ?hc ?_ ?hr ?h1 ?h2 ?h3
  walk_at "m_enter"
  intro L h₁ F N X T
  k_steps
  refine ⟨?_⟩
  (rename Fr _ _ _ _ => F0)
  refine for_walk (h₀ := s.heap) (n := ns.length - 1) (Pt := fun i v => ∃ t, v = .int (1 + (i : Int)) t) (σ := Str × Tok) (fun c => [])
    (fun c => [("levels", .ref l), ("signs", .str c.1 c.2)]) (fun i c s' => Same s s' ∧ c.1 = (List.range i).foldl (sgnStep ns) (Str.ofString "(") ∧ c.1.length ≤ 1 + i * 200) [] (fun _ => rfl) rfl rfl (fun _ _ _ _ _ h => ⟨h.1.to, h.2⟩) ?_ ?_ ?hn1 ?_ (fun _ => rfl)
  case hn1 => intro c; simp only [List.forall_mem_cons]; decide
  · k_with "pyIter ref" => (refine stop ?_)
    k_steps
    (rename Fr _ _ _ _ => F1); (rename News _ _ _ _ => N1); (rename IsRange _ _ _ _ _ _ _ _ => hR)
    refine ⟨?_⟩
    refine iter_range (Str.ofString "(", _) rfl hR (small1 (by decide) (by decide) (by omega) (by omega)) ?_ ?_ F1 N1 (fun p hp => (nomatch hp)) (by walk_at "m_all") (fun h => ⟨⟨rfl, rfl, rfl⟩, rfl, Nat.le_refl _⟩)
    · exact range1
    · exact fun i t _ => ⟨t, rfl⟩
  · rintro i ⟨sg, ts⟩ v u s2 own hi2 ⟨tv, rfl⟩ ⟨hs, hI, hln⟩ F1 N1 hap
    dsimp only at F1 N1 hap hI hln
    have hb1 := hbd (1 + (i : Int) - 1).toNat
    have hb2 := hbd (1 + (i : Int)).toNat
    k_steps
    (rename Fr _ _ _ _ => F2); (rename News _ _ _ _ => N2)
    have e1 : (1 + (i : Int) - 1).toNat = i := by omega
    have e2 : (1 + (i : Int)).toNat = i + 1 := by omega
    rw [e1] at hb1
    rw [e2] at hb2
    rw [e1, e2] at F2
    refine ⟨(sgnStep ns sg i, ?tt), _, _, ⟨?gs, ?g1, ?g2⟩, F2, N2, (fun p hp => (nomatch hp)), fun p hp => hp, ?g6⟩
    case g6 => walk_at "m_all"
    case gs => exact hs.to
    case g1 => dsimp only; rw [List.range_succ, List.foldl_append, ← hI]; rfl
    case g2 =>
      have h1 : (Txt.mul (Str.ofString ")") (ns.getD i 0 + 1 - ns.getD (i + 1) 0)).length ≤ 150 := mul_len (by omega)
      have h2 : (Str.ofString "(").length = 1 := rfl
      unfold sgnStep
      dsimp only
      rw [str_len_append, str_len_append, h2]
      omega
  · rintro ⟨sg, ts⟩ u s2 ⟨hs, hI, hln⟩ F1 N1
    dsimp only at F1 N1 hI hln
    have hb1 := hbd (-1 + (ns.length : Int)).toNat
    k_steps
    have e1 : (-1 + (ns.length : Int)).toNat = ns.length - 1 := tn_pred _
    rw [e1]
    have hq : ∀ t tk, Q (.str (sgnR ns) t) { s2 with toks := tk } := fun t tk => hret t _ ⟨fun b o _ e => F1.keep b o e, hs.drawn, hs.os, fun h => by show AllBare s2.gens; rw [hs.gens]; exact h⟩
    rw [show sgnR ns = sg ++ Txt.mul (Str.ofString ")") (ns.getD (ns.length - 1) 0 + 1) from by rw [hI]; rfl] at hq
    exact hq _ _
end

-- part V1
section
theorem fresh_V1 : True := by
  k_with_none
  exact trivial
local macro_rules | `(tactic| omega) => `(tactic| first | ((with_reducible show _ ≠ _); first | assumption | exact Ne.symm (by assumption)) | ((repeat (rename (@Ne _ _ _) => hzne; clear hzne)); (repeat (rename (@Ne _ _ _ ∧ _) => hzne; clear hzne)); (repeat (rename ((@Ne _ _ _ ∧ _) ∧ _) => hzne; clear hzne)); omega +splitDisjunctions) | omega +splitDisjunctions)

section
variable {prog : Program} {w : World} {A : Around} {E : Value → Shared → Prop} {s₁ : Shared} {h₀ : Heap} {L : Addr} {m : Str → Option Value} {news : List (Addr × Obj)}
structure SgLeaf (d : Str → Str) (c : Nat) (s₂ : Shared) (r : Value) (s₃ : Shared) : Prop where
  out : (∃ t, r = .str (d ⟨#[c]⟩) t) ∧ Keeps s₂ s₃
/-- a list of texts made of the signs of a text -/
theorem comp_signs {env : Env} {elt : Expr} {x : Str} {scope : Scope} {Q : Value → Shared → Prop} {y : Str} {t : Tok} (d : Str → Str)
    (hh : A.handled = none) (F : Fr h₀ L s₁.heap m) (N : News h₀ L s₁.heap news) (hsz : y.length ≤ sizeLine)
    (g2 : ∀ C c u s₂ m₂ E', s₂.heap.Ns (compEnv scope C env).locals m₂ → m₂ x = some (.str ⟨#[c]⟩ u) → s₁.toks ≤ s₂.toks → wpAny (model prog w) A (eval elt (compEnv scope C env)) (fun r s₃ => SgLeaf d c s₂ r s₃) E' s₂)
    (g3 : ∀ D (ys : List Value) h' tk, Fr h₀ L h' m → News h₀ L h' news → h₀.get? D = none → h'.IsList D ys.toArray → StrsAre ys ((signs y).map d) → Q (.ref D) { s₁ with heap := h', toks := tk }) :
    wpAny (model prog w) A (pyIter (.str y t)) (CompPost prog w A env scope x [] elt Q) E s₁ := by
  unfold CompPost
  refine wpAny_pyIter_str fun o St W hst => ?_
  have up : ∀ (h' : Heap), (∀ b o', b ∉ [s₁.heap.objs.size] → (s₁.heap.push o).get? b = some o' → h'.get? b = some o') → ∀ b o', s₁.heap.get? b = some o' → h'.get? b = some o' :=
    fun h' hk b o' e => hk b o' (old_not_new e) (Heap.get?_push_of_some _ e)
  refine ⟨ItemKind.str.lift (fun _ => true), fun v r => ∃ a, ItemKind.str.is a v ∧ Carried r (PyData.str (d a)), s₁.heap.objs.size, [s₁.heap.objs.size], [s₁.heap.objs.size], y.cps.size, SignAt y, St, rfl, W A hh, hsz, hst, ?_, ⟨?_, ?_⟩, ?_⟩
  · intro b hb
    show b < (s₁.heap.push o).objs.size
    rw [Heap.size_push, List.mem_singleton.mp hb]
    exact Nat.lt_succ_self _
  · intro C i v s₃ m₃ E' hP hn hm _ htk
    obtain ⟨c, u, _, rfl⟩ := hP
    have ha : ItemKind.str.is ⟨#[c]⟩ (.str ⟨#[c]⟩ u) := ⟨u, rfl⟩
    rw [ItemKind.lift_is ha]
    exact wpAny_pure ⟨rfl, _, _, rfl, fun _ _ e => e⟩
  · intro C i v s₃ m₃ E' hP hp hn hm _ htk
    obtain ⟨c, u, _, rfl⟩ := hP
    have ha : ItemKind.str.is ⟨#[c]⟩ (.str ⟨#[c]⟩ u) := ⟨u, rfl⟩
    refine wpAny_mono (g2 C c u s₃ m₃ E' hn hm htk) (fun r s₄ h₄ => ?_) fun _ _ e => e
    obtain ⟨⟨⟨t, rfl⟩, h⟩⟩ := h₄
    exact ⟨⟨_, ha, .str _ _⟩, h⟩
  · intro D h' tk ys vs hnew hlD hplD hlen hP hF hk
    have hc := (areOf_signs hlen hP).paired (fun _ => true) (fun a => PyData.str (d a)) _ hF
    rw [filter_allG] at hc
    refine g3 D ys.toList h' tk (F.keeps (up h' hk)) (N.grown (up h' hk)) ?_ (by rw [Array.toArray_toList]; exact hlD) (CarriedAll.strsOf hc)
    cases e : h₀.get? D with
    | none => rfl
    | some o' => rw [Heap.get?_push_of_some _ (F.keep _ _ e)] at hnew; cases hnew
end
noncomputable def inT (h s : Str) : Bool := !(Builtin.Str.occurrences h s 0 h.length 1).isEmpty
noncomputable def escA (s : Str) : Str := if inT (Str.ofString "\"\\") s = true then Str.ofString "\\" ++ s else s
noncomputable def escB (s : Str) : Str := Str.ofString "\\" ++ s

theorem join_toList : ∀ xs : List Str, (Txt.join (Str.ofString "") xs).cps.toList = (xs.map (·.cps.toList)).flatten := by
  intro xs
  show (Builtin.Str.glued _ xs).cps.toList = _
  rw [StrLaws.glued_eq_join]
  induction xs with
  | nil => rfl
  | cons x r ih =>
    cases r with
    | nil => simp [Str.join]
    | cons y r =>
      show ((x ++ Str.ofString "") ++ Str.join _ (y :: r)).cps.toList = _
      rw [List.map_cons, List.flatten_cons, ← ih]
      show ((x.cps ++ (Str.ofString "").cps) ++ _).toList = _
      rw [show (Str.ofString "").cps = #[] from rfl]; simp
theorem join_len (xs : List Str) : (Txt.join (Str.ofString "") xs).length = (xs.map (·.length)).sum := by
  show (Txt.join (Str.ofString "") xs).cps.size = _
  rw [← Array.length_toList, join_toList, List.length_flatten, List.map_map]; rfl
theorem sum_esc (d : Str → Str) (hd : ∀ c, (d ⟨#[c]⟩).length ≤ 2) (y : Str) : (((signs y).map d).map (·.length)).sum ≤ 2 * y.length := by
  have h := sum_len_le ((signs y).map d) 2 (fun z hz => by
    obtain ⟨a, ha, rfl⟩ := List.mem_map.mp hz
    unfold signs at ha
    obtain ⟨c, _, rfl⟩ := List.mem_map.mp ha
    exact hd c)
  rw [List.length_map, signs_length] at h
  omega
theorem escB_len (c : Nat) : (escB ⟨#[c]⟩).length ≤ 2 := by
  unfold escB; rw [str_len_append]; exact Nat.le_refl _
theorem escA_len (c : Nat) : (escA ⟨#[c]⟩).length ≤ 2 := by
  unfold escA; split
  · rw [str_len_append]; exact Nat.le_refl _
  · show 1 ≤ 2; decide
noncomputable def pieceR (m : Int) (wd : Str) : Str :=
  if m = 0 then Str.ofString "\"" ++ Txt.join (Str.ofString "") ((signs wd).map escA) ++ Str.ofString "\""
  else if m = 1 then Txt.join (Str.ofString "") ((signs wd).map escB)
  else Txt.item wd 0 ++ Txt.join (Str.ofString "") ((signs (Txt.slice wd (some 1) none)).map escB)
noncomputable def txStep (ns : List Str) (mn : List Int) (acc : Str) (i : Nat) : Str := acc ++ pieceR (mn.getD i 0) (ns.getD i Str.empty) ++ Txt.item (Str.ofString " \n\t\r") (Int.fmod i 4)
noncomputable def textR (ns : List Str) (mn : List Int) : Str := (List.range ns.length).foldl (txStep ns mn) (Str.ofString "")

theorem text_spec {w : World} {p : Program} {loose : List Str} {mg mb : Str → Option Value} {mean : ExcName → Option Value}
  {s : Shared} {Q E : Value → Shared → Prop} {l m2 : Addr} {vs ms : List Value} {ns : List Str} {mn : List Int}
  (g : G w p loose mg mb s.heap) (TT : Top p loose mean mg mb s.heap) (hl : s.heap.IsList l vs.toArray) (hi : StrsAre vs ns) (hm : s.heap.IsList m2 ms.toArray) (hmi : IntsAre ms mn) (hlen : ns.length ≤ 6) (hml : mn.length = ns.length) (hw : ∀ k, k < ns.length → (ns.getD k Str.empty).length = 1 ∨ (ns.getD k Str.empty).length = 2)
  (hret : ∀ t s', Ev [] s s' → Q (.str (textR ns mn) t) s') :
  wpAny (model PySem.Challenge.rw_us0006_01.row.prog w) (UU 470 1700) (call (.ref 135) [.ref l, .ref m2]) Q E s := by
  have X := g.X
  revert X; k_fill; intro X
  refine' enter (pos := [.ref l, .ref m2]) (kw := []) (binds := [("words", .ref l), ("manners", .ref m2)]) g ?ho ?hcd ?hb ?hl ?hc ?_ ?hr ?h1 ?h2 ?h3
  walk_at "m_enter"
  intro L h₁ F N X T
  clear T
  k_steps
  refine ⟨?_⟩
  (rename Fr _ _ _ _ => F0)
  refine for_walk (h₀ := s.heap) (n := ns.length) (Pt := fun i v => ∃ t, v = .int (i : Int) t) (σ := Str × Tok) (fun c => [])
    (fun c => [("words", .ref l), ("manners", .ref m2), ("text", .str c.1 c.2)]) (fun i c s' => Same s s' ∧ c.1 = (List.range i).foldl (txStep ns mn) (Str.ofString "") ∧ c.1.length ≤ 1 + i * 200) [] (fun _ => rfl) rfl rfl (fun _ _ _ _ _ h => ⟨h.1.to, h.2⟩) ?_ ?_ ?hn1 ?_ (fun _ => rfl)
  case hn1 => intro c; simp only [List.forall_mem_cons]; decide
  · k_with "pyIter ref" => (refine stop ?_)
    k_steps
    (rename Fr _ _ _ _ => F1); (rename News _ _ _ _ => N1); (rename IsRange _ _ _ _ _ _ _ _ => hR)
    refine ⟨?_⟩
    refine iter_range (Str.ofString "", _) rfl hR (small1 (by decide) (by decide) (by omega) (by omega)) ?_ ?_ F1 N1 (fun p hp => (nomatch hp)) (by walk_at "m_all") (fun h => ⟨⟨rfl, rfl, rfl⟩, rfl, Nat.zero_le _⟩)
    · first | exact range0 rfl | (rw [rangeSize1 (by decide) (by omega)]; omega)
    · exact fun i t _ => ⟨t, by rw [Int.zero_add]⟩
  · rintro i ⟨sg, ts⟩ v u s2 own hi2 ⟨tv, rfl⟩ ⟨hs, hst, hln⟩ F1 N1 hap
    dsimp only at F1 N1 hap hln hst
    have hb0 : 1 ≤ (ns.getD (i : Int).toNat Str.empty).length := (hw i hi2).elim (fun h => Nat.le_of_eq h.symm) (fun h => Nat.le_trans (by decide) (Nat.le_of_eq h.symm))
    have hb1 : (ns.getD (i : Int).toNat Str.empty).length ≤ 2 := (hw i hi2).elim (fun h => Nat.le_trans (Nat.le_of_eq h) (by decide)) (fun h => Nat.le_of_eq h)
    have hnext : ∀ P, P = pieceR (mn.getD i 0) (ns.getD i Str.empty) → sg ++ P ++ Txt.item (Str.ofString " \n\t\r") (Int.fmod i 4) = (List.range (i + 1)).foldl (txStep ns mn) (Str.ofString "") := by
      intro P e
      rw [List.range_succ, List.foldl_append, ← hst, e]; rfl
    have tail : ∀ (P : Str) tt tk h' m', P = pieceR (mn.getD i 0) (ns.getD i Str.empty) → P.length ≤ 10 → (Txt.item (Str.ofString " \n\t\r") (Int.fmod i 4)).length = 1 → Fr s.heap L h' m' → News s.heap L h' ([] ++ own) → m' (Str.ofString "words") = some (.ref l) → m' (Str.ofString "manners") = some (.ref m2) → m' (Str.ofString "text") = some (.str (sg ++ P ++ Txt.item (Str.ofString " \n\t\r") (Int.fmod i 4)) tt) →
        ∃ (c' : Str × Tok) (m : Str → Option Value) (news : List (Addr × Obj)), (Same s { s2 with heap := h', toks := tk } ∧ c'.1 = (List.range (i + 1)).foldl (txStep ns mn) (Str.ofString "") ∧ c'.1.length ≤ 1 + (i + 1) * 200) ∧ Fr s.heap L h' m ∧ News s.heap L h' news ∧ (∀ p ∈ ([] : List (Addr × Obj)), p ∈ news) ∧ (∀ p ∈ own, p ∈ news) ∧ (∀ p ∈ [(Str.ofString "words", Value.ref l), (Str.ofString "manners", .ref m2), (Str.ofString "text", .str c'.1 c'.2)], m p.1 = some p.2) := by
      intro P tt tk h' m' e hl10 hsep F' N' e1 e2 e3
      refine ⟨(sg ++ P ++ Txt.item (Str.ofString " \n\t\r") (Int.fmod i 4), tt), m', _, ⟨hs.to, hnext P e, ?_⟩, F', N', (fun p hp => nomatch hp), (fun p hp => hp), ?_⟩
      · dsimp only; rw [str_len_append, str_len_append, hsep]; omega
      · exact List.forall_mem_cons.mpr ⟨e1, List.forall_mem_cons.mpr ⟨e2, List.forall_mem_cons.mpr ⟨e3, List.forall_mem_nil _⟩⟩⟩
    k_with "pyIter str" => (refine stop ?_)
    k_with "call builtin:str.join" => (refine stop ?_)
    k_steps
    · refine ⟨?_⟩
      (rename Fr _ _ _ _ => F2); (rename News _ _ _ _ => N2)
      refine comp_signs escA rfl (by exact F2) (by exact N2) (by rw [sizeLine_eq]; omega) ?_ ?_
      · intro C c u1 s3 m3 E' hns hm3 htk
        clear F2 N2 TT
        have hl1 : (⟨#[c]⟩ : Str).length = 1 := rfl
        k_steps
        · (rename (List.isEmpty (Builtin.Str.occurrences _ _ _ _ _) = true) => ht)
          have e : escA ⟨#[c]⟩ = ⟨#[c]⟩ := by unfold escA inT; rw [ht]; rfl
          refine ⟨?_, _, _, rfl, fun _ _ e => e⟩
          rw [e]; exact ⟨_, rfl⟩
        · (rename (List.isEmpty (Builtin.Str.occurrences _ _ _ _ _) = false) => ht)
          have e : escA ⟨#[c]⟩ = Str.ofString "\\" ++ ⟨#[c]⟩ := by unfold escA inT; rw [ht]; rfl
          refine ⟨?_, _, _, rfl, fun _ _ e => e⟩
          rw [e]; exact ⟨_, rfl⟩
      · intro D ys h' tk F3 N3 hD hLi hS
        clear F2 N2
        k_steps
        refine ⟨?_⟩
        have hb2 := sum_esc escA escA_len (ns.getD (i : Int).toNat Str.empty)
        refine join_listW (x := Str.ofString "") (by exact hLi) hS (Nat.le_of_ble_eq_true rfl) (by rw [List.length_map, signs_length]; omega) ?_
        intro tj kj
        rw [← join_len] at hb2
        k_steps
        (rename Fr _ _ _ _ => F9); (rename News _ _ _ _ => N9)
        refine tail (Str.ofString "\"" ++ Txt.join (Str.ofString "") (List.map escA (signs (ns.getD (i : Int).toNat Str.empty))) ++ Str.ofString "\"") _ _ _ _ ?_ ?_ (by assumption) F9 N9 rfl rfl rfl
        · (rename (mn.getD (i : Int).toNat 0 = 0) => hz); change mn.getD i 0 = 0 at hz
          unfold pieceR; rw [if_pos hz]; rfl
        · rw [str_len_append, str_len_append, show (Str.ofString "\"").length = 1 from rfl]; omega
    · refine ⟨?_⟩
      (rename Fr _ _ _ _ => F2); (rename News _ _ _ _ => N2)
      refine comp_signs escB rfl (by exact F2) (by exact N2) (by rw [sizeLine_eq]; omega) ?_ ?_
      · intro C c u1 s3 m3 E' hns hm3 htk
        clear F2 N2 TT
        have hl1 : (⟨#[c]⟩ : Str).length = 1 := rfl
        k_steps
        exact ⟨⟨_, rfl⟩, _, _, rfl, fun _ _ e => e⟩
      · intro D ys h' tk F3 N3 hD hLi hS
        clear F2 N2
        k_steps
        refine ⟨?_⟩
        have hb2 := sum_esc escB escB_len (ns.getD (i : Int).toNat Str.empty)
        refine join_listW (x := Str.ofString "") (by exact hLi) hS (Nat.le_of_ble_eq_true rfl) (by rw [List.length_map, signs_length]; omega) ?_
        intro tj kj
        rw [← join_len] at hb2
        k_steps
        (rename Fr _ _ _ _ => F9); (rename News _ _ _ _ => N9)
        refine tail (Txt.join (Str.ofString "") (List.map escB (signs (ns.getD (i : Int).toNat Str.empty)))) _ _ _ _ ?_ ?_ (by assumption) F9 N9 rfl rfl rfl
        · (rename (mn.getD (i : Int).toNat 0 ≠ 0) => hz); change mn.getD i 0 ≠ 0 at hz
          (rename (mn.getD (i : Int).toNat 0 = 1) => hz1); change mn.getD i 0 = 1 at hz1
          unfold pieceR; rw [if_neg hz, if_pos hz1]; rfl
        · omega
    · refine ⟨?_⟩
      (rename Fr _ _ _ _ => F2); (rename News _ _ _ _ => N2)
      (rename (_ ≤ (Str.length (ns.getD (i : Int).toNat Str.empty)) ) => hsl)
      refine comp_signs escB rfl (by exact F2) (by exact N2) (by rw [sizeLine_eq]; exact Nat.le_trans hsl (by omega)) ?_ ?_
      · intro C c u1 s3 m3 E' hns hm3 htk
        clear F2 N2 TT
        have hl1 : (⟨#[c]⟩ : Str).length = 1 := rfl
        k_steps
        exact ⟨⟨_, rfl⟩, _, _, rfl, fun _ _ e => e⟩
      · intro D ys h' tk F3 N3 hD hLi hS
        clear F2 N2
        k_steps
        refine ⟨?_⟩
        have hb2 := sum_esc escB escB_len (Txt.slice (ns.getD (i : Int).toNat Str.empty) (some 1) none)
        refine join_listW (x := Str.ofString "") (by exact hLi) hS (Nat.le_of_ble_eq_true rfl) (by rw [List.length_map, signs_length]; omega) ?_
        intro tj kj
        rw [← join_len] at hb2
        k_steps
        (rename Fr _ _ _ _ => F9); (rename News _ _ _ _ => N9)
        refine tail (Txt.item (ns.getD (i : Int).toNat Str.empty) 0 ++ Txt.join (Str.ofString "") (List.map escB (signs (Txt.slice (ns.getD (i : Int).toNat Str.empty) (some 1) none)))) _ _ _ _ ?_ ?_ (by assumption) F9 N9 rfl rfl rfl
        · (rename (mn.getD (i : Int).toNat 0 ≠ 1) => hz1); change mn.getD i 0 ≠ 1 at hz1
          (rename (mn.getD (i : Int).toNat 0 ≠ 0) => hz); change mn.getD i 0 ≠ 0 at hz
          unfold pieceR; rw [if_neg hz, if_neg hz1]; rfl
        · rw [str_len_append]; omega
  · rintro ⟨sg, ts⟩ u s2 ⟨hs, hst, hln⟩ F1 N1
    dsimp only at F1 N1 hst hln
    have hq : ∀ tk, Q (.str (textR ns mn) ts) { s2 with toks := tk } := fun tk => hret ts _ ⟨fun b o _ e => F1.keep b o e, hs.drawn, hs.os, fun h => by show AllBare s2.gens; rw [hs.gens]; exact h⟩
    rw [show textR ns mn = sg from by rw [hst]; rfl] at hq
    k_steps
    exact hq _
end

-- part X0
section
theorem fresh_X0 : True := by
  k_with_none
  exact trivial
section
variable {prog : Program} {w : World} {p : Program} {loose : List Str} {A : Around} {s : Shared} {mg mb : Str → Option Value}
theorem enterMc {name qual : Str} {params : Arguments} {body : List Stmt} {scope : Scope} {dV kV doc pm cdv ct oc : Value} {an od : Option Addr} {osl : Array (Option Value)} {f : Addr} {pos : List Value} {kw : List (Str × Value)} {binds : List (Str × Value)} {R : Result → Shared → Prop}
    {h₀ : Heap} (own : List (Addr × Obj)) (g : G w p loose mg mb h₀) (hsub : ∀ b o, h₀.get? b = some o → s.heap.get? b = some o) (hown : ∀ q ∈ own, s.heap.get? q.1 = some q.2 ∧ h₀.get? q.1 = none)
    (ho : (hd.heap_1 w.params).lookup f = some ⟨oc, od, .func (fnOf name qual params body scope dV kV doc pm an cdv ct), osl⟩) (hcd : codeIn (hd.heap_1 w.params) cdv qual = true)
    (hbind : BindsTo s (fnOf name qual params body scope dV kV doc pm an cdv ct) ⟨pos, kw⟩ binds) (hloc : ∀ y ∈ binds, scope.names.lookup y.1 = some .local)
    (hcell : ∀ x ∈ scope.names, x.2 ≠ .cell)
    (h : ∀ hb L h₁, Fr hb L h₁ (fun y => binds.reverse.lookup y) → News hb L h₁ own → G w p loose mg mb hb → (hd.heap_1 w.params).In hb → TopRead p loose mg mb hb → hb.objs.size = s.heap.objs.size → (∀ b o, hb.get? b = some o → s.heap.get? b = some o) → (∀ b o, b ∉ own.map (·.1) → s.heap.get? b = some o → hb.get? b = some o) →
      wpAny (model prog w) (A.deeper (envOf qual scope L f cdv)) (execs body (envOf qual scope L f cdv))
        (fun fl s' => R (.ok (.ret (match fl with | .ret v => v | _ => .none))) s') (fun _ _ => False) { s with heap := h₁, toks := s.toks + binds.length })
    (hroom : A.depth < recursionLimit)
    (hco : scope.isCoroutine = false) (hgen : scope.isGenerator = false) (hk : scope.kind = .function) :
    codeAny (model prog w) A (.call (.ref f) ⟨pos, kw⟩) R s := by
  have gs : G w p loose mg mb s.heap := g.keeps hsub
  have gb : G w p loose mg mb (hideAll s.heap (own.map (·.1))) := g.keeps fun b o e => hideAll_get _ (hsub b o e) fun hm => by
    obtain ⟨q, hq, rfl⟩ := List.mem_map.mp hm
    rw [(hown q hq).2] at e; cases e
  refine codeAny_call_def (fd := fnOf name qual params body scope dV kV doc pm an cdv ct) (body := body) (binds := binds) hroom (gs.X _ _ ho) rfl gs.T.nolimit (codeRec_of gs.X hcd) rfl hbind hcell hloc (fun h₁ hns hk₁ => ?_) hco hgen hk
  refine wpAny_mono (h _ s.heap.objs.size h₁ ⟨hns, fun b o e => hk₁ b o (of_hideAll _ e), Nat.le_of_eq (hideAll_size _ _)⟩ (fun q hq => ⟨hk₁ _ _ (hown q hq).1, Nat.ne_of_lt (Heap.lt_size (hown q hq).1), hideAll_none _ (List.mem_map_of_mem hq)⟩) gb gb.X gb.T (hideAll_size _ _) (fun b o e => of_hideAll _ e) (fun b o hm e => hideAll_get _ e hm)) (fun fl s' hl => hl) (fun _ _ x => x.elim)
end

noncomputable abbrev ent (w : World) (nm : Str) (k : Tok) (v : Value) : DictEntry := { hash := PyData.keyHash w.params nm, key := .str nm k, val := v }

theorem make_spec {w : World} {p : Program} {loose : List Str} {mg mb : Str → Option Value}
  {s : Shared} {Q E : Value → Shared → Prop} {v : Value} {h₀ : Heap} {L : Addr} {m : Str → Option Value}
  (g : G w p loose mg mb h₀) (F : Fr h₀ L s.heap m)
  (hret : ∀ x dx pb k1 k2 k3 k4 t1 t3 s', s'.heap.get? x = some (instObj 107 dx) → s'.heap.get? dx = some (dictOf [ent w (Str.ofString "lineno") k1 (.int 1 t1), ent w (Str.ofString "instream") k2 v, ent w (Str.ofString "whitespace") k3 (.str (Str.ofString "\n\t\r ") t3), ent w (Str.ofString "pushback") k4 (.ref pb)] 4) →
    s'.heap.get? pb = some { cls := .type "list", data := .seq #[] 0 } → s.heap.get? x = none → s.heap.get? dx = none → s.heap.get? pb = none → Fr h₀ L s'.heap m → Ev [L] s s' → Q (.ref x) s') :
  wpAny (model PySem.Challenge.rw_us0006_01.row.prog w) (UU 480 1800) (call (.ref 107) [v]) Q E s := by
  have X := g.X
  revert X; k_fill; intro X
  refine' call_cls F X (news_rest (hb := h₀) (h := s.heap) (L := L)) ?k4 ?k5 ?k6 ?_
  case k4 => k_is
  case k5 => k_is
  case k6 => k_is
  intro x dx h1 F1 N1 l1 l2
  have X1 := X.keeps F1.keep
  refine' enterMc [(x, instObj 107 dx), (dx, dictOf [] 0)] (binds := [("self", .ref x), ("fp", v)]) g F1.keep ?hown ?ho ?hcd ?hb ?hl ?hc ?_ ?hr ?h1 ?h2 ?h3
  case hown =>
    intro q hq
    rcases List.mem_cons.mp hq with rfl | hq
    · exact ⟨(N1 _ (.head _)).1, (N1 _ (.head _)).2.2⟩
    · rw [List.mem_singleton.mp hq]; exact ⟨(N1 _ (.tail _ (.head _))).1, (N1 _ (.tail _ (.head _))).2.2⟩
  walk_at "m_enter"
  intro hb L2 h2 F2 N2 gb X2 T2 hsz hb1 hb2
  have hne1 : x ≠ dx := Nat.ne_of_gt l2
  have hne2 : dx ≠ x := Nat.ne_of_lt l2
  k_steps
  (rename Fr _ _ _ _ => F3); (rename News _ _ _ _ => N3)
  have kp : ∀ b o, b ≠ L → s.heap.get? b = some o → h1.get? b = some o := fun b o hL e => by
    cases h0 : h₀.get? b with
    | some o' =>
      have e1 := F.keep b o' h0
      have e2 := F1.keep b o' h0
      rw [e] at e1; cases e1; exact e2
    | none => exact (N1 (b, o) (List.mem_cons_of_mem _ (List.mem_cons_of_mem _ (mem_rest e hL h0)))).1
  have nx : ∀ b, dx ≤ b → b ≠ L → h₀.get? b = none → s.heap.get? b = none := fun b hb hL h0 => by
    cases e : s.heap.get? b with
    | none => rfl
    | some o => exact absurd (l1 _ (mem_rest e hL h0)) (Nat.not_lt.mpr hb)
  have kb : ∀ b o, b ≠ x → b ≠ dx → h1.get? b = some o → hb.get? b = some o := fun b o h1' h2' e => hb2 b o (by simp only [List.map_cons, List.map_nil, List.mem_cons, List.not_mem_nil, or_false, not_or]; exact ⟨h1', h2'⟩) e
  have hpb := N3 _ (.head _)
  have hxx := N3 _ (.tail _ (.head _))
  have hdd := N3 _ (.tail _ (.tail _ (.head _)))
  have hxL : x ≠ L := (N1 _ (.head _)).2.1
  have hdL : dx ≠ L := (N1 _ (.tail _ (.head _))).2.1
  have hx0 := (N1 _ (.head _)).2.2
  have hd0 := (N1 _ (.tail _ (.head _))).2.2
  have sx : s.heap.get? x = none := nx x (Nat.le_of_lt l2) hxL hx0
  have sd : s.heap.get? dx = none := nx dx (Nat.le_refl _) hdL hd0
  have up : ∀ b o, b ≠ L → s.heap.get? b = some o → hb.get? b = some o := fun b o hL e => kb b o (fun h => by rw [h, sx] at e; cases e) (fun h => by rw [h, sd] at e; cases e) (kp b o hL e)
  have upL : ∀ o, h1.get? L = some o → hb.get? L = some o := fun o e => kb L o hxL.symm hdL.symm e
  (refine goal_cut fun Gz hGz => ?_; obtain ⟨oL, _, _, hoL, _⟩ := id F1.ns; refine hGz ?_; clear hGz Gz)
  have none_of : ∀ b, hb.get? b = none → s.heap.get? b = none := fun b hn => by
    cases e : s.heap.get? b with
    | none => rfl
    | some o =>
      by_cases hl : b = L
      · have e2 := upL _ hoL
        rw [← hl, hn] at e2; cases e2
      · have e2 := up _ o hl e
        rw [hn] at e2; cases e2
  refine ⟨rfl, hret x dx _ _ _ _ _ _ _ _ hxx.1 hdd.1 hpb.1 sx sd ?_ (fr_move' F1 (fun o e => F3.keep _ _ (upL o e)) (fun b o e => ?_)) ⟨fun b o hbL e => F3.keep b o (up b o (fun h => hbL (List.mem_singleton.mpr h)) e), rfl, rfl, id⟩⟩
  · exact none_of _ hpb.2.2
  · refine F3.keep b o (kb b o (fun h => ?_) (fun h => ?_) (F1.keep b o e))
    · rw [h, hx0] at e; cases e
    · rw [h, hd0] at e; cases e
end

-- part X1a
section
section
variable {prog : Program} {w : World} {p : Program} {loose : List Str} {A : Around} {s : Shared} {mg mb : Str → Option Value}
/-- a call of a def with cells that may change what stands in own -/
theorem enterCM {name qual : Str} {params : Arguments} {body : List Stmt} {scope : Scope} {dV kV doc pm cdv ct oc : Value} {an od : Option Addr} {osl : Array (Option Value)} {f : Addr} {pos : List Value} {kw : List (Str × Value)} {binds : List (Str × Value)} {Q : Value → Shared → Prop} {E : Value → Shared → Prop}
    {h₀ : Heap} (own : List (Addr × Obj)) (g : G w p loose mg mb h₀) (hsub : ∀ b o, h₀.get? b = some o → s.heap.get? b = some o) (hown : ∀ q ∈ own, s.heap.get? q.1 = some q.2 ∧ h₀.get? q.1 = none)
    (ho : (hd.heap_1 w.params).lookup f = some ⟨oc, od, .func (fnOf name qual params body scope dV kV doc pm an cdv ct), osl⟩) (hcd : codeIn (hd.heap_1 w.params) cdv qual = true)
    (hbind : BindsTo s (fnOf name qual params body scope dV kV doc pm an cdv ct) ⟨pos, kw⟩ binds)
    (hkind : ∀ n, ∀ x ∈ binds, scope.names.lookup x.1 = some .local ∨ (scope.names.lookup x.1 = some .cell ∧ ((cellsFrom n scope.names []).lookup x.1).isSome = true))
    (hnd : ((cellsFrom 0 scope.names []).map (·.1)).Nodup)
    (h : ∀ hb L h₁ tk cells, Fr hb L h₁ (bindL (envOfC qual scope L f cdv).kindOf binds fun _ => none) → News hb L h₁ (cells ++ own) → CellsAre (bindC (envOfC qual scope L f cdv).kindOf binds fun _ => none) (cellsFrom (L + 1) scope.names []) cells → G w p loose mg mb hb → (hd.heap_1 w.params).In hb → TopRead p loose mg mb hb →
      (∀ q ∈ own, q.1 < L) → (∀ b o, h₀.get? b = some o → hb.get? b = some o) → (∀ b o, hb.get? b = some o → s.heap.get? b = some o) → (∀ b o, b ∉ own.map (·.1) → s.heap.get? b = some o → hb.get? b = some o) →
      wpAny (model prog w) (A.deeper (envOfC qual scope L f cdv)) (execs body (envOfC qual scope L f cdv))
        (fun fl s' => Q (match fl with | .ret v => v | _ => .none) s') (fun _ _ => False) { s with heap := h₁, toks := tk })
    (hroom : A.depth < recursionLimit)
    (hco : scope.isCoroutine = false) (hgen : scope.isGenerator = false) (hk : scope.kind = .function) :
    wpAny (model prog w) A (PySem.call (.ref f) pos kw) Q E s := by
  have gs : G w p loose mg mb s.heap := g.keeps hsub
  have hsb : ∀ b o, h₀.get? b = some o → (hideAll s.heap (own.map (·.1))).get? b = some o := fun b o e => hideAll_get _ (hsub b o e) fun hm => by
    obtain ⟨q, hq, rfl⟩ := List.mem_map.mp hm
    rw [(hown q hq).2] at e; cases e
  have gb : G w p loose mg mb (hideAll s.heap (own.map (·.1))) := g.keeps hsb
  refine wpAny_call (codeAny_call_function hroom (gs.X _ _ ho) rfl hco hgen rfl (codeRec_of gs.X hcd) (hbind _ _ _ _ ?_))
  refine wpAny_newFunctionEnv_cells hk (hkind _) fun env' he s' x => ?_
  subst he
  refine ⟨gs.T.nolimit.keeps x.toInCall.keep, codeAny_func ?_⟩
  obtain ⟨h₁, tk, rfl, _⟩ := x.done
  have hk₁ := x.toInCall.keep
  obtain ⟨cells, NC, Y⟩ := Cl.news (h₀ := s.heap) (Nat.le_refl _) fun n c hm => ⟨x.cell n c (lookup_of_mem_nodup (cellsFrom_names scope.names 0 (s.heap.objs.size + 1) [] [] rfl ▸ hnd) hm), x.above n c hm⟩
  refine wpAny_mono (h (hideAll s.heap (own.map (·.1))) s.heap.objs.size h₁ tk cells ⟨x.toInCall.ns, fun b o e => hk₁ b o (of_hideAll _ e), Nat.le_of_eq (hideAll_size _ _)⟩ (fun q hq => ?_) Y gb gb.X gb.T (fun q hq => Heap.lt_size (hown q hq).1) hsb (fun b o e => of_hideAll _ e) (fun b o hm e => hideAll_get _ e hm)) (fun fl s' hl => hl) (fun _ _ x => x.elim)
  rcases List.mem_append.mp hq with hq | hq
  · refine ⟨(NC q hq).1, (NC q hq).2.1, ?_⟩
    cases e : (hideAll s.heap (own.map (·.1))).get? q.1 with
    | none => rfl
    | some o => have := of_hideAll _ e; rw [(NC q hq).2.2] at this; cases this
  · exact ⟨hk₁ _ _ (hown q hq).1, Nat.ne_of_lt (Heap.lt_size (hown q hq).1), hideAll_none _ (List.mem_map_of_mem hq)⟩
end

theorem ne_get {h : Heap} {a b : Addr} {o : Obj} (ha : h.get? a = none) (hb : h.get? b = some o) : a ≠ b := fun e => by rw [e, hb] at ha; cases ha
theorem ne_obj {h : Heap} {a b : Addr} {o o' : Obj} (ha : h.get? a = some o) (hb : h.get? b = some o') (hne : o ≠ o') : a ≠ b := fun e => by rw [e, hb] at ha; exact hne (Option.some.inj ha).symm
/-- after a thing was made -/
theorem made_news {h₀ : Heap} {L : Addr} {s s4 : Shared} {m : Str → Option Value} {news own : List (Addr × Obj)} (F : Fr h₀ L s.heap m) (N : News h₀ L s.heap news) (ev : Ev [L] s s4) (hown : ∀ q ∈ own, s4.heap.get? q.1 = some q.2 ∧ s.heap.get? q.1 = none) : News h₀ L s4.heap (own ++ news) := fun q hq => by
  rcases List.mem_append.mp hq with hq | hq
  · refine ⟨(hown q hq).1, ?_, ?_⟩
    · obtain ⟨oL, _, _, hoL, _⟩ := id F.ns
      exact ne_get (hown q hq).2 hoL
    · cases e : h₀.get? q.1 with
      | none => rfl
      | some o => have := F.keep _ _ e; rw [(hown q hq).2] at this; cases this
  · exact ⟨ev.heap _ _ (fun hm => (N q hq).2.1 (List.mem_singleton.mp hm)) (N q hq).1, (N q hq).2⟩

/-- the parts of the lambda in _law_lexer -/
noncomputable def lamPart (P : Params) : Option (Arguments × Expr × Scope) :=
  match (hd.heap_1 P).lookup 142 with
  | some ⟨_, _, .func fd, _⟩ => (match fd.body with
    | .stmts (_ :: _ :: .Assign _ (.Lambda a b sc _) _ :: _) => some (a, b, sc)
    | _ => none)
  | _ => none
noncomputable def lamQ : Str := (Str.ofString "_law_lexer" ++ ".<locals>.") ++ Str.ofString "<lambda>"
noncomputable def lamO (P : Params) (cl c : Addr) (pm ct : Value) : Obj := match lamPart P with
  | some (a, b, sc) => kla_obj (Str.ofString "<lambda>") lamQ a b sc [(Str.ofString "signs", cl)] pm c ct
  | none => { cls := .none, data := .plain }

/-- a lexer's things -/
structure LexD where
  (ln dl pl st ds f c cl it : Addr)
  (k1 k2 k3 k4 t1 t3 j1 j2 j3 j4 j5 u1 u3 tq : Tok)
  (pm ct jp : Value)
  (oc ocl : Obj)
  vs : Array Value
  nn : Nat
noncomputable def lexLed (w : World) (d : LexD) (x : Str) (t : Tok) (k : Nat) (n : Int) (ws : List Value) : List (Addr × Obj) :=
  [(d.ln, instObj 107 d.dl),
   (d.dl, dictOf [⟨PyData.keyHash w.params (Str.ofString "lineno"), .str (Str.ofString "lineno") d.k1, .int n d.t1⟩, ⟨PyData.keyHash w.params (Str.ofString "instream"), .str (Str.ofString "instream") d.k2, .ref d.st⟩,
      ⟨PyData.keyHash w.params (Str.ofString "whitespace"), .str (Str.ofString "whitespace") d.k3, .str (Str.ofString "\n\t\r ") d.t3⟩, ⟨PyData.keyHash w.params (Str.ofString "pushback"), .str (Str.ofString "pushback") d.k4, .ref d.pl⟩] 4),
   (d.pl, W.listOf ws.toArray d.nn),
   (d.st, instObj 107 d.ds),
   (d.ds, dictOf [⟨PyData.keyHash w.params (Str.ofString "lineno"), .str (Str.ofString "lineno") d.j1, .int 1 d.u1⟩, ⟨PyData.keyHash w.params (Str.ofString "instream"), .str (Str.ofString "instream") d.j2, .none⟩,
      ⟨PyData.keyHash w.params (Str.ofString "whitespace"), .str (Str.ofString "whitespace") d.j3, .str (Str.ofString "\n\t\r ") d.u3⟩, ⟨PyData.keyHash w.params (Str.ofString "pushback"), .str (Str.ofString "pushback") d.j4, d.jp⟩,
      ⟨PyData.keyHash w.params (Str.ofString "read"), .str (Str.ofString "read") d.j5, .ref d.f⟩] 5),
   (d.f, lamO w.params d.cl d.c d.pm d.ct), (d.c, d.oc), (d.cl, d.ocl), (d.it, sO x t k)]
structure LexOk (d : LexD) : Prop where
  code : d.oc.data = .fields d.vs
  qual : d.vs[1]? = some (.str lamQ d.tq)
  cell : d.ocl.data = .cell (some (.ref d.it))
  nd : List.Nodup (α := Nat) [d.ln, d.dl, d.pl, d.st, d.ds, d.f, d.c, d.cl, d.it]

theorem ne_all {h₀ h : Heap} {L a : Addr} {l : List (Addr × Obj)} (ha : h.get? a = none) (N : News h₀ L h l) : ∀ q ∈ l, @Ne Nat a q.1 := fun q hq e => by
  have e' : a = q.1 := e
  rw [e', (N q hq).1] at ha; cases ha


theorem nd9 {a b c d e f g h i : Nat} (h1 : a ≠ b ∧ a ≠ c ∧ a ≠ d ∧ a ≠ e ∧ a ≠ f ∧ a ≠ g ∧ a ≠ h ∧ a ≠ i) (h2 : b ≠ c ∧ b ≠ d ∧ b ≠ e ∧ b ≠ f ∧ b ≠ g ∧ b ≠ h ∧ b ≠ i) (h3 : c ≠ d ∧ c ≠ e ∧ c ≠ f ∧ c ≠ g ∧ c ≠ h ∧ c ≠ i)
    (h4 : d ≠ e ∧ d ≠ f ∧ d ≠ g ∧ d ≠ h ∧ d ≠ i) (h5 : e ≠ f ∧ e ≠ g ∧ e ≠ h ∧ e ≠ i) (h6 : f ≠ g ∧ f ≠ h ∧ f ≠ i) (h7 : g ≠ h ∧ g ≠ i) (h8 : h ≠ i) : [a, b, c, d, e, f, g, h, i].Nodup := by
  simp only [List.nodup_cons, List.mem_cons, List.not_mem_nil, or_false, not_or, not_false_eq_true, List.nodup_nil, and_true]
  exact ⟨h1, h2, h3, h4, h5, h6, h7, h8⟩
end

-- part X1
section
theorem fresh_X1 : True := by
  k_with_none
  exact trivial
local macro_rules | `(tactic| omega) => `(tactic| first | ((with_reducible show _ ≠ _); first | assumption | exact Ne.symm (by assumption)) | ((repeat (rename (@Ne _ _ _) => hzne; clear hzne)); (repeat (rename (@Ne _ _ _ ∧ _) => hzne; clear hzne)); (repeat (rename ((@Ne _ _ _ ∧ _) ∧ _) => hzne; clear hzne)); omega +splitDisjunctions) | omega +splitDisjunctions)
theorem lexer_spec {w : World} {p : Program} {loose : List Str} {mg mb : Str → Option Value} {mean : ExcName → Option Value}
  {s : Shared} {Q E : Value → Shared → Prop} {x : Str} {tx : Tok} {h₀ : Heap}
  (g : G w p loose mg mb h₀) (TT : Top p loose mean mg mb h₀) (hsub : ∀ b o, h₀.get? b = some o → s.heap.get? b = some o) (ht : s.heap.get? 137 = some (tabObj #[])) (ht0 : h₀.get? 137 = none) (C0 : CodeHd h₀ 141 137)
  (hret : ∀ d s', LexOk d → (∀ q ∈ lexLed w d x tx 0 1 [], s'.heap.get? q.1 = some q.2 ∧ s.heap.get? q.1 = none) → (∃ ps, s'.heap.get? 137 = some (tabObj ps)) → Ev [137] s s' → Q (.ref d.ln) s') :
  wpAny (model PySem.Challenge.rw_us0006_01.row.prog w) (UU 470 1700) (call (.ref 142) [.str x tx]) Q E s := by
  have X := g.X.keeps hsub
  revert X; k_fill; intro X
  refine' enterCM [(137, tabObj #[])] (pos := [.str x tx]) (kw := []) (binds := [("text", .str x tx)]) g hsub ?hown ?ho ?hcd ?hb ?hl ?hc ?_ ?hr ?h1 ?h2 ?h3
  case hown => intro q hq; rw [List.mem_singleton.mp hq]; exact ⟨ht, ht0⟩
  case ho => k_is
  case hcd => k_is
  case hb => exact kp_binds X (fun _ => rfl)
  case hl => exact kindsX rfl
  case hc => decide
  case hr => exact Nat.le_of_ble_eq_true rfl
  case h1 => rfl
  case h2 => rfl
  case h3 => rfl
  intro hb L h₁ tk cells F N Y gb X1 T1 hlt hb0 hb1 hb2
  clear X
  have TB := TT.keeps hb0
  have CB := C0.keeps hb0
  clear T1
  have hlt := hlt _ (.head _)
  obtain ⟨o1, hE, d1⟩ := CellsAre.one (n := "signs") (c := L + 1) Y
  subst hE
  have d1' : o1.data = .cell none := d1
  clear Y d1
  k_with "call builtin:iter" => (refine stop ?_)
  k_steps
  refine ⟨?_⟩
  refine iter_of_str fun h2 I hI hIn hk => ?_
  have F2 := fr_move' F (hk _) (fun b o e => hk b o (F.keep b o e))
  have N2 : News hb L h2 [(I, sO x tx 0), (L + 1, o1), (137, tabObj #[])] := fun q hq => by
    rcases List.mem_cons.mp hq with rfl | hq
    · refine ⟨hI, fun e => ?_, ?_⟩
      · (refine goal_cut fun Gz hGz => ?_; obtain ⟨oL, _, _, hoL, _⟩ := id F.ns; refine hGz ?_; clear hGz Gz)
        have e' : I = L := e
        rw [e'] at hIn
        rw [show _ = _ from hoL] at hIn; cases hIn
      · cases e : hb.get? I with
        | none => rfl
        | some o => have := F.keep _ _ e; rw [show _ = _ from this] at hIn; cases hIn
    · exact ⟨hk _ _ (N q hq).1, (N q hq).2⟩
  have c1 : @Ne Nat I (L + 1) := ne_get hIn (N _ (.head _)).1
  have c2 : @Ne Nat I 137 := ne_get hIn (N _ (.tail _ (.head _))).1
  have c3 : @Ne Nat (L + 1) 137 := Nat.ne_of_gt (Nat.lt_succ_of_lt hlt)
  clear F N
  k_steps
  (rename Fr _ _ _ _ => F3); (rename News _ _ _ _ => N3)
  refine of_UU (make_spec (g := gb) F3 ?_) rfl (Nat.le_of_ble_eq_true rfl) (Nat.le_of_ble_eq_true rfl)
  intro st dx pb k1 k2 k3 k4 t1 t3 s4 hx hd hp nx nd np F4 ev4
  have gI := (N3 _ (.head _)).1
  have gC := (N3 _ (.tail _ (.head _))).1
  have gT := (N3 _ (.tail _ (.tail _ (.head _)))).1
  have N4 : News hb L s4.heap [(st, instObj 107 dx), (dx, dictOf [ent w (Str.ofString "lineno") k1 (.int 1 t1), ent w (Str.ofString "instream") k2 .none, ent w (Str.ofString "whitespace") k3 (.str (Str.ofString "\n\t\r ") t3), ent w (Str.ofString "pushback") k4 (.ref pb)] 4), (pb, W.listOf #[] 0), (I, sO x tx 0), (L + 1, _), (137, tabObj #[])] := made_news F3 N3 ev4 (own := [(st, _), (dx, _), (pb, _)]) (List.forall_mem_cons.mpr ⟨⟨hx, nx⟩, List.forall_mem_cons.mpr ⟨⟨hd, nd⟩, List.forall_mem_cons.mpr ⟨⟨hp, np⟩, by simp⟩⟩⟩)
  have a1 : @Ne Nat st (I) := ne_get nx gI
  have a2 : @Ne Nat st (L + 1) := ne_get nx gC
  have a3 : @Ne Nat st (137) := ne_get nx gT
  have a4 : @Ne Nat dx (I) := ne_get nd gI
  have a5 : @Ne Nat dx (L + 1) := ne_get nd gC
  have a6 : @Ne Nat dx (137) := ne_get nd gT
  have a7 : @Ne Nat pb (I) := ne_get np gI
  have a8 : @Ne Nat pb (L + 1) := ne_get np gC
  have a9 : @Ne Nat pb (137) := ne_get np gT
  have b1 : @Ne Nat st dx := ne_obj hx hd (by simp)
  have b2 : @Ne Nat st pb := ne_obj hx hp (by simp)
  have b3 : @Ne Nat dx pb := ne_obj hd hp (by simp)
  clear F3 N3 gI gC gT
  dsimp only [ent] at N4
  k_steps
  (rename Fr _ _ _ _ => F5); (rename News _ _ _ _ => N5)
  refine of_UU (make_spec (g := gb) F5 ?_) rfl (Nat.le_of_ble_eq_true rfl) (Nat.le_of_ble_eq_true rfl)
  intro ln dl pl q1 q2 q3 q4 u1 u3 s6 hx6 hd6 hp6 nx6 nd6 np6 F6 ev6
  have N6 := made_news F5 N5 ev6 (own := [(ln, instObj 107 dl), (dl, _), (pl, W.listOf #[] 0)]) (List.forall_mem_cons.mpr ⟨⟨hx6, nx6⟩, List.forall_mem_cons.mpr ⟨⟨hd6, nd6⟩, List.forall_mem_cons.mpr ⟨⟨hp6, np6⟩, by simp⟩⟩⟩)
  have z1 := ne_all nx6 N5
  have z2 := ne_all nd6 N5
  have z3 := ne_all np6 N5
  simp only [List.forall_mem_cons] at z1 z2 z3
  (refine goal_cut fun Gz hGz => ?_; obtain ⟨z11, z12, z13, z14, _, z15, z16, z17, _⟩ := z1; refine hGz ?_; clear hGz Gz)
  (refine goal_cut fun Gz hGz => ?_; obtain ⟨z21, z22, z23, z24, _, z25, z26, z27, _⟩ := z2; refine hGz ?_; clear hGz Gz)
  (refine goal_cut fun Gz hGz => ?_; obtain ⟨z31, z32, z33, z34, _, z35, z36, z37, _⟩ := z3; refine hGz ?_; clear hGz Gz)
  have y1 : @Ne Nat ln dl := ne_obj hx6 hd6 (by simp)
  have y2 : @Ne Nat ln pl := ne_obj hx6 hp6 (by simp)
  have y3 : @Ne Nat dl pl := ne_obj hd6 hp6 (by simp)
  k_steps
  have fin : ∀ (f c : Addr) (oc ocl : Obj) (vs : Array Value) (tq lj5 : Tok) (ct : Value) (tb : Array Value), News hb L s6.heap [(ln, instObj 107 dl), (dl, dictOf [ent w (Str.ofString "lineno") q1 (.int 1 u1), ent w (Str.ofString "instream") q2 (.ref st), ent w (Str.ofString "whitespace") q3 (.str (Str.ofString "\n\t\r ") u3), ent w (Str.ofString "pushback") q4 (.ref pl)] 4), (pl, W.listOf #[] 0), (f, lamO w.params (L + 1) c ((mg "__name__").getD .none) ct), (c, oc), (st, instObj 107 dx),
      (dx, dictOf [ent w (Str.ofString "lineno") k1 (.int 1 t1), ent w (Str.ofString "instream") k2 .none, ent w (Str.ofString "whitespace") k3 (.str (Str.ofString "\n\t\r ") t3), ent w (Str.ofString "pushback") k4 (.ref pb), ent w (Str.ofString "read") lj5 (.ref f)] 5), (pb, W.listOf #[] 0), (I, sO x tx 0), (L + 1, ocl), (137, tabObj tb)] →
      oc.data = .fields vs → vs[1]? = some (.str lamQ tq) → ocl.data = .cell (some (.ref I)) →
      (@Ne Nat f c ∧ @Ne Nat f st ∧ @Ne Nat f dx ∧ @Ne Nat f I ∧ @Ne Nat f (L + 1) ∧ @Ne Nat f 137 ∧ @Ne Nat c st ∧ @Ne Nat c dx ∧ @Ne Nat c I ∧ @Ne Nat c (L + 1) ∧ @Ne Nat c 137) →
      (@Ne Nat ln f ∧ @Ne Nat ln c ∧ @Ne Nat dl f ∧ @Ne Nat dl c ∧ @Ne Nat pl f ∧ @Ne Nat pl c) → Q (.ref ln) s6 := by
    intro f c oc ocl vs tq lj5 ct tb N7 e1 e2 e3 ff gg
    have fr : ∀ {l : List (Addr × Obj)}, News hb L s6.heap l → ∀ q ∈ l, @Ne Nat q.1 137 → s6.heap.get? q.1 = some q.2 ∧ s.heap.get? q.1 = none := fun N8 q hm hb137 => by
      have h1 := N8 q hm
      refine ⟨h1.1, ?_⟩
      cases e : s.heap.get? q.1 with
      | none => rfl
      | some o' =>
        have := hb2 q.1 o' (fun hm => hb137 (List.mem_singleton.mp hm)) e
        rw [h1.2.2] at this; cases this
    have fresh := fr N7
    simp only [List.forall_mem_cons] at fresh
    (refine goal_cut fun Gz hGz => ?_; obtain ⟨p1, p2, p3, p4, p5, p6, p7, _, p9, p10, _, _⟩ := fresh; refine hGz ?_; clear hGz Gz)
    refine hret ⟨ln, dl, pl, st, dx, f, c, L + 1, I, q1, q2, q3, q4, u1, u3, k1, k2, k3, k4, lj5, t1, t3, tq, (mg "__name__").getD .none, ct, .ref pb, oc, ocl, vs, 0⟩ s6 ⟨e1, e2, e3, ?_⟩ ?_ ⟨tb, (N7 (137, tabObj tb) (.tail _ (.tail _ (.tail _ (.tail _ (.tail _ (.tail _ (.tail _ (.tail _ (.tail _ (.tail _ (.head _)))))))))))).1⟩ ⟨fun b o hb137 e => F6.keep b o (hb2 b o hb137 e), ?_, ?_, ?_⟩
    · (refine goal_cut fun Gz hGz => ?_; obtain ⟨f1, f2, f3, f4, f5, f6, g1, g2, g3, g4, g5⟩ := ff; refine hGz ?_; clear hGz Gz)
      (refine goal_cut fun Gz hGz => ?_; obtain ⟨r1, r2, r3, r4, r5, r6⟩ := gg; refine hGz ?_; clear hGz Gz)
      exact nd9 ⟨y1, y2, z13, z14, r1, r2, z16, z15⟩ ⟨y3, z23, z24, r3, r4, z26, z25⟩ ⟨z33, z34, r5, r6, z36, z35⟩ ⟨b1, f2.symm, g1.symm, a2, a1⟩ ⟨f3.symm, g2.symm, a5, a4⟩ ⟨f1, f5, f4⟩ ⟨g4, g3⟩ c1.symm
    · unfold lexLed
      exact List.forall_mem_cons.mpr ⟨p1 z17, List.forall_mem_cons.mpr ⟨p2 z27, List.forall_mem_cons.mpr ⟨p3 z37, List.forall_mem_cons.mpr ⟨p6 a3, List.forall_mem_cons.mpr ⟨p7 a6, List.forall_mem_cons.mpr ⟨p4 ff.2.2.2.2.2.1, List.forall_mem_cons.mpr ⟨p5 ff.2.2.2.2.2.2.2.2.2.2, List.forall_mem_cons.mpr ⟨p10 c3, List.forall_mem_cons.mpr ⟨p9 c2, List.forall_mem_nil _⟩⟩⟩⟩⟩⟩⟩⟩⟩
    · exact ev6.drawn.trans ev4.drawn
    · exact ev6.os.trans ev4.os
    · exact fun h => ev6.bare (ev4.bare h)
  (rename (Obj.data _ = Data.fields _) => ld1); (rename (Obj.data _ = Data.cell (some _)) => lcell)
  rename (_ < _ ∧ _) => ll1
  rename (_ < _) => ll2
  (refine goal_cut fun Gz hGz => ?_; obtain ⟨m1, m2, m3, m4, m5, m6⟩ := ll1; refine hGz ?_; clear hGz Gz)
  refine fin _ _ _ _ _ _ _ _ _ N6 ld1 (by assumption) lcell ⟨Nat.ne_of_gt ll2, Nat.ne_of_gt (Nat.lt_trans m1 ll2), Nat.ne_of_gt (Nat.lt_trans m2 ll2), Nat.ne_of_gt (Nat.lt_trans m4 ll2), Nat.ne_of_gt (Nat.lt_trans m5 ll2), Nat.ne_of_gt (Nat.lt_trans m6 ll2), Nat.ne_of_gt m1, Nat.ne_of_gt m2, Nat.ne_of_gt m4, Nat.ne_of_gt m5, Nat.ne_of_gt m6⟩ ⟨z11, z12, z21, z22, z31, z32⟩
end

-- part Y1
section
theorem fresh_Y1 : True := by
  k_with_none
  exact trivial
section
variable {prog : Program} {w : World} {p : Program} {loose : List Str} {A : Around} {s : Shared} {mg mb : Str → Option Value}
/-- a call of a lambda -/
theorem enterLam {name qual : Str} {params : Arguments} {body : Expr} {scope : Scope} {cl : List (Str × Addr)} {pm ct : Value} {c f : Addr} {pos : List Value} {kw : List (Str × Value)} {binds : List (Str × Value)} {R : Result → Shared → Prop} {oc : Obj} {vs : Array Value} {tq : Tok}
    {h₀ : Heap} (own : List (Addr × Obj)) (g : G w p loose mg mb h₀) (hsub : ∀ b o, h₀.get? b = some o → s.heap.get? b = some o) (hown : ∀ q ∈ own, s.heap.get? q.1 = some q.2 ∧ h₀.get? q.1 = none)
    (ho : s.heap.get? f = some (kla_obj name qual params body scope cl pm c ct)) (hoc : s.heap.get? c = some oc) (h1 : oc.data = .fields vs) (h2 : vs[1]? = some (.str qual tq))
    (hbind : bindArgs (kla_fn name qual params body scope cl pm (.ref c) ct) ⟨pos, kw⟩ = pure binds) (hloc : ∀ y ∈ binds, scope.names.lookup y.1 = some .local)
    (h : ∀ hb L h₁, Fr hb L h₁ (fun y => binds.reverse.lookup y) → News hb L h₁ own → G w p loose mg mb hb → (hd.heap_1 w.params).In hb → TopRead p loose mg mb hb → (∀ b o, hb.get? b = some o → s.heap.get? b = some o) → (∀ b o, b ∉ own.map (·.1) → s.heap.get? b = some o → hb.get? b = some o) →
      wpAny (model prog w) (A.deeper (envX qual scope L f (.ref c) cl)) (eval body (envX qual scope L f (.ref c) cl)) (fun v s' => R (.ok (.ret v)) s') (fun _ _ => False) { s with heap := h₁, toks := s.toks + binds.length })
    (hroom : A.depth < recursionLimit)
    (hco : scope.isCoroutine = false) (hgen : scope.isGenerator = false) (hk : scope.kind = .function) (hcell : ∀ x ∈ scope.names, x.2 ≠ .cell) :
    codeAny (model prog w) A (.call (.ref f) ⟨pos, kw⟩) R s := by
  have gs : G w p loose mg mb s.heap := g.keeps hsub
  have gb : G w p loose mg mb (hideAll s.heap (own.map (·.1))) := g.keeps fun b o e => hideAll_get _ (hsub b o e) fun hm => by
    obtain ⟨q, hq, rfl⟩ := List.mem_map.mp hm
    rw [(hown q hq).2] at e; cases e
  refine kla_callFunE hroom ho rfl hco hgen rfl ⟨c, oc, vs, tq, rfl, hoc, h1, h2⟩ ?_
  rw [hbind]
  refine wpAny_pure (wpAny_newFunctionEnv hcell hloc (fun h₁ hns hsb => ⟨gs.T.nolimit.fresh _ hsb, ?_⟩) hk)
  show codeAny _ _ (.expr body (envX qual scope s.heap.objs.size f (.ref c) cl)) _ _
  have hk₁ : ∀ b o, s.heap.get? b = some o → h₁.get? b = some o := fun b o e => hsb.extBut b o (Nat.ne_of_lt (Heap.lt_size e)) (Heap.get?_push_of_some _ e)
  exact kla_codeExpr (wpAny_mono (h (hideAll s.heap (own.map (·.1))) s.heap.objs.size h₁ ⟨hns, fun b o e => hk₁ b o (of_hideAll _ e), Nat.le_of_eq (hideAll_size _ _)⟩
    (fun q hq => ⟨hk₁ _ _ (hown q hq).1, Nat.ne_of_lt (Heap.lt_size (hown q hq).1), hideAll_none _ (List.mem_map_of_mem hq)⟩) gb gb.X gb.T (fun b o e => of_hideAll _ e) (fun b o hm e => hideAll_get _ e hm)) (fun v s' hl => hl) fun _ _ y => y.elim)
end

theorem next2_sO {prog : Program} {w : World} {A : Around} {E : Value → Shared → Prop} {s : Shared} {x : Str} {t : Tok} {it : Addr} {k : Nat} {dflt : Value} {Q : Value → Shared → Prop} (hh : A.handled = none) (ho : s.heap.get? it = some (sO x t k)) (hk : k ≤ x.cps.size + 1)
    (hitem : ∀ c tk h', x.cps[k]? = some c → h'.get? it = some (sO x t (k + 1)) → (∀ b o, b ≠ it → s.heap.get? b = some o → h'.get? b = some o) → Q (.str ⟨#[c]⟩ tk) { s with heap := h', toks := s.toks + 1 })
    (hend : ∀ h', x.cps[k]? = none → h'.get? it = some (sO x t (x.cps.size + 1)) → (∀ b o, b ≠ it → s.heap.get? b = some o → h'.get? b = some o) → Q dflt { s with heap := h' }) :
    wpAny (model prog w) A (call (.builtin "next") [.ref it, dflt]) Q E s := by
  cases ha : x.cps.all (· < 128)
  · exact next2 (ty := "str_iterator") ⟨_, ho, by unfold sO strIterType; rw [ha]; rfl⟩ F.slot_str_iterator_next (pyNext_sO hh ho hk hitem hend)
  · exact next2 (ty := "str_ascii_iterator") ⟨_, ho, by unfold sO strIterType; rw [ha]; rfl⟩ F.slot_str_ascii_iterator_next (pyNext_sO hh ho hk hitem hend)

theorem own_keep {hb h h₁ : Heap} {L : Addr} {m : Str → Option Value} {own : List (Addr × Obj)} (F : Fr hb L h₁ m) (N : News hb L h₁ own) (hb2 : ∀ b o, b ∉ own.map (·.1) → h.get? b = some o → hb.get? b = some o)
    (hown : ∀ q ∈ own, h.get? q.1 = some q.2) {b : Addr} {o : Obj} (e : h.get? b = some o) : h₁.get? b = some o := by
  by_cases hm : b ∈ own.map (·.1)
  · obtain ⟨q, hq, rfl⟩ := List.mem_map.mp hm
    rw [hown q hq] at e; cases e
    exact (N q hq).1
  · exact F.keep b o (hb2 b o hm e)

noncomputable def rdV (x : Str) (k : Nat) : Str := match x.cps[k]? with
  | some c => ⟨#[c]⟩
  | none => Str.ofString ""
noncomputable def rdK (x : Str) (k : Nat) : Nat := if k < x.cps.size then k + 1 else x.cps.size + 1

local macro_rules | `(tactic| walk_at "eval Name") => `(tactic| ((show wpAny _ _ (eval (Expr.Name (Str.ofString "signs") _) _) _ _ _); refine stop ?_))
theorem lam_spec {w : World} {p : Program} {loose : List Str} {mg mb : Str → Option Value} {h₀ : Heap} {d : LexD}
  {s : Shared} {R : Result → Shared → Prop} {x : Str} {t t1 : Tok} {k : Nat} {v : Int}
  (g : G w p loose mg mb h₀) (hsub : ∀ b o, h₀.get? b = some o → s.heap.get? b = some o) (hok : LexOk d) (hk : k ≤ x.cps.size + 1)
  (hown : ∀ q ∈ [(d.f, lamO w.params d.cl d.c d.pm d.ct), (d.c, d.oc), (d.cl, d.ocl), (d.it, sO x t k)], s.heap.get? q.1 = some q.2 ∧ h₀.get? q.1 = none)
  (hret : ∀ tv s', s'.heap.get? d.it = some (sO x t (rdK x k)) → Ev [d.it] s s' → s'.gens = s.gens → R (.ok (.ret (.str (rdV x k) tv))) s') :
  codeAny (model PySem.Challenge.rw_us0006_01.row.prog w) (UU 420 1400) (.call (.ref d.f) ⟨[.int v t1], []⟩) R s := by
  obtain ⟨hcode, hqual, hcell, _⟩ := hok
  obtain ⟨ln, dl, pl, st, ds, f, c, cl, it, k1, k2, k3, k4, t1', t3, j1, j2, j3, j4, j5, u1, u3, tq, pm, ct, jp, oc, ocl, vs, nn⟩ := d
  dsimp only at hcode hqual hcell hown hret ⊢
  have X := g.X.keeps hsub
  revert X; k_fill; intro X
  have hf := (hown _ (.head _)).1
  have hc := (hown _ (.tail _ (.head _))).1
  have hl : lamO w.params cl c pm ct = kla_obj _ _ _ _ _ _ _ _ _ := rfl
  rw [hl] at hf hown
  refine' enterLam [(f, _), (c, oc), (cl, ocl), (it, sO x t k)] g hsub hown hf hc hcode hqual (binds := [("count", .int v t1)]) ?hb ?hl ?_ ?hr ?h1 ?h2 ?h3 ?hc
  case hb => rfl
  case hl => exact locs rfl
  case hc => decide
  case hr => exact Nat.le_of_ble_eq_true rfl
  case h1 => rfl
  case h2 => rfl
  case h3 => rfl
  intro hb L h₁ F N gb X1 T1 hb1 hb2
  k_with "call builtin:next" => (refine stop ?_)
  k_steps
  refine ⟨?_⟩
  refine nameX_F N (c := cl) (o := ocl) rfl (.tail _ (.tail _ (.head _))) hcell ?_
  k_with "eval Constant str" => (refine stop ?_)
  k_steps
  refine ⟨?_⟩
  refine wpAny_Constant_str ?_
  k_with "call builtin:next" => (refine stop ?_)
  k_with "call builtin" => (refine stop ?_)
  k_with "call" => (refine stop ?_)
  k_with "call builtin:next cons cons nil" => (refine stop ?_)
  k_steps
  refine ⟨?_⟩
  refine next2_sO rfl (by exact (N _ (.tail _ (.tail _ (.tail _ (.head _))))).1) hk (fun ch tk h' hc' hit hkeep => ?_) (fun h' hc' hit hkeep => ?_)
  · have hlt : k < x.cps.size := by
      rcases Nat.lt_or_ge k x.cps.size with h | h
      · exact h
      · rw [Array.getElem?_eq_none h] at hc'; cases hc'
    have eV : rdV x k = ⟨#[ch]⟩ := by unfold rdV; rw [hc']
    have eK : rdK x k = k + 1 := by unfold rdK; rw [if_pos hlt]
    rw [eV, eK] at hret
    exact hret _ _ hit ⟨fun b o hb e => hkeep b o (fun h => hb (List.mem_singleton.mpr h)) (own_keep F N hb2 (fun q hq => (hown q hq).1) e), rfl, rfl, id⟩ rfl
  · have hge : x.cps.size ≤ k := by
      rcases Nat.lt_or_ge k x.cps.size with h | h
      · rw [Array.getElem?_eq_getElem h] at hc'; cases hc'
      · exact h
    have eV : rdV x k = Str.ofString "" := by unfold rdV; rw [hc']
    have eK : rdK x k = x.cps.size + 1 := by unfold rdK; rw [if_neg (by omega)]
    rw [eV, eK] at hret
    exact hret _ _ hit ⟨fun b o hb e => hkeep b o (fun h => hb (List.mem_singleton.mpr h)) (own_keep F N hb2 (fun q hq => (hown q hq).1) e), rfl, rfl, id⟩ rfl
end

-- part Y2
section
theorem fresh_Y2 : True := by
  k_with_none
  exact trivial
theorem code_of_UU {d u : Nat} {M : Model} {A : Around} {c : Code} {R : Result → Shared → Prop} {s : Shared} (h : codeAny M (UU d u) c R s)
    (hh : A.handled = none) (hd : A.depth ≤ d) (hu : A.units ≤ u) : codeAny M A c R s :=
  fun Γ p hc hΓ => h Γ p hc ⟨hΓ.1.trans hh, Nat.le_trans hΓ.2.1 hd, (fun _ e => by cases e), (fun _ e => by cases e), Nat.le_trans hΓ.2.2.2.2 hu⟩

noncomputable def rdN (x : Str) (k : Nat) (n : Int) : Int := if (rdV x k == Str.ofString "\n") = true then n + 1 else n

theorem rc_spec {w : World} {p : Program} {loose : List Str} {mg mb : Str → Option Value} {h₀ : Heap} {d : LexD}
  {s : Shared} {R : Result → Shared → Prop} {x : Str} {t : Tok} {k : Nat} {n : Int} {ws : List Value}
  (g : G w p loose mg mb h₀) (hsub : ∀ b o, h₀.get? b = some o → s.heap.get? b = some o) (C0 : CodeHd h₀ 141 137) (hok : LexOk d) (hk : k ≤ x.cps.size + 1)
  (hown : ∀ q ∈ lexLed w d x t k n ws, s.heap.get? q.1 = some q.2 ∧ h₀.get? q.1 = none)
  (hret : ∀ tv t1 s', (∀ q ∈ lexLed w { d with t1 := t1 } x t (rdK x k) (rdN x k n) ws, s'.heap.get? q.1 = some q.2) → Ev ((lexLed w d x t k n ws).map (·.1)) s s' → s'.gens = s.gens → R (.ok (.ret (.str (rdV x k) tv))) s') :
  codeAny (model PySem.Challenge.rw_us0006_01.row.prog w) (UU 410 1300) (.call (.ref 90) ⟨[.ref d.ln], []⟩) R s := by
  (refine goal_cut fun Gz hGz => ?_; obtain ⟨ln, dl, pl, st, ds, f, c, cl, it, k1, k2, k3, k4, t1', t3, j1, j2, j3, j4, j5, u1, u3, tq, pm, ct, jp, oc, ocl, vs, nn⟩ := d; refine hGz ?_; clear hGz Gz)
  have hok' := hok
  (refine goal_cut fun Gz hGz => ?_; obtain ⟨hcode, hqual, hcell, hnd⟩ := hok; refine hGz ?_; clear hGz Gz)
  dsimp only at hcode hqual hcell hnd hret ⊢
  have n1 := nd_ne hnd 0 1 rfl rfl (by decide)
  have n11 := nd_ne hnd 1 2 rfl rfl (by decide)
  have n12 := nd_ne hnd 1 3 rfl rfl (by decide)
  have n13 := nd_ne hnd 1 4 rfl rfl (by decide)
  have n14 := nd_ne hnd 1 5 rfl rfl (by decide)
  have n15 := nd_ne hnd 1 6 rfl rfl (by decide)
  have n16 := nd_ne hnd 1 7 rfl rfl (by decide)
  have n17 := nd_ne hnd 1 8 rfl rfl (by decide)
  have n26 := nd_ne hnd 2 8 rfl rfl (by decide)
  have n35 := nd_ne hnd 3 8 rfl rfl (by decide)
  have n44 := nd_ne hnd 4 8 rfl rfl (by decide)
  have n53 := nd_ne hnd 5 8 rfl rfl (by decide)
  have n62 := nd_ne hnd 6 8 rfl rfl (by decide)
  have n71 := nd_ne hnd 7 8 rfl rfl (by decide)
  have n8 := nd_ne hnd 0 8 rfl rfl (by decide)
  clear hnd
  have X := g.X.keeps hsub
  revert X; k_fill; intro X
  refine' enterMc (lexLed w _ x t k n ws) (binds := [("self", .ref ln)]) g hsub hown ?ho ?hcd ?hb ?hl ?hc ?_ ?hr ?h1 ?h2 ?h3
  walk_at "m_enter"
  intro hb L h₁ F N gb X1 T1 hsz hb1 hb2
  have CB : CodeHd hb 141 137 := C0.keeps (fun b o e => hb2 b o (fun hm => by
    obtain ⟨q, hq, he⟩ := List.mem_map.mp hm
    have := (hown q hq).2
    rw [he, e] at this; cases this) (hsub b o e))
  unfold lexLed at N
  dsimp only at N
  k_with "call ref" => (refine stop ?_)
  k_steps
  refine ⟨?_⟩
  refine wpAny_call (code_of_UU (lam_spec (gb.keeps (by exact fun b o e => e)) (by exact F.keep) hok' hk (by
    intro q hq
    have hm : q ∈ lexLed w ⟨ln, dl, pl, st, ds, f, c, cl, it, k1, k2, k3, k4, t1', t3, j1, j2, j3, j4, j5, u1, u3, tq, pm, ct, jp, oc, ocl, vs, nn⟩ x t k n ws := List.mem_of_mem_drop (i := 5) hq
    exact ⟨(N q hm).1, (N q hm).2.2⟩) ?_) rfl (Nat.le_of_ble_eq_true rfl) (Nat.le_of_ble_eq_true rfl))
  intro tv s3 hit ev3 gn3
  have offit : ∀ q, @Ne Nat q it → q ∉ [it] := fun q h hm => h (List.mem_singleton.mp hm)
  have hitL := (N (it, sO x t k) (by repeat (first | exact .head _ | refine .tail _ ?_))).2
  have F3 := fr_move' F (fun o e => ev3.heap _ o (offit _ (fun h => hitL.1 h.symm)) e) (fun b o e => ev3.heap b o (offit _ (fun h => by
    have e2 := hitL.2
    have h' : b = it := h
    rw [← h', e] at e2; cases e2)) (F.keep b o e))
  have N3 : News hb L s3.heap (lexLed w ⟨ln, dl, pl, st, ds, f, c, cl, it, k1, k2, k3, k4, t1', t3, j1, j2, j3, j4, j5, u1, u3, tq, pm, ct, jp, oc, ocl, vs, nn⟩ x t (rdK x k) n ws) := by
    have mv : ∀ (a : Addr) (o : Obj), (a, o) ∈ lexLed w ⟨ln, dl, pl, st, ds, f, c, cl, it, k1, k2, k3, k4, t1', t3, j1, j2, j3, j4, j5, u1, u3, tq, pm, ct, jp, oc, ocl, vs, nn⟩ x t k n ws → @Ne Nat a it → s3.heap.get? a = some o ∧ a ≠ L ∧ hb.get? a = none := fun a o hm hne => ⟨ev3.heap _ _ (offit _ hne) (N _ hm).1, (N _ hm).2⟩
    unfold lexLed at mv ⊢
    dsimp only at mv ⊢
    simp only [News, List.forall_mem_cons]
    exact ⟨mv _ _ (.head _) n8, mv _ _ (.tail _ (.head _)) n17, mv _ _ (.tail _ (.tail _ (.head _))) n26, mv _ _ (.tail _ (.tail _ (.tail _ (.head _)))) n35, mv _ _ (.tail _ (.tail _ (.tail _ (.tail _ (.head _))))) n44, mv _ _ (.tail _ (.tail _ (.tail _ (.tail _ (.tail _ (.head _)))))) n53, mv _ _ (.tail _ (.tail _ (.tail _ (.tail _ (.tail _ (.tail _ (.head _))))))) n62, mv _ _ (.tail _ (.tail _ (.tail _ (.tail _ (.tail _ (.tail _ (.tail _ (.head _)))))))) n71, ⟨hit, hitL⟩, fun _ h => nomatch h⟩
  unfold lexLed at N3
  dsimp only at N3
  clear F N
  k_with "setAttr ref" => (refine stop ?_)
  k_steps
  · (rename Fr _ _ _ _ => F4); (rename News _ _ _ _ => N4)
    refine ⟨?_⟩
    refine' set_dict ?k1 ?k2 ?k3 ?k4 ?k5 ?k6 ?k7 ?k8 ?k9 ?k10 ?k11 ?k12 ?k13 ?_
    case k1 => exact F4
    case k2 => exact gb.X
    case k3 => exact N4
    case k4 => k_inst
    case k5 => exact rfl
    case k6 => k_is
    case k7 => k_is
    case k8 => k_is
    case k9 => k_is
    case k10 => k_get
    case k11 => k_put
    case k12 => exact .tail n1 (.head (List.forall_mem_cons.mpr ⟨Ne.symm n11, List.forall_mem_cons.mpr ⟨Ne.symm n12, List.forall_mem_cons.mpr ⟨Ne.symm n13, List.forall_mem_cons.mpr ⟨Ne.symm n14, List.forall_mem_cons.mpr ⟨Ne.symm n15, List.forall_mem_cons.mpr ⟨Ne.symm n16, List.forall_mem_cons.mpr ⟨Ne.symm n17, fun _ h => nomatch h⟩⟩⟩⟩⟩⟩⟩))
    case k13 => exact Nat.le_of_ble_eq_true rfl
    intro h5 F5 N5
    clear F4 N4 n1 n11 n12 n13 n14 n15 n16 n17 n26 n35 n44 n53 n62 n71 n8
    k_steps
    (rename ((_ == _) = true) => hc)
    have eN : rdN x k n = n + 1 := by unfold rdN; rw [if_pos hc]
    rw [eN] at hret
    have fin : ∀ tk t9 (N9 : News hb L h5 (lexLed w ⟨ln, dl, pl, st, ds, f, c, cl, it, k1, k2, k3, k4, t9, t3, j1, j2, j3, j4, j5, u1, u3, tq, pm, ct, jp, oc, ocl, vs, nn⟩ x t (rdK x k) (n + 1) ws)), R (.ok (.ret (.str (rdV x k) tv))) { s3 with heap := h5, toks := tk } := fun tk t9 N9 =>
      hret tv t9 _ (fun q hq => (N9 q hq).1) ⟨fun b o hm e => F5.keep b o (hb2 b o hm e), ev3.drawn, ev3.os, ev3.bare⟩ gn3
    exact fin _ _ N5
  · (rename Fr _ _ _ _ => F6); (rename News _ _ _ _ => N6); (rename ((_ == _) = false) => hc)
    have eN : rdN x k n = n := by unfold rdN; rw [if_neg (by rw [hc]; exact Bool.false_ne_true)]
    rw [eN] at hret
    have fin : ∀ h9 tk m9 (F9 : Fr hb L h9 m9) (N9 : News hb L h9 (lexLed w ⟨ln, dl, pl, st, ds, f, c, cl, it, k1, k2, k3, k4, t1', t3, j1, j2, j3, j4, j5, u1, u3, tq, pm, ct, jp, oc, ocl, vs, nn⟩ x t (rdK x k) n ws)), R (.ok (.ret (.str (rdV x k) tv))) { s3 with heap := h9, toks := tk } := fun h9 tk m9 F9 N9 =>
      hret tv t1' _ (fun q hq => (N9 q hq).1) ⟨fun b o hm e => F9.keep b o (hb2 b o hm e), ev3.drawn, ev3.os, ev3.bare⟩ gn3
    exact fin _ _ _ F6 N6
end

-- part Y3
section
theorem fresh_Y3 : True := by
  k_with_none
  exact trivial
theorem append_upd {prog : Program} {w : World} {A : Around} {E : Value → Shared → Prop} {s : Shared} {h₀ : Heap} {L D : Addr} {m : Str → Option Value} {news news' : List (Addr × Obj)} {its : Array Value} {n : Nat} {x : Value} {Q : Value → Shared → Prop}
    (F : Fr h₀ L s.heap m) (N : News h₀ L s.heap news) (U : Upd D (W.listOf its n) (W.listOf (its.push x) (n + 1)) news news')
    (h : ∀ h', Fr h₀ L h' m → News h₀ L h' news' → Q .none { s with heap := h' }) (hsz : its.size ≤ sizeLine) : wpAny (model prog w) A (call (.builtin "list.append") [.ref D, x]) Q E s := by
  obtain ⟨pre, post, rfl, rfl, a, c⟩ := U.split
  have z := N (D, W.listOf its n) (List.mem_append.mpr (.inr (.head _)))
  refine append_at (hsz := hsz) z.1 fun h' hs ho' => h h' (F.change hs z.2.1 z.2.2) (N.setAt a c hs ho')

theorem pt_spec {w : World} {p : Program} {loose : List Str} {mg mb : Str → Option Value} {h₀ : Heap} {d : LexD}
  {s : Shared} {Q E : Value → Shared → Prop} {x : Str} {t : Tok} {k : Nat} {n : Int} {ws : List Value} {v : Value}
  (g : G w p loose mg mb h₀) (hsub : ∀ b o, h₀.get? b = some o → s.heap.get? b = some o) (hok : LexOk d) (hws : ws.length < 1000)
  (hown : ∀ q ∈ lexLed w d x t k n ws, s.heap.get? q.1 = some q.2 ∧ h₀.get? q.1 = none)
  (hret : ∀ s', (∀ q ∈ lexLed w { d with nn := d.nn + 1 } x t k n (ws ++ [v]), s'.heap.get? q.1 = some q.2) → Ev ((lexLed w d x t k n ws).map (·.1)) s s' → Q .none s') :
  wpAny (model PySem.Challenge.rw_us0006_01.row.prog w) (UU 410 1300) (call (.ref 104) [.ref d.ln, v]) Q E s := by
  (refine goal_cut fun Gz hGz => ?_; obtain ⟨ln, dl, pl, st, ds, f, c, cl, it, k1, k2, k3, k4, t1', t3, j1, j2, j3, j4, j5, u1, u3, tq, pm, ct, jp, oc, ocl, vs, nn⟩ := d; refine hGz ?_; clear hGz Gz)
  (refine goal_cut fun Gz hGz => ?_; obtain ⟨hcode, hqual, hcell, hnd⟩ := hok; refine hGz ?_; clear hGz Gz)
  dsimp only at hcode hqual hcell hnd hret ⊢
  have n11 := nd_ne hnd 1 2 rfl rfl (by decide)
  have n2 := nd_ne hnd 0 2 rfl rfl (by decide)
  have n21 := nd_ne hnd 2 3 rfl rfl (by decide)
  have n22 := nd_ne hnd 2 4 rfl rfl (by decide)
  have n23 := nd_ne hnd 2 5 rfl rfl (by decide)
  have n24 := nd_ne hnd 2 6 rfl rfl (by decide)
  have n25 := nd_ne hnd 2 7 rfl rfl (by decide)
  have n26 := nd_ne hnd 2 8 rfl rfl (by decide)
  clear hnd
  have X := g.X.keeps hsub
  revert X; k_fill; intro X
  refine' enterM (lexLed w _ x t k n ws) (pos := [.ref ln, v]) (kw := []) (binds := [("self", .ref ln), ("token", v)]) g hsub hown ?ho ?hcd ?hb ?hl ?hc ?_ ?hr ?h1 ?h2 ?h3
  walk_at "m_enter"
  intro hb L h₁ F N gb X1 T1 hsz hb1 hb2
  unfold lexLed at N
  dsimp only at N
  k_with "call builtin:list.append" => (refine stop ?_)
  k_steps
  refine ⟨?_⟩
  refine append_upd (its := ws.toArray) (n := nn) (by exact F) (by exact N) (.tail n2 (.tail n11 (.head (List.forall_mem_cons.mpr ⟨Ne.symm n21, List.forall_mem_cons.mpr ⟨Ne.symm n22, List.forall_mem_cons.mpr ⟨Ne.symm n23, List.forall_mem_cons.mpr ⟨Ne.symm n24, List.forall_mem_cons.mpr ⟨Ne.symm n25, List.forall_mem_cons.mpr ⟨Ne.symm n26, List.forall_mem_nil _⟩⟩⟩⟩⟩⟩)))) (fun h5 F5 N5 => ?_) (by rw [List.size_toArray, sizeLine_eq]; omega)
  clear n11 n2 n21 n22 n23 n24 n25 n26
  rw [List.push_toArray] at N5
  clear F N
  k_steps
  have fin : ∀ tk (N9 : News hb L h5 (lexLed w ⟨ln, dl, pl, st, ds, f, c, cl, it, k1, k2, k3, k4, t1', t3, j1, j2, j3, j4, j5, u1, u3, tq, pm, ct, jp, oc, ocl, vs, nn + 1⟩ x t k n (ws ++ [v]))), Q .none { s with heap := h5, toks := tk } := fun tk N9 =>
    hret _ (fun q hq => (N9 q hq).1) ⟨fun b o hm e => F5.keep b o (hb2 b o hm e), rfl, rfl, id⟩
  exact fin _ N5
end

-- part Z1
section
theorem fresh_Z1 : True := by
  k_with_none
  exact trivial
theorem gt_pop {w : World} {p : Program} {loose : List Str} {mg mb : Str → Option Value} {h₀ : Heap} {d : LexD}
  {s : Shared} {Q E : Value → Shared → Prop} {x : Str} {t : Tok} {k : Nat} {n : Int} {v : Value} {ws : List Value}
  (g : G w p loose mg mb h₀) (hsub : ∀ b o, h₀.get? b = some o → s.heap.get? b = some o) (C0 : CodeHd h₀ 141 137) (hok : LexOk d) (hws : ws.length < 1000)
  (hown : ∀ q ∈ lexLed w d x t k n (v :: ws), s.heap.get? q.1 = some q.2 ∧ h₀.get? q.1 = none)
  (hret : ∀ nn s', (∀ q ∈ lexLed w { d with nn := nn } x t k n ws, s'.heap.get? q.1 = some q.2) → Ev ((lexLed w d x t k n (v :: ws)).map (·.1)) s s' → Q v s') :
  wpAny (model PySem.Challenge.rw_us0006_01.row.prog w) (UU 430 1500) (call (.ref 97) [.ref d.ln]) Q E s := by

  (refine goal_cut fun Gz hGz => ?_; obtain ⟨ln, dl, pl, st, ds, f, c, cl, it, k1, k2, k3, k4, t1', t3, j1, j2, j3, j4, j5, u1, u3, tq, pm, ct, jp, oc, ocl, vs, nn⟩ := d; refine hGz ?_; clear hGz Gz)
  have hok' := hok
  (refine goal_cut fun Gz hGz => ?_; obtain ⟨hcode, hqual, hcell, hnd⟩ := hok; refine hGz ?_; clear hGz Gz)
  dsimp only at hcode hqual hcell hnd hret ⊢
  have n11 := nd_ne hnd 1 2 rfl rfl (by decide)
  have n2 := nd_ne hnd 0 2 rfl rfl (by decide)
  have n21 := nd_ne hnd 2 3 rfl rfl (by decide)
  have n22 := nd_ne hnd 2 4 rfl rfl (by decide)
  have n23 := nd_ne hnd 2 5 rfl rfl (by decide)
  have n24 := nd_ne hnd 2 6 rfl rfl (by decide)
  have n25 := nd_ne hnd 2 7 rfl rfl (by decide)
  have n26 := nd_ne hnd 2 8 rfl rfl (by decide)
  clear hnd
  have X := g.X.keeps hsub
  revert X; k_fill; intro X
  refine' enterM (lexLed w _ x t k n (v :: ws)) (pos := [.ref ln]) (kw := []) (binds := [("self", .ref ln)]) g hsub hown ?ho ?hcd ?hb ?hl ?hc ?_ ?hr ?h1 ?h2 ?h3
  walk_at "m_enter"
  intro hb L h₁ F N gb X1 T1 hsz hb1 hb2
  have CB : CodeHd hb 141 137 := C0.keeps (fun b o e => hb2 b o (fun hm => by
    obtain ⟨q, hq, he⟩ := List.mem_map.mp hm
    have := (hown q hq).2
    rw [he, e] at this; cases this) (hsub b o e))
  unfold lexLed at N
  dsimp only at N

  k_with "truthy ref" => (refine stop ?_)
  k_with "call builtin:list.pop" => (refine stop ?_)
  k_steps
  refine ⟨?_⟩
  refine wpAny_truthy_list (items := (v :: ws).toArray) (by exact (show News _ _ _ _ from N).isList (.tail _ (.tail _ (.head _)))) (by rw [List.size_toArray, List.length_cons]; omega) ?_
  rw [show (!(v :: ws).toArray.isEmpty) = true from by simp]
  k_steps
  refine ⟨?_⟩
  refine kl_popAt (i := 0) (k := 0) (p := []) (q := ws) (y := v) (its := (v :: ws).toArray) (by exact F) (by exact N) rfl (by unfold seqIndex?; simp) rfl (.tail n2 (.tail n11 (.head (List.forall_mem_cons.mpr ⟨Ne.symm n21, List.forall_mem_cons.mpr ⟨Ne.symm n22, List.forall_mem_cons.mpr ⟨Ne.symm n23, List.forall_mem_cons.mpr ⟨Ne.symm n24, List.forall_mem_cons.mpr ⟨Ne.symm n25, List.forall_mem_cons.mpr ⟨Ne.symm n26, List.forall_mem_nil _⟩⟩⟩⟩⟩⟩)))) (by rw [sizeLine_eq]; simp; omega) (fun h5 F5 N5 => ?_)
  clear n11 n2 n21 n22 n23 n24 n25 n26
  rw [List.nil_append] at N5
  clear F N
  k_steps
  have fin : ∀ tk (N9 : News hb L h5 (lexLed w ⟨ln, dl, pl, st, ds, f, c, cl, it, k1, k2, k3, k4, t1', t3, j1, j2, j3, j4, j5, u1, u3, tq, pm, ct, jp, oc, ocl, vs, nn + 1⟩ x t k n ws)), Q v { s with heap := h5, toks := tk } := fun tk N9 =>
    hret _ _ (fun q hq => (N9 q hq).1) ⟨fun b o hm e => F5.keep b o (hb2 b o hm e), rfl, rfl, id⟩
  exact fin _ N5
end

-- part Z2
section
theorem fresh_Z2 : True := by
  k_with_none
  exact trivial
/-- the addresses of a lexer's things -/
noncomputable def lexA (d : LexD) : List Addr := [d.ln, d.dl, d.pl, d.st, d.ds, d.f, d.c, d.cl, d.it]
noncomputable def rcLed (w : World) (d : LexD) (x : Str) (t : Tok) (k : Nat) (n : Int) (te : Tok) (e : Bool) (M I : Addr) : List (Addr × Obj) :=
  (I, ciO (.ref M) te e) :: (M, methodObj (.ref 90) (.ref d.ln)) :: lexLed w d x t k n []

theorem fr_out {hb h h' : Heap} {L : Addr} {m : Str → Option Value} {fp : List Addr} (F : Fr hb L h m) (hL : L ∉ fp) (hfp : ∀ b ∈ fp, hb.get? b = none) (hk : ∀ b o, b ∉ fp → h.get? b = some o → h'.get? b = some o) : Fr hb L h' m :=
  fr_move' F (fun o e => hk L o hL e) (fun b o e => hk b o (fun hm => by rw [hfp b hm] at e; cases e) (F.keep b o e))

theorem led_out {hb h : Heap} {L : Addr} {w : World} {d : LexD} {x : Str} {t : Tok} {k : Nat} {n : Int} {ws : List Value} (N : News hb L h (lexLed w d x t k n ws)) : L ∉ lexA d ∧ ∀ b ∈ lexA d, hb.get? b = none := by
  have hmap : (lexLed w d x t k n ws).map (·.1) = lexA d := rfl
  refine ⟨fun hm => ?_, fun b hm => ?_⟩
  · rw [← hmap] at hm
    obtain ⟨q, hq, he⟩ := List.mem_map.mp hm
    exact (N q hq).2.1 he
  · rw [← hmap] at hm
    obtain ⟨q, hq, he⟩ := List.mem_map.mp hm
    rw [← he]; exact (N q hq).2.2
theorem led_new {hb h : Heap} {L : Addr} {w : World} {d d' : LexD} {x : Str} {t : Tok} {k' : Nat} {n' : Int} {ws' : List Value} (hd : lexA d' = lexA d) (N : L ∉ lexA d ∧ ∀ b ∈ lexA d, hb.get? b = none) (h1 : ∀ q ∈ lexLed w d' x t k' n' ws', h.get? q.1 = some q.2) : News hb L h (lexLed w d' x t k' n' ws') := fun q hq => by
  have hmap : (lexLed w d' x t k' n' ws').map (·.1) = lexA d' := rfl
  have hm : q.1 ∈ lexA d := by rw [← hd, ← hmap]; exact List.mem_map_of_mem hq
  exact ⟨h1 q hq, fun e => N.1 (e ▸ hm), N.2 _ hm⟩

/-- a read by self._read_char -/
theorem rc_use {w : World} {p : Program} {loose : List Str} {mg mb : Str → Option Value} {hb : Heap} {d : LexD} {A : Around}
  {s : Shared} {R : Result → Shared → Prop} {x : Str} {t te : Tok} {k : Nat} {n : Int} {L M I : Addr} {m : Str → Option Value} {e : Bool}
  (gb : G w p loose mg mb hb) (CB : CodeHd hb 141 137) (hok : LexOk d) (hk : k ≤ x.cps.size + 1) (hh : A.handled = none) (hd : A.depth ≤ 410) (hu : A.units ≤ 1300)
  (F : Fr hb L s.heap m) (N : News hb L s.heap (rcLed w d x t k n te e M I)) (hI : I ∉ lexA d) (hM : M ∉ lexA d)
  (h : ∀ tv t1 s', Fr hb L s'.heap m → News hb L s'.heap (rcLed w { d with t1 := t1 } x t (rdK x k) (rdN x k n) te e M I) → Same s s' → R (.ok (.ret (.str (rdV x k) tv))) s') :
  codeAny (model PySem.Challenge.rw_us0006_01.row.prog w) A (.call (.ref 90) ⟨[.ref d.ln], []⟩) R s := by
  have NL : News hb L s.heap (lexLed w d x t k n []) := fun q hq => N q (List.mem_cons_of_mem _ (List.mem_cons_of_mem _ hq))
  have O := led_out NL
  refine code_of_UU (rc_spec gb F.keep CB hok hk (fun q hq => ⟨(NL q hq).1, (NL q hq).2.2⟩) ?_) hh hd hu
  intro tv t1 s' h1 ev gn
  have hfp : (lexLed w d x t k n []).map (·.1) = lexA d := rfl
  rw [hfp] at ev
  refine h tv t1 s' (fr_out F O.1 O.2 ev.heap) ?_ ⟨gn, ev.drawn, ev.os⟩
  · intro q hq
    rcases List.mem_cons.mp hq with rfl | hq
    · have z := N _ (.head _); exact ⟨ev.heap _ _ hI z.1, z.2⟩
    · rcases List.mem_cons.mp hq with rfl | hq
      · have z := N _ (.tail _ (.head _)); exact ⟨ev.heap _ _ hM z.1, z.2⟩
      · exact led_new (d := d) (d' := { d with t1 := t1 }) rfl O h1 q hq

/-- next of the iterator that reads -/
theorem next_rc {w : World} {p : Program} {loose : List Str} {mg mb : Str → Option Value} {hb : Heap} {d : LexD} {A : Around} {E : Value → Shared → Prop}
  {s : Shared} {Q : Option Value → Shared → Prop} {x : Str} {t te : Tok} {k : Nat} {n : Int} {L M I : Addr} {m : Str → Option Value}
  (gb : G w p loose mg mb hb) (CB : CodeHd hb 141 137) (hok : LexOk d) (hk : k ≤ x.cps.size + 1) (hh : A.handled = none) (hd : A.depth ≤ 409) (hu : A.units ≤ 1299)
  (F : Fr hb L s.heap m) (N : News hb L s.heap (rcLed w d x t k n te false M I)) (hI : I ∉ lexA d) (hM : M ∉ lexA d) (hIM : @Ne Nat I M)
  (item : ∀ tv t1 s', rdV x k ≠ Str.ofString "" → Fr hb L s'.heap m → News hb L s'.heap (rcLed w { d with t1 := t1 } x t (rdK x k) (rdN x k n) te false M I) → Same s s' → Q (some (.str (rdV x k) tv)) s')
  (fin : ∀ t1 s', rdV x k = Str.ofString "" → Fr hb L s'.heap m → News hb L s'.heap (rcLed w { d with t1 := t1 } x t (rdK x k) (rdN x k n) te true M I) → Same s s' → Q none s') :
  wpAny (model PySem.Challenge.rw_us0006_01.row.prog w) A (pyNext (.ref I)) Q E s := by
  have z0 := N _ (.head _)
  have z1 := N _ (.tail _ (.head _))
  have X := gb.X
  revert X; k_fill; intro X
  obtain ⟨o90, fd90, hf, hfd⟩ : ∃ o fd, (Mine.hd.heap_1 w.params).lookup 90 = some o ∧ o.data = .func fd := ⟨_, _, by k_is, rfl⟩
  refine pyNext_ci hh z0.1 z1.1 (F.keep _ _ (X _ _ hf)) hfd ?_
  refine wpAny_call (method_call z1.1 (rc_use gb CB hok hk hh (Nat.le_succ_of_le hd) (Nat.succ_le_succ hu) F N hI hM ?_))
  intro tv t1 s' F' N' sh
  have y0 := N' _ (.head _)
  have y1 := N' _ (.tail _ (.head _))
  refine ⟨_, _, rfl, y0.1, y1.1, F'.keep _ _ (X _ _ hf), fun hne => item tv t1 s' hne F' N' sh, fun he h' hit hkp => ?_⟩
  have hIL : I ≠ L := y0.2.1
  refine fin t1 { s' with heap := h' } he (fr_move' F' (fun o e => hkp L o hIL.symm e) (fun b o e => hkp b o (fun hm => by rw [hm, y0.2.2] at e; cases e) (F'.keep b o e))) ?_ sh.to
  intro q hq
  rcases List.mem_cons.mp hq with rfl | hq
  · exact ⟨hit, y0.2⟩
  · rcases List.mem_cons.mp hq with rfl | hq
    · exact ⟨hkp _ _ (fun e => hIM e.symm) y1.1, y1.2⟩
    · have z := N' q (List.mem_cons_of_mem _ (List.mem_cons_of_mem _ hq))
      refine ⟨hkp _ _ (fun e => hI ?_) z.1, z.2⟩
      rw [← e]
      exact List.mem_map_of_mem (f := (·.1)) hq
end

-- part Z3
section
/-- the line number at k -/
noncomputable def lnK (x : Str) (k : Nat) : Int := 1 + ((x.cps.toList.take k).count 10 : Nat)

theorem one_eq (c c' : Nat) : ((⟨#[c]⟩ : Str) == (⟨#[c']⟩ : Str)) = decide (c = c') := by
  by_cases h : c = c'
  · subst h; simp
  · have : (⟨#[c]⟩ : Str) ≠ ⟨#[c']⟩ := fun e => h (by injection e with e; simpa using e)
    rw [beq_eq_false_iff_ne.mpr this, decide_eq_false h]

theorem rd_cons {x : Str} {k c : Nat} {r : List Nat} (h : x.cps.toList.drop k = c :: r) : rdV x k = ⟨#[c]⟩ ∧ rdK x k = k + 1 ∧ x.cps.toList.drop (k + 1) = r ∧ k < x.cps.size ∧ rdN x k (lnK x k) = lnK x (k + 1) := by
  have hlt : k < x.cps.size := by
    rcases Nat.lt_or_ge k x.cps.size with h1 | h1
    · exact h1
    · rw [List.drop_eq_nil_of_le (by simpa using h1)] at h; cases h
  have hlt' : k < x.cps.toList.length := by simpa using hlt
  have hd := List.drop_eq_getElem_cons hlt'
  rw [hd] at h
  obtain ⟨hc, hr⟩ := List.cons.inj h
  have hv : rdV x k = ⟨#[c]⟩ := by
    unfold rdV
    rw [Array.getElem?_eq_getElem hlt]
    rw [← hc]; simp
  refine ⟨hv, by unfold rdK; rw [if_pos hlt], hr, hlt, ?_⟩
  unfold rdN lnK
  rw [hv, show Str.ofString "\n" = ⟨#[10]⟩ from rfl, one_eq, List.take_add_one, List.getElem?_eq_getElem hlt', hc]
  by_cases e : c = 10
  · subst e; simp [List.count_append]; omega
  · simp [e, List.count_append, List.count_cons]
theorem rd_nil {x : Str} {k : Nat} (hk : k ≤ x.cps.size + 1) (h : x.cps.toList.drop k = []) : rdV x k = Str.ofString "" ∧ rdK x k = x.cps.size + 1 ∧ rdN x k (lnK x k) = lnK x (x.cps.size + 1) := by
  have hge : x.cps.size ≤ k := by
    have := List.drop_eq_nil_iff.mp h
    simpa using this
  have hv : rdV x k = Str.ofString "" := by unfold rdV; rw [Array.getElem?_eq_none hge]
  refine ⟨hv, by unfold rdK; rw [if_neg (by omega)], ?_⟩
  unfold rdN lnK
  rw [hv, List.take_of_length_le (by simpa using hge), List.take_of_length_le (by simp)]
  rfl
theorem drop_end (x : Str) : x.cps.toList.drop (x.cps.size + 1) = [] := List.drop_eq_nil_of_le (by simp)

/-- where a loop over the reads stands -/
structure RcSt {τ : Type} (w : World) (hb : Heap) (L : Addr) (d : LexD) (x : Str) (t te : Tok) (M I : Addr) (ps : τ → List (Str × Value)) (sh : Shared) (e : Bool) (k : Nat) (c : τ) (s : Shared) : Prop where
  fr : ∃ m, Fr hb L s.heap m ∧ ∀ p ∈ ps c, m p.1 = some p.2
  ne : ∃ t1, News hb L s.heap (rcLed w { d with t1 := t1 } x t k (lnK x k) te e M I)
  le : k ≤ x.cps.size + 1
  sh : Same sh s

theorem for_rc {τ : Type} {w : World} {p : Program} {loose : List Str} {mg mb : Str → Option Value} {hb : Heap} {d : LexD} {A : Around} {s sh : Shared} {env : Env} {Q : Flow → Shared → Prop} {x : Str} {t te : Tok} {M I : Addr} {ch : Str} {pt pos : Pos} {iter : Expr} {body : List Stmt}
    (ps : τ → List (Str × Value)) (P Pe : Nat → τ → Prop)
    (gb : G w p loose mg mb hb) (CB : CodeHd hb 141 137) (hok : LexOk d) (hh : A.handled = none) (hd : A.depth ≤ 409) (hu : A.units ≤ 1290) (hI : I ∉ lexA d) (hM : M ∉ lexA d) (hIM : @Ne Nat I M)
    (hx : env.kindOf ch = some .local) (hp : (env.scope.kind == .class || (env.scope.kind == .module && env.locals != env.globals)) = false) (hne : ∀ c, ∀ p ∈ ps c, p.1 ≠ ch)
    (ended : ∀ k c, P k c → x.cps.toList.drop k = [] → Pe (x.cps.size + 1) c)
    (h0 : wpAny (model PySem.Challenge.rw_us0006_01.row.prog w) A (eval iter env) (fun v s₁ => v = .ref I ∧ ((∃ k c, P k c ∧ RcSt w hb env.locals d x t te M I ps sh false k c s₁) ∨ ∃ k c, Pe k c ∧ RcSt w hb env.locals d x t te M I ps sh true k c s₁)) (fun _ _ => False) s)
    (turn : ∀ k c u s t1 tv cd r, P k c → x.cps.toList.drop k = cd :: r → k < x.cps.size → Same sh s → Fr hb env.locals s.heap (bd u ((ch, .str ⟨#[cd]⟩ tv) :: ps c)) → News hb env.locals s.heap (rcLed w { d with t1 := t1 } x t (k + 1) (lnK x (k + 1)) te false M I) →
      wpAny (model PySem.Challenge.rw_us0006_01.row.prog w) A (execs body env) (fun f s₃ => match f with
        | .ret v => Q (.ret v) s₃
        | .brk => Q .next s₃
        | _ => (∃ k' c', k < k' ∧ P k' c' ∧ RcSt w hb env.locals d x t te M I ps sh false k' c' s₃) ∨ ∃ k' c', Pe k' c' ∧ RcSt w hb env.locals d x t te M I ps sh true k' c' s₃) (fun _ _ => False) s)
    (done : ∀ k c u s t1, Pe k c → k ≤ x.cps.size + 1 → Same sh s → Fr hb env.locals s.heap (bd u (ps c)) → News hb env.locals s.heap (rcLed w { d with t1 := t1 } x t k (lnK x k) te true M I) → Q .next s)
    (hs : ∀ x, foldedSetIterable iter env x = pure x) :
    wpAny (model PySem.Challenge.rw_us0006_01.row.prog w) A (exec (.For (.Name ch pt) iter body [] pos) env) Q (fun _ _ => False) s := by
  have hmem : ∀ (q : Addr × Obj) t1 k n te e, q ∈ lexLed w { d with t1 := t1 } x t k n [] → q ∈ rcLed w { d with t1 := t1 } x t k n te e M I := fun q t1 k n te e h => List.mem_cons_of_mem _ (List.mem_cons_of_mem _ h)
  refine wpAny_For (wpAny_mono h0 (fun v s₁ h₁ => ?_) fun _ _ x => x.elim) hs
  obtain ⟨rfl, h₁⟩ := h₁
  have hgo : wpAny (model PySem.Challenge.rw_us0006_01.row.prog w) A (pyIter (.ref I)) (fun it s₂ => it = .ref I ∧ s₂ = s₁) (fun _ _ => False) s₁ := by
    rcases h₁ with ⟨k, c, _, z⟩ | ⟨k, c, _, z⟩ <;>
    · obtain ⟨t1, N⟩ := z.ne
      exact pyIter_ci (N _ (.head _)).1 ⟨rfl, rfl⟩
  refine wpAny_mono hgo (fun it s₂ h₂ => ?_) fun _ _ x => x.elim
  obtain ⟨rfl, rfl⟩ := h₂
  refine codeAny_mono (R := fun r s' => match r with | .ok f => Q f s' | .error _ => False) ?_ (fun r s' h => by cases r with | ok f => exact h | error e => exact h.elim)
  have hst : ∃ n, (∃ k c, n = x.cps.size + 3 - k ∧ P k c ∧ RcSt w hb env.locals d x t te M I ps sh false k c s₂) ∨ ∃ k c, n = 0 ∧ Pe k c ∧ RcSt w hb env.locals d x t te M I ps sh true k c s₂ := by
    rcases h₁ with ⟨k, c, hP, z⟩ | ⟨k, c, hP, z⟩
    · exact ⟨_, .inl ⟨k, c, rfl, hP, z⟩⟩
    · exact ⟨_, .inr ⟨k, c, rfl, hP, z⟩⟩
  obtain ⟨n₀, hst⟩ := hst
  refine codeAny_forLoop_any (fun n s' => (∃ k c, n = x.cps.size + 3 - k ∧ P k c ∧ RcSt w hb env.locals d x t te M I ps sh false k c s') ∨ ∃ k c, n = 0 ∧ Pe k c ∧ RcSt w hb env.locals d x t te M I ps sh true k c s') ?_ n₀ hst
  clear h₁ hgo hst h0
  rintro n s' (⟨k, c, rfl, hP, z⟩ | ⟨k, c, rfl, hP, z⟩)
  · obtain ⟨m, F, hm⟩ := z.fr
    obtain ⟨t1, N⟩ := z.ne
    refine next_rc (d := { d with t1 := t1 }) gb CB (show LexOk { d with t1 := t1 } from ⟨hok.code, hok.qual, hok.cell, hok.nd⟩) z.le hh hd (Nat.le_trans hu (by decide)) F N hI hM hIM ?_ ?_
    · intro tv t2 s3 hne' F3 N3 sh3
      cases hdr : x.cps.toList.drop k with
      | nil => exact absurd (rd_nil z.le hdr).1 hne'
      | cons cd r =>
        obtain ⟨e1, e2, e3, e4, e5⟩ := rd_cons hdr
        rw [e2, e5] at N3
        rw [e1]
        show wpAny _ _ (letOwnedTupleGo _ _ _) _ _ _
        refine wpAny_pure ?_
        refine wpAny_assign_Name (wpAny_storeName_local hx F3.ns (fun h4 hn4 hs4 => ?_) hp)
        replace hs4 : Heap.SameBut env.locals s3.heap h4 := hs4
        have F4 := F3.set hn4 hs4
        have N4 : News hb env.locals h4 (rcLed w { d with t1 := t2 } x t (k + 1) (lnK x (k + 1)) te false M I) := fun q hq => ⟨hs4.extBut _ _ (N3 q hq).2.1 (N3 q hq).1, (N3 q hq).2⟩
        refine wpAny_mono (turn k c m _ t2 tv cd r hP hdr e4 ((z.sh.trans sh3).to) (bd_cons F4 hm) N4) (fun f s₃ h₃ => ?_) fun _ _ x => x.elim
        have fin : ((∃ k' c', k < k' ∧ P k' c' ∧ RcSt w hb env.locals d x t te M I ps sh false k' c' s₃) ∨ ∃ k' c', Pe k' c' ∧ RcSt w hb env.locals d x t te M I ps sh true k' c' s₃) → ∃ m, m < x.cps.size + 3 - k ∧ ((∃ k c, m = x.cps.size + 3 - k ∧ P k c ∧ RcSt w hb env.locals d x t te M I ps sh false k c s₃) ∨ ∃ k c, m = 0 ∧ Pe k c ∧ RcSt w hb env.locals d x t te M I ps sh true k c s₃) := by
          rintro (⟨k', c', hlt, hP', z'⟩ | ⟨k', c', hP', z'⟩)
          · exact ⟨_, by have := z'.le; omega, .inl ⟨k', c', rfl, hP', z'⟩⟩
          · exact ⟨0, by omega, .inr ⟨k', c', rfl, hP', z'⟩⟩
        cases f with
        | ret v => exact h₃
        | brk => exact h₃
        | next => exact fin h₃
        | cont => exact fin h₃
    · intro t2 s3 he F3 N3 sh3
      have hdr : x.cps.toList.drop k = [] := by
        cases hdr : x.cps.toList.drop k with
        | nil => rfl
        | cons cd r =>
          rw [(rd_cons hdr).1] at he
          exact absurd (congrArg Str.length he) (by show ¬ (1 = 0); decide)
      obtain ⟨e1, e2, e3⟩ := rd_nil z.le hdr
      rw [e2, e3] at N3
      refine wpAny_execs_nil (done _ c m s3 t2 (ended k c hP hdr) (Nat.le_refl _) (z.sh.trans sh3) ?_ N3)
      rw [bd_eq hm]; exact F3
  · obtain ⟨m, F, hm⟩ := z.fr
    obtain ⟨t1, N⟩ := z.ne
    have z0 := N _ (.head _)
    refine pyNext_ci_end hh z0.1 fun h' hk => ?_
    refine wpAny_execs_nil (done k c m _ t1 hP z.le (z.sh.to) (by rw [bd_eq hm]; exact F.keeps hk) (fun q hq => ⟨hk _ _ (N q hq).1, (N q hq).2⟩))
end

-- part Z5
section
theorem fresh_Z5 : True := by
  k_with_none
  exact trivial
/-- what get_token takes: within quotation marks, bare, at all -/
noncomputable def gtQ : List Nat → List Nat → List Nat × List Nat
  | [], tok => (tok, [])
  | c :: r, tok => if c = 34 then (tok, r) else if c = 92 then (match r with
    | [] => (tok, [])
    | c2 :: r2 => gtQ r2 (tok ++ [c2])) else gtQ r (tok ++ [c])
noncomputable def wsB (c : Nat) : Bool := inT (Str.ofString "\n\t\r ") ⟨#[c]⟩
noncomputable def gtB : List Nat → List Nat → List Nat × List Nat
  | [], tok => (tok, [])
  | c :: r, tok => if wsB c = true then (tok, r) else if c = 92 then (match r with
    | [] => (tok, [])
    | c2 :: r2 => gtB r2 (tok ++ [c2])) else gtB r (tok ++ [c])
noncomputable def gtO : List Nat → List Nat × List Nat
  | [] => ([], [])
  | c :: r => if wsB c = true then gtO r else if c = 34 then gtQ r [] else if c = 92 then (match r with
    | [] => ([], [])
    | c2 :: r2 => gtB r2 [c2]) else gtB r [c]

theorem rd_any {x : Str} {k : Nat} {r : List Nat} (h : x.cps.toList.drop k = r) (hk : k ≤ x.cps.size) : ∃ V k2, rdV x k = V ∧ rdK x k = k2 ∧ rdN x k (lnK x k) = lnK x k2 ∧ k < k2 ∧ k2 ≤ x.cps.size + 1 ∧ V.length ≤ 1 ∧
    ((r = [] ∧ V = Str.ofString "" ∧ x.cps.toList.drop k2 = []) ∨ ∃ c2 r2, r = c2 :: r2 ∧ V = ⟨#[c2]⟩ ∧ x.cps.toList.drop k2 = r2) := by
  cases r with
  | nil =>
    obtain ⟨e1, e2, e3⟩ := rd_nil (Nat.le_succ_of_le hk) h
    exact ⟨_, _, e1, e2, e3, Nat.lt_succ_of_le hk, Nat.le_refl _, Nat.zero_le _, .inl ⟨rfl, rfl, drop_end x⟩⟩
  | cons c r =>
    (refine goal_cut fun Gz hGz => ?_; obtain ⟨e1, e2, e3, e4, e5⟩ := rd_cons h; refine hGz ?_; clear hGz Gz)
    exact ⟨_, _, e1, e2, e5, Nat.lt_succ_self _, Nat.succ_le_succ hk, Nat.le_refl _, .inr ⟨c, r, rfl, rfl, e3⟩⟩
theorem app_toList (a b : Str) : (a ++ b).cps.toList = a.cps.toList ++ b.cps.toList := by
  show (a.cps ++ b.cps).toList = _
  simp
theorem is_one {c : Nat} {n : Nat} {y : Str} (hy : y = ⟨#[n]⟩) {b : Bool} (h : ((⟨#[c]⟩ : Str) == y) = b) : decide (c = n) = b := by rw [← h, hy, one_eq]
theorem gtQ_ret {r tok : List Nat} : gtQ (34 :: r) tok = (tok, r) := by cases r <;> simp [gtQ]
theorem gtQ_plain {c : Nat} {r tok : List Nat} (h1 : ¬ c = 34) (h2 : ¬ c = 92) : gtQ (c :: r) tok = gtQ r (tok ++ [c]) := by cases r <;> simp [gtQ, h1, h2]
theorem gtB_ret {c : Nat} {r tok : List Nat} (h : wsB c = true) : gtB (c :: r) tok = (tok, r) := by cases r <;> simp [gtB, h]
theorem gtB_plain {c : Nat} {r tok : List Nat} (h1 : wsB c = false) (h2 : ¬ c = 92) : gtB (c :: r) tok = gtB r (tok ++ [c]) := by cases r <;> simp [gtB, h1, h2]
theorem gtO_ws {c : Nat} {r : List Nat} (h : wsB c = true) : gtO (c :: r) = gtO r := by cases r <;> simp [gtO, h]
theorem gtO_q {r : List Nat} (h : wsB 34 = false) : gtO (34 :: r) = gtQ r [] := by cases r <;> simp [gtO, h]
theorem gtO_plain {c : Nat} {r : List Nat} (h : wsB c = false) (h1 : ¬ c = 34) (h2 : ¬ c = 92) : gtO (c :: r) = gtB r [c] := by cases r <;> simp [gtO, h, h1, h2]
theorem gtQ_esc {x : Str} {r tok : List Nat} {V : Str} {k2 : Nat} (h : (r = [] ∧ V = Str.ofString "" ∧ x.cps.toList.drop k2 = []) ∨ ∃ c2 r2, r = c2 :: r2 ∧ V = ⟨#[c2]⟩ ∧ x.cps.toList.drop k2 = r2) :
    gtQ (92 :: r) tok = gtQ (x.cps.toList.drop k2) (tok ++ V.cps.toList) := by
  rcases h with ⟨rfl, rfl, e⟩ | ⟨c2, r2, rfl, rfl, e⟩ <;> rw [e]
  · rw [show (Str.ofString "").cps.toList = [] from rfl, List.append_nil]; simp [gtQ]
  · simp [gtQ]
theorem gtB_esc {x : Str} {r tok : List Nat} {V : Str} {k2 : Nat} (h : (r = [] ∧ V = Str.ofString "" ∧ x.cps.toList.drop k2 = []) ∨ ∃ c2 r2, r = c2 :: r2 ∧ V = ⟨#[c2]⟩ ∧ x.cps.toList.drop k2 = r2) (hw : wsB 92 = false) :
    gtB (92 :: r) tok = gtB (x.cps.toList.drop k2) (tok ++ V.cps.toList) := by
  rcases h with ⟨rfl, rfl, e⟩ | ⟨c2, r2, rfl, rfl, e⟩ <;> rw [e]
  · rw [show (Str.ofString "").cps.toList = [] from rfl, List.append_nil]; simp [gtB, hw]
  · simp [gtB, hw]
theorem gtO_esc {x : Str} {r : List Nat} {V : Str} {k2 : Nat} (h : (r = [] ∧ V = Str.ofString "" ∧ x.cps.toList.drop k2 = []) ∨ ∃ c2 r2, r = c2 :: r2 ∧ V = ⟨#[c2]⟩ ∧ x.cps.toList.drop k2 = r2) (hw : wsB 92 = false) :
    gtO (92 :: r) = gtB (x.cps.toList.drop k2) (V.cps.toList) := by
  rcases h with ⟨rfl, rfl, e⟩ | ⟨c2, r2, rfl, rfl, e⟩ <;> rw [e]
  · rw [show (Str.ofString "").cps.toList = [] from rfl]; simp [gtO, gtB, hw]
  · simp [gtO, hw]

theorem notin9 {a b c d e f g h i z : Nat} (l : a < z ∧ b < z ∧ c < z ∧ d < z ∧ e < z ∧ f < z ∧ g < z ∧ h < z ∧ i < z) : z ∉ [a, b, c, d, e, f, g, h, i] := fun hm =>
  Nat.lt_irrefl z ((List.forall_mem_cons.mpr ⟨l.1, List.forall_mem_cons.mpr ⟨l.2.1, List.forall_mem_cons.mpr ⟨l.2.2.1, List.forall_mem_cons.mpr ⟨l.2.2.2.1, List.forall_mem_cons.mpr ⟨l.2.2.2.2.1, List.forall_mem_cons.mpr ⟨l.2.2.2.2.2.1, List.forall_mem_cons.mpr ⟨l.2.2.2.2.2.2.1, List.forall_mem_cons.mpr ⟨l.2.2.2.2.2.2.2.1, List.forall_mem_cons.mpr ⟨l.2.2.2.2.2.2.2.2, List.forall_mem_nil _⟩⟩⟩⟩⟩⟩⟩⟩⟩ : ∀ y ∈ [a, b, c, d, e, f, g, h, i], y < z) z hm)
theorem gt_read {w : World} {p : Program} {loose : List Str} {mg mb : Str → Option Value} {h₀ : Heap} {d : LexD}
  {s : Shared} {Q E : Value → Shared → Prop} {x : Str} {t : Tok} {k : Nat}
  (g : G w p loose mg mb h₀) (hsub : ∀ b o, h₀.get? b = some o → s.heap.get? b = some o) (C0 : CodeHd h₀ 141 137) (hok : LexOk d) (hk : k ≤ x.cps.size + 1) (hxs : x.cps.size ≤ 300)
  (hown : ∀ q ∈ lexLed w d x t k (lnK x k) [], s.heap.get? q.1 = some q.2 ∧ h₀.get? q.1 = none)
  (hret : ∀ tv y k' t1 s', (y.cps.toList, x.cps.toList.drop k') = gtO (x.cps.toList.drop k) → k' ≤ x.cps.size + 1 → (∀ q ∈ lexLed w { d with t1 := t1 } x t k' (lnK x k') [], s'.heap.get? q.1 = some q.2) → Ev (lexA d) s s' → s'.gens = s.gens → Q (.str y tv) s') :
  wpAny (model PySem.Challenge.rw_us0006_01.row.prog w) (UU 400 1200) (call (.ref 97) [.ref d.ln]) Q E s := by
  obtain ⟨ln, dl, pl, st, ds, f, c, cl, it, k1, k2, k3, k4, t1', t3, j1, j2, j3, j4, j5, u1, u3, tq, pm, ct, jp, oc, ocl, vs, nn⟩ := d
  have hok' := hok
  (refine goal_cut fun Gz hGz => ?_; obtain ⟨hcode, hqual, hcell, hnd⟩ := hok; refine hGz ?_; clear hGz Gz)
  dsimp only at hcode hqual hcell hnd hret ⊢
  have X := g.X.keeps hsub
  revert X; k_fill; intro X
  refine' enterM (lexLed w _ x t k (lnK x k) []) (pos := [.ref ln]) (kw := []) (binds := [("self", .ref ln)]) g hsub hown ?ho ?hcd ?hb ?hl ?hc ?_ ?hr ?h1 ?h2 ?h3
  walk_at "m_enter"
  intro hb L h₁ F N gb X1 T1 hsz hb1 hb2
  have CB : CodeHd hb 141 137 := C0.keeps (fun b o e => hb2 b o (fun hm => by
    obtain ⟨q, hq, he⟩ := List.mem_map.mp hm
    have := (hown q hq).2
    rw [he, e] at this; cases this) (hsub b o e))
  have O := led_out N
  unfold lexLed at N
  dsimp only at N
  k_with "call builtin:iter" => (refine stop ?_)
  k_steps
  (rename Fr _ _ _ _ => F2); (rename News _ _ _ _ => N2)
  rename_i ha M h2 l1
  refine ⟨?_⟩
  refine iter_sentinel (N2 _ (.head _)).1 fun h3 I hI hIn hk3 => ?_
  have F3 : Fr hb L h3 _ := F2.keeps hk3
  have N3' : ∀ te, h3.get? I = some (ciO (.ref M) te false) → News hb L h3 (rcLed w ⟨ln, dl, pl, st, ds, f, c, cl, it, k1, k2, k3, k4, t1', t3, j1, j2, j3, j4, j5, u1, u3, tq, pm, ct, jp, oc, ocl, vs, nn⟩ x t k (lnK x k) te false M I) := by
    intro te hI q hq
    rcases List.mem_cons.mp hq with rfl | hq
    · refine ⟨hI, fun e => ?_, ?_⟩
      · (refine goal_cut fun Gz hGz => ?_; obtain ⟨oL, _, _, hoL, _⟩ := id F2.ns; refine hGz ?_; clear hGz Gz)
        exact absurd e (ne_get hIn hoL)
      · cases e : hb.get? I with
        | none => rfl
        | some o => have := F2.keep _ _ e; rw [show _ = _ from this] at hIn; cases hIn
    · exact ⟨hk3 _ _ (N2 q hq).1, (N2 q hq).2⟩
  obtain ⟨te, hI⟩ : ∃ te, h3.get? I = some (ciO (.ref M) te false) := ⟨_, hI⟩
  have N3 := N3' _ hI
  have hM : M ∉ lexA ⟨ln, dl, pl, st, ds, f, c, cl, it, k1, k2, k3, k4, t1', t3, j1, j2, j3, j4, j5, u1, u3, tq, pm, ct, jp, oc, ocl, vs, nn⟩ := notin9 l1
  have hIA : I ∉ lexA ⟨ln, dl, pl, st, ds, f, c, cl, it, k1, k2, k3, k4, t1', t3, j1, j2, j3, j4, j5, u1, u3, tq, pm, ct, jp, oc, ocl, vs, nn⟩ := by
    intro hm
    have hmap : (lexLed w ⟨ln, dl, pl, st, ds, f, c, cl, it, k1, k2, k3, k4, t1', t3, j1, j2, j3, j4, j5, u1, u3, tq, pm, ct, jp, oc, ocl, vs, nn⟩ x t k (lnK x k) []).map (·.1) = lexA ⟨ln, dl, pl, st, ds, f, c, cl, it, k1, k2, k3, k4, t1', t3, j1, j2, j3, j4, j5, u1, u3, tq, pm, ct, jp, oc, ocl, vs, nn⟩ := rfl
    rw [← hmap] at hm
    obtain ⟨q, hq, he⟩ := List.mem_map.mp hm
    have h1 := (N2 q (List.mem_cons_of_mem _ hq)).1
    rw [he, show _ = _ from hIn] at h1; cases h1
  have hIM : @Ne Nat I M := ne_get hIn (N2 _ (.head _)).1
  clear N3' F2 N2
  unfold rcLed lexLed at N3
  dsimp only at N3
  k_steps
  refine ⟨?_⟩
  (rename Fr _ _ _ _ => F4); (rename News _ _ _ _ => N4)
  generalize hfin : gtO (x.cps.toList.drop k) = fin at hret
  have out : ∀ y tv k' t5 e m5 (s5 : Shared), (y.cps.toList, x.cps.toList.drop k') = fin → k' ≤ x.cps.size + 1 → Same s s5 → Fr hb L s5.heap m5 → News hb L s5.heap (rcLed w { (⟨ln, dl, pl, st, ds, f, c, cl, it, k1, k2, k3, k4, t1', t3, j1, j2, j3, j4, j5, u1, u3, tq, pm, ct, jp, oc, ocl, vs, nn⟩ : LexD) with t1 := t5 } x t k' (lnK x k') te e M I) → Q (.str y tv) s5 := fun y tv k' t5 e m5 s5 h1 h2 sh5 F5 N5 =>
    hret tv y k' t5 s5 h1 h2 (fun q hq => (N5 q (List.mem_cons_of_mem _ (List.mem_cons_of_mem _ hq))).1) ((Sh.ev (s := s) (s' := s5) ⟨sh5.drawn, sh5.os, fun h => by rw [sh5.gens]; exact h⟩ fun b o hb' e => F5.keep b o (hb2 b o hb' e))) sh5.gens
  have cuse : ∀ {A : Around} {R : Result → Shared → Prop} {k' t5 m5} {s5 : Shared}, k' ≤ x.cps.size + 1 → A.handled = none → A.depth ≤ 410 → A.units ≤ 1300 → Fr hb L s5.heap m5 → News hb L s5.heap (rcLed w { (⟨ln, dl, pl, st, ds, f, c, cl, it, k1, k2, k3, k4, t1', t3, j1, j2, j3, j4, j5, u1, u3, tq, pm, ct, jp, oc, ocl, vs, nn⟩ : LexD) with t1 := t5 } x t k' (lnK x k') te false M I) →
      (∀ tv t1 s', Fr hb L s'.heap m5 → News hb L s'.heap (rcLed w { (⟨ln, dl, pl, st, ds, f, c, cl, it, k1, k2, k3, k4, t1', t3, j1, j2, j3, j4, j5, u1, u3, tq, pm, ct, jp, oc, ocl, vs, nn⟩ : LexD) with t1 := t1 } x t (rdK x k') (rdN x k' (lnK x k')) te false M I) → Same s5 s' → R (.ok (.ret (.str (rdV x k') tv))) s') →
      codeAny (model PySem.Challenge.rw_us0006_01.row.prog w) A (.call (.ref 90) ⟨[.ref ln], []⟩) R s5 := fun {A R k' t5 m5 s5} h1 h2 h3 h4 F5 N5 h =>
    rc_use (d := { (⟨ln, dl, pl, st, ds, f, c, cl, it, k1, k2, k3, k4, t1', t3, j1, j2, j3, j4, j5, u1, u3, tq, pm, ct, jp, oc, ocl, vs, nn⟩ : LexD) with t1 := t5 }) gb CB ⟨hok'.code, hok'.qual, hok'.cell, hok'.nd⟩ h1 h2 h3 h4 F5 N5 hIA hM h
  clear hret hown hb1 hb2 hsub X
  refine for_rc (d := ⟨ln, dl, pl, st, ds, f, c, cl, it, k1, k2, k3, k4, t1', t3, j1, j2, j3, j4, j5, u1, u3, tq, pm, ct, jp, oc, ocl, vs, nn⟩) (x := x) (t := t) (te := te) (M := M) (I := I) (τ := Str × Tok) (sh := s) (fun c => [("self", .ref ln), ("token", .str c.1 c.2), ("fiter", .ref I)])
    (fun k c => c.1 = Str.ofString "" ∧ gtO (x.cps.toList.drop k) = fin) (fun k c => (c.1.cps.toList, x.cps.toList.drop k) = fin)
    gb CB hok' rfl (Nat.le_of_ble_eq_true rfl) (Nat.le_of_ble_eq_true rfl) hIA hM hIM rfl rfl ?hn1 ?hen ?h0 ?turn ?done (fun _ => rfl)
  case hn1 => intro c; simp only [List.forall_mem_cons]; decide
  case hen =>
    rintro k c ⟨e1, e2⟩ hdr
    rw [hdr] at e2
    rw [drop_end, ← e2, e1]; rfl
  case h0 =>
    k_steps
    refine .inl ⟨k, (Str.ofString "", ?tt), ⟨rfl, hfin⟩, ⟨_, F4, ?g9⟩, ⟨t1', N4⟩, hk, ⟨rfl, rfl, rfl⟩⟩
    case g9 => walk_at "m_all"
  case done =>
    rintro k ⟨tok, tt⟩ u s5 t5 hP hk5 sh5 F5 N5
    dsimp only at hP F5 N5
    k_steps
    exact out _ _ _ _ _ _ _ hP hk5 sh5.to F5 N5
  case turn =>
    clear F4 N4
    rintro k ⟨tok, tt⟩ u s5 t5 tv cd r ⟨hP1, hP2⟩ hdr hk5 sh5 F5 N5
    dsimp only at hP1 hP2 F5 N5
    subst hP1
    have hr : x.cps.toList.drop (k + 1) = r := (rd_cons hdr).2.2.1
    have hl1 : (⟨#[cd]⟩ : Str).length = 1 := rfl
    rw [hdr] at hP2
    unfold rcLed lexLed at N5
    dsimp only at N5
    k_with "call ref" => (refine stop ?_)
    k_steps
    · refine ⟨?_⟩
      (rename (List.isEmpty (Builtin.Str.occurrences _ (⟨#[cd]⟩ : Str) _ _ _) = true) => hw)
      have hw : wsB cd = false := by unfold wsB inT; rw [hw]; rfl
      (rename (((⟨#[cd]⟩ : Str) == Str.ofString "\"") = true) => hc1)
      have hc1 := of_decide_eq_true (is_one (n := 34) rfl hc1)
      (rename Fr _ _ _ _ => FA); (rename News _ _ _ _ => NA)
      have e0 : gtQ r [] = fin := by rw [← hP2]; subst hc1; exact (gtO_q hw).symm
      refine for_rc (d := ⟨ln, dl, pl, st, ds, f, c, cl, it, k1, k2, k3, k4, t1', t3, j1, j2, j3, j4, j5, u1, u3, tq, pm, ct, jp, oc, ocl, vs, nn⟩) (x := x) (t := t) (te := te) (M := M) (I := I) (τ := Str × Tok) (sh := s) (fun c => [("self", .ref ln), ("token", .str c.1 c.2), ("fiter", .ref I)])
        (fun k c => gtQ (x.cps.toList.drop k) c.1.cps.toList = fin ∧ c.1.length ≤ k) (fun k c => (c.1.cps.toList, x.cps.toList.drop k) = fin)
        gb CB hok' rfl (Nat.le_of_ble_eq_true rfl) (Nat.le_of_ble_eq_true rfl) hIA hM hIM rfl rfl ?hn1 ?hen1 ?h01 ?turn1 ?done1 (fun _ => rfl)
      case hn1 => intro c; simp only [List.forall_mem_cons]; decide
      case hen1 =>
        rintro k c ⟨e1, e2⟩ hdr
        rw [hdr] at e1
        rw [drop_end]; exact e1
      case h01 =>
        k_steps
        refine .inl ⟨k + 1, (Str.ofString "", ?tt1), ⟨?eq1, ?len1⟩, ⟨_, FA, ?g91⟩, ⟨t5, NA⟩, ?le1, ?sh1⟩
        case g91 => walk_at "m_all"
        case eq1 => rw [hr]; exact e0
        case len1 => exact Nat.zero_le _
        case le1 => omega
        case sh1 => exact sh5.to
      case done1 =>
        rintro k ⟨tok, tt⟩ u s9 t9 hP hk9 sh9 F9 N9
        dsimp only at hP F9 N9
        k_steps
        exact .inr ⟨k, (tok, tt), hP, ⟨_, F9, by walk_at "m_all"⟩, ⟨t9, N9⟩, hk9, sh9.to⟩
      case turn1 =>
        rintro k ⟨tok, tt⟩ u s9 t9 tv9 cd9 r9 ⟨hP1, hP2⟩ hdr9 hk9 sh9 F9 N9
        dsimp only at hP1 hP2 F9 N9
        have hr9 : x.cps.toList.drop (k + 1) = r9 := (rd_cons hdr9).2.2.1
        have hl9 : (⟨#[cd9]⟩ : Str).length = 1 := rfl
        rw [hdr9] at hP1
        unfold rcLed lexLed at N9
        dsimp only at N9
        k_with "call ref" => (refine stop ?_)
        k_steps
        · (rename (((⟨#[cd9]⟩ : Str) == Str.ofString "\"") = true) => hc1)
          have hc1 := of_decide_eq_true (is_one (n := 34) rfl hc1)
          refine out _ _ (k + 1) _ _ _ _ ?_ (by omega) sh9.to F9 N9
          rw [hr9, ← hP1]; rw [hc1]; exact gtQ_ret.symm
        · (rename (((⟨#[cd9]⟩ : Str) == Str.ofString "\\") = true) => hc2)
          have hc2 := of_decide_eq_true (is_one (n := 92) rfl hc2)
          (rename (((⟨#[cd9]⟩ : Str) == Str.ofString "\"") = false) => hc1)
          have hc1 := of_decide_eq_false (is_one (n := 34) rfl hc1)
          (refine goal_cut fun Gz hGz => ?_; obtain ⟨V, k2, v1, v2, v3, v4, v5, v6, v7⟩ := rd_any hr9 (by omega); refine hGz ?_; clear hGz Gz)
          refine ⟨?_⟩
          refine wpAny_call (cuse (k' := k + 1) (by omega) rfl (Nat.le_of_ble_eq_true rfl) (Nat.le_of_ble_eq_true rfl) F9 N9 ?_)
          intro tv7 t7 s7 F7 N7 sh7
          rw [v3, v2] at N7
          rw [v1]
          clear F9 N9
          unfold rcLed lexLed at N7
          dsimp only at N7
          k_steps
          (rename Fr _ _ _ _ => F8); (rename News _ _ _ _ => N8)
          refine .inl ⟨k2, (tok ++ V, ?ttx1), by omega, ⟨?eqx1, ?lenx1⟩, ⟨_, F8, ?g9x1⟩, ⟨t7, N8⟩, v5, (sh9.to.trans sh7).to⟩
          case g9x1 => walk_at "m_all"
          case eqx1 => rw [app_toList, ← hP1, hc2]; exact (gtQ_esc v7).symm
          case lenx1 => dsimp only; rw [str_len_append]; omega
        · (rename (((⟨#[cd9]⟩ : Str) == Str.ofString "\\") = false) => hc2)
          have hc2 := of_decide_eq_false (is_one (n := 92) rfl hc2)
          (rename (((⟨#[cd9]⟩ : Str) == Str.ofString "\"") = false) => hc1)
          have hc1 := of_decide_eq_false (is_one (n := 34) rfl hc1)
          (rename Fr _ _ _ _ => F8); (rename News _ _ _ _ => N8)
          refine .inl ⟨k + 1, (tok ++ ⟨#[cd9]⟩, ?tty1), by omega, ⟨?eqy1, ?leny1⟩, ⟨_, F8, ?g9y1⟩, ⟨t9, N8⟩, by omega, sh9.to⟩
          case g9y1 => walk_at "m_all"
          case eqy1 => rw [app_toList, ← hP1, hr9]; exact (gtQ_plain hc1 hc2).symm
          case leny1 => dsimp only; rw [str_len_append]; omega
    · refine ⟨?_⟩
      (rename (List.isEmpty (Builtin.Str.occurrences _ (⟨#[cd]⟩ : Str) _ _ _) = true) => hw)
      have hw : wsB cd = false := by unfold wsB inT; rw [hw]; rfl
      (rename (((⟨#[cd]⟩ : Str) == Str.ofString "\"") = false) => hc1)
      have hc1 := of_decide_eq_false (is_one (n := 34) rfl hc1)
      (rename (((⟨#[cd]⟩ : Str) == Str.ofString "\\") = true) => hc2)
      have hc2 := of_decide_eq_true (is_one (n := 92) rfl hc2)
      (refine goal_cut fun Gz hGz => ?_; obtain ⟨V, kv, v1, v2, v3, v4, v5, v6, v7⟩ := rd_any hr (by omega); refine hGz ?_; clear hGz Gz)
      have e0 : gtB (x.cps.toList.drop kv) V.cps.toList = fin := by rw [← hP2, hc2]; exact (gtO_esc v7 (hc2 ▸ hw)).symm
      refine wpAny_call (cuse (k' := k + 1) (by omega) rfl (Nat.le_of_ble_eq_true rfl) (Nat.le_of_ble_eq_true rfl) F5 N5 ?_)
      intro tv7 t7 s7 F7 N7 sh7
      rw [v3, v2] at N7
      rw [v1]
      clear F5 N5
      unfold rcLed lexLed at N7
      dsimp only at N7
      have hle0 : (Str.ofString "").length = 0 := rfl
      k_steps
      refine ⟨?_⟩
      (rename Fr _ _ _ _ => FA); (rename News _ _ _ _ => NA)
      have sh57 := sh5.to.trans sh7
      refine for_rc (d := ⟨ln, dl, pl, st, ds, f, c, cl, it, k1, k2, k3, k4, t1', t3, j1, j2, j3, j4, j5, u1, u3, tq, pm, ct, jp, oc, ocl, vs, nn⟩) (x := x) (t := t) (te := te) (M := M) (I := I) (τ := Str × Tok) (sh := s) (fun c => [("self", .ref ln), ("token", .str c.1 c.2), ("fiter", .ref I)])
        (fun k c => gtB (x.cps.toList.drop k) c.1.cps.toList = fin ∧ c.1.length ≤ k) (fun k c => (c.1.cps.toList, x.cps.toList.drop k) = fin)
        gb CB hok' rfl (Nat.le_of_ble_eq_true rfl) (Nat.le_of_ble_eq_true rfl) hIA hM hIM rfl rfl ?hn2 ?hen2 ?h02 ?turn2 ?done2 (fun _ => rfl)
      case hn2 => intro c; simp only [List.forall_mem_cons]; decide
      case hen2 =>
        rintro k c ⟨e1, e2⟩ hdr
        rw [hdr] at e1
        rw [drop_end]; exact e1
      case h02 =>
        k_steps
        refine .inl ⟨kv, (Str.ofString "" ++ V, ?tt2), ⟨?eq2, ?len2⟩, ⟨_, FA, ?g92⟩, ⟨t7, NA⟩, ?le2, ?sh2⟩
        case g92 => walk_at "m_all"
        case eq2 => rw [app_toList]; exact e0
        case len2 => dsimp only; rw [str_len_append]; omega
        case le2 => omega
        case sh2 => exact sh57.to
      case done2 =>
        rintro k ⟨tok, tt⟩ u s9 t9 hP hk9 sh9 F9 N9
        dsimp only at hP F9 N9
        k_steps
        exact .inr ⟨k, (tok, tt), hP, ⟨_, F9, by walk_at "m_all"⟩, ⟨t9, N9⟩, hk9, sh9.to⟩
      case turn2 =>
        rintro k ⟨tok, tt⟩ u s9 t9 tv9 cd9 r9 ⟨hP1, hP2⟩ hdr9 hk9 sh9 F9 N9
        dsimp only at hP1 hP2 F9 N9
        have hr9 : x.cps.toList.drop (k + 1) = r9 := (rd_cons hdr9).2.2.1
        have hl9 : (⟨#[cd9]⟩ : Str).length = 1 := rfl
        rw [hdr9] at hP1
        unfold rcLed lexLed at N9
        dsimp only at N9
        k_with "call ref" => (refine stop ?_)
        k_steps
        · (rename (((⟨#[cd9]⟩ : Str) == Str.ofString "\\") = true) => hc2)
          have hc2 := of_decide_eq_true (is_one (n := 92) rfl hc2)
          (rename (List.isEmpty (Builtin.Str.occurrences _ (⟨#[cd9]⟩ : Str) _ _ _) = true) => hc1)
          have hc1 : wsB cd9 = false := by unfold wsB inT; rw [hc1]; rfl
          (refine goal_cut fun Gz hGz => ?_; obtain ⟨V, k2, v1, v2, v3, v4, v5, v6, v7⟩ := rd_any hr9 (by omega); refine hGz ?_; clear hGz Gz)
          refine ⟨?_⟩
          refine wpAny_call (cuse (k' := k + 1) (by omega) rfl (Nat.le_of_ble_eq_true rfl) (Nat.le_of_ble_eq_true rfl) F9 N9 ?_)
          intro tv7 t7 s7 F7 N7 sh7
          rw [v3, v2] at N7
          rw [v1]
          clear F9 N9
          unfold rcLed lexLed at N7
          dsimp only at N7
          k_steps
          (rename Fr _ _ _ _ => F8); (rename News _ _ _ _ => N8)
          refine .inl ⟨k2, (tok ++ V, ?ttx2), by omega, ⟨?eqx2, ?lenx2⟩, ⟨_, F8, ?g9x2⟩, ⟨t7, N8⟩, v5, (sh9.to.trans sh7).to⟩
          case g9x2 => walk_at "m_all"
          case eqx2 => rw [app_toList, ← hP1, hc2]; exact (gtB_esc v7 (hc2 ▸ hc1)).symm
          case lenx2 => dsimp only; rw [str_len_append]; omega
        · (rename (((⟨#[cd9]⟩ : Str) == Str.ofString "\\") = false) => hc2)
          have hc2 := of_decide_eq_false (is_one (n := 92) rfl hc2)
          (rename (List.isEmpty (Builtin.Str.occurrences _ (⟨#[cd9]⟩ : Str) _ _ _) = true) => hc1)
          have hc1 : wsB cd9 = false := by unfold wsB inT; rw [hc1]; rfl
          (rename Fr _ _ _ _ => F8); (rename News _ _ _ _ => N8)
          refine .inl ⟨k + 1, (tok ++ ⟨#[cd9]⟩, ?tty2), by omega, ⟨?eqy2, ?leny2⟩, ⟨_, F8, ?g9y2⟩, ⟨t9, N8⟩, by omega, sh9.to⟩
          case g9y2 => walk_at "m_all"
          case eqy2 => rw [app_toList, ← hP1, hr9]; exact (gtB_plain hc1 hc2).symm
          case leny2 => dsimp only; rw [str_len_append]; omega
        · (rename (List.isEmpty (Builtin.Str.occurrences _ (⟨#[cd9]⟩ : Str) _ _ _) = false) => hc1)
          have hc1 : wsB cd9 = true := by unfold wsB inT; rw [hc1]; rfl
          refine out _ _ (k + 1) _ _ _ _ ?_ (by omega) sh9.to F9 N9
          rw [hr9, ← hP1]; exact (gtB_ret hc1).symm
    · refine ⟨?_⟩
      (rename (List.isEmpty (Builtin.Str.occurrences _ (⟨#[cd]⟩ : Str) _ _ _) = true) => hw)
      have hw : wsB cd = false := by unfold wsB inT; rw [hw]; rfl
      (rename (((⟨#[cd]⟩ : Str) == Str.ofString "\"") = false) => hc1)
      have hc1 := of_decide_eq_false (is_one (n := 34) rfl hc1)
      (rename (((⟨#[cd]⟩ : Str) == Str.ofString "\\") = false) => hc2)
      have hc2 := of_decide_eq_false (is_one (n := 92) rfl hc2)
      (rename Fr _ _ _ _ => FA); (rename News _ _ _ _ => NA)
      have hle0 : (Str.ofString "").length = 0 := rfl
      have e0 : gtB r [cd] = fin := by rw [← hP2]; exact (gtO_plain hw hc1 hc2).symm
      refine for_rc (d := ⟨ln, dl, pl, st, ds, f, c, cl, it, k1, k2, k3, k4, t1', t3, j1, j2, j3, j4, j5, u1, u3, tq, pm, ct, jp, oc, ocl, vs, nn⟩) (x := x) (t := t) (te := te) (M := M) (I := I) (τ := Str × Tok) (sh := s) (fun c => [("self", .ref ln), ("token", .str c.1 c.2), ("fiter", .ref I)])
        (fun k c => gtB (x.cps.toList.drop k) c.1.cps.toList = fin ∧ c.1.length ≤ k) (fun k c => (c.1.cps.toList, x.cps.toList.drop k) = fin)
        gb CB hok' rfl (Nat.le_of_ble_eq_true rfl) (Nat.le_of_ble_eq_true rfl) hIA hM hIM rfl rfl ?hn3 ?hen3 ?h03 ?turn3 ?done3 (fun _ => rfl)
      case hn3 => intro c; simp only [List.forall_mem_cons]; decide
      case hen3 =>
        rintro k c ⟨e1, e2⟩ hdr
        rw [hdr] at e1
        rw [drop_end]; exact e1
      case h03 =>
        k_steps
        refine .inl ⟨k + 1, (Str.ofString "" ++ ⟨#[cd]⟩, ?tt3), ⟨?eq3, ?len3⟩, ⟨_, FA, ?g93⟩, ⟨t5, NA⟩, ?le3, ?sh3⟩
        case g93 => walk_at "m_all"
        case eq3 => rw [app_toList, hr]; exact e0
        case len3 => dsimp only; rw [str_len_append]; omega
        case le3 => omega
        case sh3 => exact sh5.to
      case done3 =>
        rintro k ⟨tok, tt⟩ u s9 t9 hP hk9 sh9 F9 N9
        dsimp only at hP F9 N9
        k_steps
        exact .inr ⟨k, (tok, tt), hP, ⟨_, F9, by walk_at "m_all"⟩, ⟨t9, N9⟩, hk9, sh9.to⟩
      case turn3 =>
        rintro k ⟨tok, tt⟩ u s9 t9 tv9 cd9 r9 ⟨hP1, hP2⟩ hdr9 hk9 sh9 F9 N9
        dsimp only at hP1 hP2 F9 N9
        have hr9 : x.cps.toList.drop (k + 1) = r9 := (rd_cons hdr9).2.2.1
        have hl9 : (⟨#[cd9]⟩ : Str).length = 1 := rfl
        rw [hdr9] at hP1
        unfold rcLed lexLed at N9
        dsimp only at N9
        k_with "call ref" => (refine stop ?_)
        k_steps
        · (rename (((⟨#[cd9]⟩ : Str) == Str.ofString "\\") = true) => hc2)
          have hc2 := of_decide_eq_true (is_one (n := 92) rfl hc2)
          (rename (List.isEmpty (Builtin.Str.occurrences _ (⟨#[cd9]⟩ : Str) _ _ _) = true) => hc1)
          have hc1 : wsB cd9 = false := by unfold wsB inT; rw [hc1]; rfl
          (refine goal_cut fun Gz hGz => ?_; obtain ⟨V, k2, v1, v2, v3, v4, v5, v6, v7⟩ := rd_any hr9 (by omega); refine hGz ?_; clear hGz Gz)
          refine ⟨?_⟩
          refine wpAny_call (cuse (k' := k + 1) (by omega) rfl (Nat.le_of_ble_eq_true rfl) (Nat.le_of_ble_eq_true rfl) F9 N9 ?_)
          intro tv7 t7 s7 F7 N7 sh7
          rw [v3, v2] at N7
          rw [v1]
          clear F9 N9
          unfold rcLed lexLed at N7
          dsimp only at N7
          k_steps
          (rename Fr _ _ _ _ => F8); (rename News _ _ _ _ => N8)
          refine .inl ⟨k2, (tok ++ V, ?ttx3), by omega, ⟨?eqx3, ?lenx3⟩, ⟨_, F8, ?g9x3⟩, ⟨t7, N8⟩, v5, (sh9.to.trans sh7).to⟩
          case g9x3 => walk_at "m_all"
          case eqx3 => rw [app_toList, ← hP1, hc2]; exact (gtB_esc v7 (hc2 ▸ hc1)).symm
          case lenx3 => dsimp only; rw [str_len_append]; omega
        · (rename (((⟨#[cd9]⟩ : Str) == Str.ofString "\\") = false) => hc2)
          have hc2 := of_decide_eq_false (is_one (n := 92) rfl hc2)
          (rename (List.isEmpty (Builtin.Str.occurrences _ (⟨#[cd9]⟩ : Str) _ _ _) = true) => hc1)
          have hc1 : wsB cd9 = false := by unfold wsB inT; rw [hc1]; rfl
          (rename Fr _ _ _ _ => F8); (rename News _ _ _ _ => N8)
          refine .inl ⟨k + 1, (tok ++ ⟨#[cd9]⟩, ?tty3), by omega, ⟨?eqy3, ?leny3⟩, ⟨_, F8, ?g9y3⟩, ⟨t9, N8⟩, by omega, sh9.to⟩
          case g9y3 => walk_at "m_all"
          case eqy3 => rw [app_toList, ← hP1, hr9]; exact (gtB_plain hc1 hc2).symm
          case leny3 => dsimp only; rw [str_len_append]; omega
        · (rename (List.isEmpty (Builtin.Str.occurrences _ (⟨#[cd9]⟩ : Str) _ _ _) = false) => hc1)
          have hc1 : wsB cd9 = true := by unfold wsB inT; rw [hc1]; rfl
          refine out _ _ (k + 1) _ _ _ _ ?_ (by omega) sh9.to F9 N9
          rw [hr9, ← hP1]; exact (gtB_ret hc1).symm
    · (rename (List.isEmpty (Builtin.Str.occurrences _ (⟨#[cd]⟩ : Str) _ _ _) = false) => hw)
      have hw : wsB cd = true := by unfold wsB inT; rw [hw]; rfl
      have e0 : gtO r = fin := by rw [← hP2]; exact (gtO_ws hw).symm
      refine .inl ⟨k + 1, (Str.ofString "", tt), by omega, ⟨rfl, ?ew⟩, ⟨_, F5, ?g9w⟩, ⟨t5, N5⟩, by omega, sh5.to⟩
      case g9w => walk_at "m_all"
      case ew => rw [hr]; exact e0
end

-- part D1
section
theorem fresh_D1 : True := by
  k_with_none
  exact trivial
noncomputable def dueIn (ns : List Int) (k : Nat) (st : Str × List Int) (i : Nat) : Str × List Int :=
  if ns.getD i 0 = (k : Int) then (st.1 ++ Str.ofString "(", st.2) else if ns.getD i 0 = (k : Int) - 1 then (st.1 ++ Str.ofString ")", st.2 ++ [(i : Int)]) else st
noncomputable def dueR (ns : List Int) (m : Nat) : Str × List Int := (List.range m).foldl (fun st k => (List.range ns.length).foldl (dueIn ns k) st) (Str.ofString "", [])

noncomputable def tupleO (xs : Array Value) : Obj := { cls := .type "tuple", data := .seq xs }

theorem due_spec {w : World} {p : Program} {loose : List Str} {mg mb : Str → Option Value}
  {s : Shared} {Q E : Value → Shared → Prop} {l : Addr} {vs : List Value} {ns : List Int} {M : Nat}
  (g : G w p loose mg mb s.heap) (hl : s.heap.IsList l vs.toArray) (hi : IntsAre vs ns) (hlen : ns.length < 100) (hpos : 0 < ns.length) (hM : (M : Int) ∈ ns) (hM2 : ∀ z ∈ ns, z ≤ (M : Int)) (hM3 : M < 100)
  (hret : ∀ r o t ws n s', s'.heap.get? r = some (tupleO #[.str (dueR ns (M + 2)).1 t, .ref o]) → s'.heap.get? o = some { cls := .type "list", data := .seq ws n } → s.heap.get? r = none → s.heap.get? o = none → r ≠ o → IntsAre ws.toList (dueR ns (M + 2)).2 → Ev [] s s' → Q (.ref r) s') :
  wpAny (model PySem.Challenge.rw_us0006_01.row.prog w) (UU 480 1800) (call (.ref 163) [.ref l]) Q E s := by
  have X := g.X
  revert X; k_fill; intro X
  refine' enter (pos := [.ref l]) (kw := []) (binds := [("levels", .ref l)]) g ?ho ?hcd ?hb ?hl ?hc ?_ ?hr ?h1 ?h2 ?h3
  walk_at "m_enter"
  intro L h₁ F N X T
  k_steps
  refine ⟨?_⟩
  (rename Fr _ _ _ _ => F0); (rename News _ _ _ _ => N0)
  rename_i ol hb1 hb2 hb3
  refine for_walk (h₀ := s.heap) (n := M + 2) (Pt := fun i v => ∃ t, v = .int (i : Int) t) (σ := (Str × List Int) × Tok × List Value × Nat) (fun c => [(ol, { cls := .type "list", data := .seq c.2.2.1.toArray c.2.2.2 })])
    (fun c => [("levels", .ref l), ("marks", .str c.1.1 c.2.1), ("order", .ref ol)]) (fun i c s' => Same s s' ∧ c.1 = (List.range i).foldl (fun st k => (List.range ns.length).foldl (dueIn ns k) st) (Str.ofString "", []) ∧ IntsAre c.2.2.1 c.1.2 ∧ c.1.2.length ≤ i * 100 ∧ c.1.1.length ≤ i * 100) [ol] (fun _ => rfl) rfl rfl (fun _ _ _ _ _ h => ⟨h.1.to, h.2⟩) ?_ ?_ ?hn1 ?_ (fun _ => rfl)
  case hn1 => intro c; simp only [List.forall_mem_cons]; decide
  · k_with "pyIter ref" => (refine stop ?_)
    k_steps
    (rename Fr _ _ _ _ => F1); (rename News _ _ _ _ => N1); (rename IsRange _ _ _ _ _ _ _ _ => hR); (rename (_ ∈ ns) => hm1); (rename (∀ a ∈ ns, _) => hm2)
    have e := Int.le_antisymm (hM2 _ hm1) (hm2 _ hM)
    rw [e] at hR
    refine ⟨?_⟩
    refine iter_range ((Str.ofString "", []), _, [], 0) rfl hR (small1 (by decide) (by decide) (by omega) (by omega)) ?_ ?_ F1 N1 (fun p hp => hp) (by walk_at "m_all") (fun h => ⟨⟨rfl, rfl, rfl⟩, rfl, .nil, Nat.zero_le _, Nat.zero_le _⟩)
    · first | exact range0 rfl | (rw [rangeSize1 (by decide) (by omega)]; omega)
    · exact fun i t _ => ⟨t, by rw [Int.zero_add]⟩
  · (rintro k ⟨st, tm, ws, nn⟩ v u s2 own hk2 ⟨tv, rfl⟩ hz1 F1 N1 hap; refine goal_cut fun Gz hGz => ?_; obtain ⟨hs, hst, hI, hln, hlm⟩ := hz1; refine hGz ?_; clear hGz Gz)
    dsimp only at F1 N1 hap hst hI hln hlm
    k_steps
    refine ⟨?_⟩
    refine for_walk (h₀ := s.heap) (n := ns.length) (Pt := fun i v => ∃ t, v = .int (i : Int) t) (σ := (Str × List Int) × Tok × List Value × Nat) (fun c => (ol, { cls := .type "list", data := .seq c.2.2.1.toArray c.2.2.2 }) :: own)
      (fun c => [("levels", .ref l), ("marks", .str c.1.1 c.2.1), ("order", .ref ol), ("k", .int (k : Int) tv)]) (fun i c s' => Same s s' ∧ c.1 = (List.range i).foldl (dueIn ns k) st ∧ IntsAre c.2.2.1 c.1.2 ∧ c.1.2.length ≤ k * 100 + i ∧ c.1.1.length ≤ k * 100 + i) (ol :: own.map (·.1)) (fun _ => rfl) rfl rfl (fun _ _ _ _ _ h => ⟨h.1.to, h.2⟩) ?_ ?_ ?hn2 ?_ (fun _ => rfl)
    case hn2 => intro c; simp only [List.forall_mem_cons]; decide
    · k_with "pyIter ref" => (refine stop ?_)
      k_steps
      (rename Fr _ _ _ _ => F2); (rename News _ _ _ _ => N2); (rename IsRange _ _ _ _ _ _ _ _ => hR)
      refine ⟨?_⟩
      refine iter_range (st, tm, ws, nn) rfl hR (small1 (by decide) (by decide) (by omega) (by omega)) ?_ ?_ F2 N2 (fun p hp => hp) (by walk_at "m_all") (fun h => ⟨hs.to, rfl, hI, by omega, by omega⟩)
      · first | exact range0 rfl | (rw [rangeSize1 (by decide) (by omega)]; omega)
      · exact fun i t _ => ⟨t, by rw [Int.zero_add]⟩
    · (rintro i ⟨st2, tm2, ws2, nn2⟩ v u3 s3 own3 hi3 ⟨ti, rfl⟩ hz1 F3 N3 hap3; refine goal_cut fun Gz hGz => ?_; obtain ⟨hs3, hst3, hI3, hln3, hlm3⟩ := hz1; refine hGz ?_; clear hGz Gz)
      dsimp only [List.cons_append] at F3 N3 hap3 hst3 hI3 hln3 hlm3
      have hvl := hI3.length
      have hsm : ws2.toArray.size ≤ sizeLine := by rw [List.size_toArray, sizeLine_eq]; omega
      have hap4 : ∀ p ∈ own ++ own3, p.1 ≠ ol := fun p hp => by
        rcases List.mem_append.mp hp with h | h
        · exact hap _ (List.mem_singleton.mpr rfl) p h
        · exact hap3 _ (List.mem_cons_self ..) p h
      have eI : ((i : Int)).toNat = i := Int.toNat_natCast i
      k_steps
      · (rename Fr _ _ _ _ => F4); (rename News _ _ _ _ => N4); (rename (ns.getD _ _ = _) => hc)
        rw [eI] at hc
        have ed : dueIn ns k st2 i = (st2.1 ++ Str.ofString "(", st2.2) := by unfold dueIn; rw [if_pos hc]
        refine ⟨(dueIn ns k st2 i, ?tt_1, ws2, nn2), _, _, ⟨?gs_1, ?g1_1, ?g2_1, ?g3_1, ?g4_1⟩, F4, N4, fun p hp => ?_, fun p hp => List.mem_cons_of_mem _ (List.mem_append_right _ hp), ?g6_1⟩
        case g6_1 => rw [ed]; walk_at "m_all"
        case gs_1 => exact hs3.to
        case g1_1 => dsimp only; rw [List.range_succ, List.foldl_append, ← hst3]; rfl
        case g2_1 => rw [ed]; exact hI3
        case g3_1 => rw [ed]; dsimp only; omega
        case g4_1 => rw [ed]; dsimp only; rw [str_len_append, show (Str.ofString "(").length = 1 from rfl]; omega
        rcases List.mem_cons.mp hp with rfl | hp
        · exact List.mem_cons_self ..
        · exact List.mem_cons_of_mem _ (List.mem_append_left _ hp)
      · (rename Fr _ _ _ _ => F4); (rename News _ _ _ _ => N4); (rename (ns.getD _ _ ≠ _) => hc); (rename (ns.getD _ _ = _) => hc2)
        rw [eI] at hc hc2
        have ed : dueIn ns k st2 i = (st2.1 ++ Str.ofString ")", st2.2 ++ [(i : Int)]) := by unfold dueIn; rw [if_neg hc, if_pos hc2]
        refine ⟨(dueIn ns k st2 i, ?tt_2, ws2 ++ [.int (i : Int) ti], ?nn_2), _, _, ⟨?gs_2, ?g1_2, ?g2_2, ?g3_2, ?g4_2⟩, F4, N4, ?g5_2, fun p hp => List.mem_cons_of_mem _ (List.mem_append_right _ hp), ?g6_2⟩
        case g5_2 =>
          intro p hp
          rcases List.mem_cons.mp hp with rfl | hp
          · dsimp only; rw [← List.push_toArray]; exact List.mem_cons_self ..
          · exact List.mem_cons_of_mem _ (List.mem_append_left _ hp)
        case g6_2 => rw [ed]; walk_at "m_all"
        case gs_2 => exact hs3.to
        case g1_2 => dsimp only; rw [List.range_succ, List.foldl_append, ← hst3]; rfl
        case g2_2 => rw [ed]; exact hI3.append (.cons _ _ .nil)
        case g3_2 => rw [ed]; dsimp only; rw [List.length_append, List.length_singleton]; omega
        case g4_2 => rw [ed]; dsimp only; rw [str_len_append, show (Str.ofString ")").length = 1 from rfl]; omega
      · (rename (ns.getD _ _ ≠ _ - 1) => hc2); (rename (ns.getD _ _ ≠ (k : Int)) => hc)
        rw [eI] at hc hc2
        have ed : dueIn ns k st2 i = st2 := by unfold dueIn; rw [if_neg hc, if_neg hc2]
        refine ⟨(dueIn ns k st2 i, tm2, ws2, nn2), _, _, ⟨hs3.to, ?g1_3, ?g2_3, ?g3_3, ?g4_3⟩, F3, N3, fun p hp => ?_, fun p hp => List.mem_cons_of_mem _ (List.mem_append_right _ hp), ?g6_3⟩
        case g6_3 => rw [ed]; walk_at "m_all"
        case g1_3 => dsimp only; rw [List.range_succ, List.foldl_append, ← hst3]; rfl
        case g2_3 => rw [ed]; exact hI3
        case g3_3 => rw [ed]; dsimp only; omega
        case g4_3 => rw [ed]; dsimp only; omega
        rcases List.mem_cons.mp hp with rfl | hp
        · exact List.mem_cons_self ..
        · exact List.mem_cons_of_mem _ (List.mem_append_left _ hp)
    · (rintro ⟨st2, tm2, ws2, nn2⟩ u3 s3 hz1 F3 N3; refine goal_cut fun Gz hGz => ?_; obtain ⟨hs3, hst3, hI3, hln3, hlm3⟩ := hz1; refine hGz ?_; clear hGz Gz)
      dsimp only at F3 N3 hst3 hI3 hln3 hlm3
      k_steps
      refine ⟨(st2, tm2, ws2, nn2), _, _, ⟨hs3.to, ?g1_4, hI3, ?g3_4, ?g4_4⟩, F3, N3, fun p hp => ?_, fun p hp => List.mem_cons_of_mem _ hp, by walk_at "m_all"⟩
      case g1_4 => dsimp only; rw [List.range_succ, List.foldl_append, ← hst]; exact hst3
      case g3_4 => dsimp only; omega
      case g4_4 => dsimp only; omega
      rw [List.mem_singleton.mp hp]; exact List.mem_cons_self ..
  · (rintro ⟨st, tm, ws, nn⟩ u s2 hz1 F1 N1; refine goal_cut fun Gz hGz => ?_; obtain ⟨hs, hst, hI, hln, hlm⟩ := hz1; refine hGz ?_; clear hGz Gz)
    dsimp only at F1 N1 hst hI hln hlm
    k_steps
    (rename Fr _ _ _ _ => F4); (rename News _ _ _ _ => N4); (rename (_ < _) => hlt)
    have e : st = dueR ns (M + 2) := hst
    rw [e] at N4 hI
    have h1 := N4 _ (.head _)
    have h2 := N4 _ (.tail _ (.head _))
    refine hret _ ol tm ws.toArray nn _ h1.1 h2.1 h1.2.2 h2.2.2 (Nat.ne_of_gt hlt) hI ⟨fun b o _ e => F4.keep b o e, hs.drawn, hs.os, fun h => ?_⟩
    show AllBare s2.gens
    rw [hs.gens]; exact h
end

-- part R2
section
theorem fresh_R2 : True := by
  k_with_none
  exact trivial
noncomputable def rndTurn (dF : Str → Int) (k : Nat) (st : Str × List Str × List Str) : Str × List Str × List Str :=
  match st.2.2 with
  | [] => st
  | y :: q => if dF y = (k : Int) - 1 then (st.1 ++ Str.ofString ")", st.2.1 ++ [y], q) else (if dF y = (k : Int) then st.1 ++ Str.ofString "(" else st.1, st.2.1, q ++ [y])
noncomputable def rndJ (dF : Str → Int) (k : Nat) (st : Str × List Str × List Str) (j : Nat) : Str × List Str × List Str := (List.range j).foldl (fun st _ => rndTurn dF k st) st
noncomputable def rndK (dF : Str → Int) (n : Nat) (st : Str × List Str × List Str) (k : Nat) : Str × List Str × List Str := rndJ dF k st (n - st.2.1.length)
noncomputable def rndSt (ns : List Str) (dF : Str → Int) (i : Nat) : Str × List Str × List Str := (List.range i).foldl (rndK dF ns.length) (Str.ofString "", [], ns)
noncomputable def roundsR (ns : List Str) (dF : Str → Int) : Str × List Str × List Str := rndSt ns dF (ns.length + 1)

theorem lex_news {hb h h' : Heap} {L : Addr} {w : World} {d d' : LexD} {x : Str} {t : Tok} {k k' : Nat} {n n' : Int} {ws ws' : List Value} {news news' : List (Addr × Obj)}
    (hd : lexA d' = lexA d) (N : News hb L h news) (NL : News hb L h (lexLed w d x t k n ws)) (h1 : ∀ q ∈ lexLed w d' x t k' n' ws', h'.get? q.1 = some q.2) (hk : ∀ b o, b ∉ lexA d → h.get? b = some o → h'.get? b = some o)
    (hn : ∀ q ∈ news', q ∈ lexLed w d' x t k' n' ws' ∨ (q ∈ news ∧ q.1 ∉ lexA d)) : News hb L h' news' := fun q hq => by
  rcases hn q hq with h2 | ⟨h2, h3⟩
  · exact led_new hd (led_out NL) h1 q h2
  · exact ⟨hk _ _ h3 (N q h2).1, (N q h2).2⟩

theorem not_lexA {w : World} {d : LexD} {x : Str} {t : Tok} {k : Nat} {n : Int} {ws : List Value} {a : Addr} (h : ∀ p ∈ lexLed w d x t k n ws, a ≠ p.1) : a ∉ lexA d := fun hm => by
  have hmap : (lexLed w d x t k n ws).map (·.1) = lexA d := rfl
  rw [← hmap] at hm
  obtain ⟨q, hq, he⟩ := List.mem_map.mp hm
  exact h q hq he.symm
theorem rndTurn_keeps (dF : Str → Int) (k : Nat) (st : Str × List Str × List Str) : (rndTurn dF k st).2.1.length + (rndTurn dF k st).2.2.length = st.2.1.length + st.2.2.length ∧ (∀ y ∈ (rndTurn dF k st).2.2, y ∈ st.2.2) ∧ (rndTurn dF k st).1.length ≤ st.1.length + 1 ∧ st.2.2.length ≤ (rndTurn dF k st).2.2.length + 1 := by
  obtain ⟨m, g, q⟩ := st
  cases q with
  | nil => exact ⟨rfl, fun y h => h, Nat.le_succ _, Nat.zero_le _⟩
  | cons y q =>
    unfold rndTurn
    dsimp only
    have h1 : ∀ a : Str, a.length = 1 → (m ++ a).length ≤ m.length + 1 := fun a ha => by rw [str_len_append, ha]; exact Nat.le_refl _
    split
    · refine ⟨?_, fun z hz => List.mem_cons_of_mem _ hz, h1 _ rfl, ?_⟩
      · simp; omega
      · simp
    · refine ⟨?_, fun z hz => ?_, ?_, ?_⟩
      · simp
      · rcases List.mem_append.mp hz with h | h
        · exact List.mem_cons_of_mem _ h
        · rw [List.mem_singleton.mp h]; exact List.mem_cons_self ..
      · dsimp only; split
        · exact h1 _ rfl
        · exact Nat.le_succ _
      · simp
theorem led_ne {w : World} {d : LexD} {x : Str} {t : Tok} {k : Nat} {n : Int} {ws : List Value} {a : Addr} (h : a ∉ lexA d) : ∀ p ∈ lexLed w d x t k n ws, p.1 ≠ a := fun p hp e => by
  have hmap : (lexLed w d x t k n ws).map (·.1) = lexA d := rfl
  exact h (by rw [← hmap, ← e]; exact List.mem_map_of_mem hp)
theorem item_dict {value slice : Expr} {prog : Program} {w : World} {A : Around} {E : Value → Shared → Prop} {s : Shared} {dd : Addr} {kvs : List (Str × Value)} {y : Str} {ty : Tok} {v : Value} {Q : Value → Shared → Prop}
    (hd : s.heap.DictOf (PySem.strKind prog w) dd kvs) (hv : valueAt kvs y = some v) (h : Q v { s with toks := s.toks + 1 })
    (hs : subscripted slice false (.ref dd) (.str y ty) = operate [.ref dd, .str y ty] (getItem (.ref dd) (.str y ty)) := by with_unfolding_all rfl) (hg : ∀ r, letTemporaryGo value (.ref dd) r = pure () := by intro _; with_unfolding_all rfl) :
    wpAny (model prog w) A (subscriptTail value slice (.ref dd) (.str y ty)) Q E s :=
  subscriptTail_builtin hd.typeIs slot_dict_getitem.lookup (wpAny_getItem_of (by simp [PySem.strKind, Value.isStrOf]) hd.mapOf hv h) hs hg
theorem all8 {A B C D E F G H : Type} {P : (A × B × C) × D × E × F × G × H → Prop} (h : ∀ a b c d e f g i, P ((a, b, c), d, e, f, g, i)) : ∀ x, P x := fun ⟨⟨a, b, c⟩, d, e, f, g, i⟩ => h a b c d e f g i
theorem rounds_spec {w : World} {p : Program} {loose : List Str} {mg mb : Str → Option Value} {mean : ExcName → Option Value} {h₀ : Heap} {d : LexD}
  {s : Shared} {Q E : Value → Shared → Prop} {x : Str} {t : Tok} {k : Nat} {n : Int} {wl dd : Addr} {vs ws : List Value} {ns : List Str} {dF : Str → Int} {kvs : List (Str × Value)}
  (g : G w p loose mg mb h₀) (TT : Top p loose mean mg mb h₀) (hsub : ∀ b o, h₀.get? b = some o → s.heap.get? b = some o) (C0 : CodeHd h₀ 141 137) (hok : LexOk d)
  (hl : h₀.IsList wl vs.toArray) (hi : StrsAre vs ns) (hlen : ns.length ≤ 6) (hdk : h₀.DictOf (strKind PySem.Challenge.rw_us0006_01.row.prog w) dd kvs) (hdv : ∀ y ∈ ns, ∃ t, valueAt kvs y = some (.int (dF y) t)) (hbd : ∀ y ∈ ns, 0 ≤ dF y ∧ dF y < 100)
  (hws : StrsAre ws ns)
  (hown : ∀ q ∈ lexLed w d x t k n ws, s.heap.get? q.1 = some q.2 ∧ h₀.get? q.1 = none)
  (hret : ∀ T l tm gv gn qv qn s', s'.heap.get? T = some (tupleO #[.str (roundsR ns dF).1 tm, .ref l]) → s'.heap.get? l = some { cls := .type "list", data := .seq gv.toArray gn } → s.heap.get? T = none → s.heap.get? l = none → StrsAre gv (roundsR ns dF).2.1 → StrsAre qv (roundsR ns dF).2.2 →
    (∀ q ∈ lexLed w { d with nn := qn } x t k n qv, s'.heap.get? q.1 = some q.2) → Ev (lexA d) s s' → Q (.ref T) s') :
  wpAny (model PySem.Challenge.rw_us0006_01.row.prog w) (UU 390 1100) (call (.ref 156) [.ref d.ln, .ref wl, .ref dd]) Q E s := by
  obtain ⟨ln, dl, pl, st, ds, f, c, cl, it, k1, k2, k3, k4, t1', t3, j1, j2, j3, j4, j5, u1, u3, tq, pm, ct, jp, oc, ocl, vs', nn⟩ := d
  have hok' := hok
  obtain ⟨hcode, hqual, hcell, hnd⟩ := hok
  dsimp only at hcode hqual hcell hnd hret ⊢
  have X := g.X.keeps hsub
  revert X; k_fill; intro X
  refine' enterM (lexLed w _ x t k n ws) (pos := [.ref ln, .ref wl, .ref dd]) (kw := []) (binds := [("line", .ref ln), ("words", .ref wl), ("depth", .ref dd)]) g hsub hown ?ho ?hcd ?hb ?hl ?hc ?_ ?hr ?h1 ?h2 ?h3
  walk_at "m_enter"
  intro hb L h₁ F N gb X1 T1 hsz hb1 hb2
  have hup : ∀ b o, h₀.get? b = some o → hb.get? b = some o := fun b o e => hb2 b o (fun hm => by
    obtain ⟨q, hq, he⟩ := List.mem_map.mp hm
    have := (hown q hq).2
    rw [he, e] at this; cases this) (hsub b o e)
  have CB : CodeHd hb 141 137 := C0.keeps hup
  have TB := TT.keeps hup
  have O := led_out N
  unfold lexLed at N
  dsimp only at N
  have hws0 : Stop (StrsAre ws ns) := ⟨hws⟩
  clear hws
  k_steps
  refine ⟨?_⟩
  (rename Fr _ _ _ _ => F0); (rename News _ _ _ _ => N0)
  rename_i ha gl hb' l1 hc'
  have hglA : gl ∉ lexA (⟨ln, dl, pl, st, ds, f, c, cl, it, k1, k2, k3, k4, t1', t3, j1, j2, j3, j4, j5, u1, u3, tq, pm, ct, jp, oc, ocl, vs', nn⟩ : LexD) := notin9 l1
  have hlb : hb.IsList wl vs.toArray := by obtain ⟨o, h1, h2⟩ := hl; exact ⟨o, hup _ _ h1, h2⟩
  have hdb : hb.DictOf (strKind PySem.Challenge.rw_us0006_01.row.prog w) dd kvs := hdk.keep hup
  refine for_walk (h₀ := hb) (n := ns.length + 1) (Pt := fun i v => ∃ t, v = .int (i : Int) t) (σ := (Str × List Str × List Str) × Tok × List Value × Nat × List Value × Nat)
    (fun z => (gl, { cls := .type "list", data := .seq z.2.2.1.toArray z.2.2.2.1 }) :: lexLed w (⟨ln, dl, pl, st, ds, f, c, cl, it, k1, k2, k3, k4, t1', t3, j1, j2, j3, j4, j5, u1, u3, tq, pm, ct, jp, oc, ocl, vs', z.2.2.2.2.2⟩ : LexD) x t k n z.2.2.2.2.1)
    (fun c => [("line", .ref ln), ("words", .ref wl), ("depth", .ref dd), ("marks", .str c.1.1 c.2.1), ("gone", .ref gl)])
    (fun i c s' => Sh s s' ∧ c.1 = rndSt ns dF i ∧ Stop (StrsAre c.2.2.1 c.1.2.1) ∧ Stop (StrsAre c.2.2.2.2.1 c.1.2.2) ∧ c.1.2.1.length + c.1.2.2.length = ns.length ∧ (∀ y ∈ c.1.2.2, y ∈ ns) ∧ c.1.1.length ≤ i * 10)
    (gl :: lexA (⟨ln, dl, pl, st, ds, f, c, cl, it, k1, k2, k3, k4, t1', t3, j1, j2, j3, j4, j5, u1, u3, tq, pm, ct, jp, oc, ocl, vs', nn⟩ : LexD)) (fun _ => rfl) rfl rfl (fun _ _ _ _ _ h => ⟨h.1.to, h.2⟩) ?_ ?_ ?hn1 ?_ (fun _ => rfl)
  case hn1 => intro c; simp only [List.forall_mem_cons]; decide
  · k_with "pyIter ref" => (refine stop ?_)
    k_steps
    (rename Fr _ _ _ _ => F1); (rename News _ _ _ _ => N1); (rename IsRange _ _ _ _ _ _ _ _ => hR)
    refine ⟨?_⟩
    refine iter_range ((Str.ofString "", [], ns), _, [], 0, ws, nn) rfl hR (small1 (by decide) (by decide) (by omega) (by omega)) ?_ ?_ F1 N1 (fun p hp => hp) (by walk_at "m_all") (fun h => ⟨⟨rfl, rfl, id⟩, rfl, ⟨.nil⟩, hws0, by simp, fun y hy => hy, Nat.zero_le _⟩)
    · first | exact range0 rfl | (rw [rangeSize1 (by decide) (by omega)]; omega)
    · exact fun i t _ => ⟨t, by rw [Int.zero_add]⟩
  · (intro kk; refine all8 ?_; rintro mk gn qu tm gv gz qv qz v u s2 own hk2 ⟨tv, rfl⟩ hz1 F1 N1 hap; refine goal_cut fun Gz hGz => ?_; obtain ⟨hs, hst, hgv, hqv, hsum, hin, hml⟩ := hz1; refine hGz ?_; clear hGz Gz)
    dsimp only [List.cons_append] at F1 N1 hap hst hgv hqv hsum hin hml
    have hgl := hgv.out.len_eq
    unfold lexLed at N1
    dsimp only [List.cons_append, List.nil_append] at N1
    k_steps
    refine ⟨?_⟩
    refine for_walk (h₀ := hb) (n := ns.length - gn.length) (Pt := fun i v => ∃ t, v = .int (i : Int) t) (σ := (Str × List Str × List Str) × Tok × List Value × Nat × List Value × Nat)
      (fun z => (gl, { cls := .type "list", data := .seq z.2.2.1.toArray z.2.2.2.1 }) :: (lexLed w (⟨ln, dl, pl, st, ds, f, c, cl, it, k1, k2, k3, k4, t1', t3, j1, j2, j3, j4, j5, u1, u3, tq, pm, ct, jp, oc, ocl, vs', z.2.2.2.2.2⟩ : LexD) x t k n z.2.2.2.2.1 ++ own))
      (fun c => [("line", .ref ln), ("words", .ref wl), ("depth", .ref dd), ("marks", .str c.1.1 c.2.1), ("gone", .ref gl), ("k", .int (kk : Int) tv)])
      (fun i c s' => Sh s s' ∧ c.1 = rndJ dF kk (mk, gn, qu) i ∧ Stop (StrsAre c.2.2.1 c.1.2.1) ∧ Stop (StrsAre c.2.2.2.2.1 c.1.2.2) ∧ c.1.2.1.length + c.1.2.2.length = ns.length ∧ (∀ y ∈ c.1.2.2, y ∈ ns) ∧ c.1.1.length ≤ kk * 10 + i ∧ qu.length ≤ c.1.2.2.length + i)
      (gl :: (lexA (⟨ln, dl, pl, st, ds, f, c, cl, it, k1, k2, k3, k4, t1', t3, j1, j2, j3, j4, j5, u1, u3, tq, pm, ct, jp, oc, ocl, vs', nn⟩ : LexD) ++ own.map (·.1))) (fun _ => rfl) rfl rfl (fun _ _ _ _ _ h => ⟨h.1.to, h.2⟩) ?_ ?_ ?hn2 ?_ (fun _ => rfl)
    case hn2 => intro c; simp only [List.forall_mem_cons]; decide
    · k_with "pyIter ref" => (refine stop ?_)
      k_steps
      refine len_list (N1.isList (.head _)) (by rw [List.size_toArray, hgl]; omega) ?_
      rw [show gv.toArray.size = gn.length from List.size_toArray.trans hgl]
      k_steps
      (rename Fr _ _ _ _ => F2); (rename News _ _ _ _ => N2); (rename IsRange _ _ _ _ _ _ _ _ => hR)
      refine ⟨?_⟩
      refine iter_range ((mk, gn, qu), tm, gv, gz, qv, qz) rfl hR (small1 (by decide) (by decide) (by omega) (by omega)) ?_ ?_ F2 N2 (fun p hp => hp) (by walk_at "m_all") (fun h => ⟨hs.to, rfl, hgv, hqv, hsum, hin, hml, Nat.le_refl _⟩)
      · exact range0 (Int.ofNat_sub (Nat.le.intro hsum)).symm
      · exact fun i t _ => ⟨t, by rw [Int.zero_add]⟩
    · (intro i; refine all8 ?_; rintro mk2 gn2 qu2 tm2 gv2 gz2 qv2 qz2 v uu3 s3 own3 hi3 ⟨ti, rfl⟩ hz1 F3 N3 hap3; refine goal_cut fun Gz hGz => ?_; obtain ⟨hs3, hst3, hgv3, hqv3, hsum3, hin3, hml3, hql3⟩ := hz1; refine hGz ?_; clear hGz Gz)
      dsimp only [List.cons_append] at F3 N3 hap3 hst3 hgv3 hqv3 hsum3 hin3 hml3 hql3
      cases qu2 with
      | nil => exact absurd (Nat.lt_of_lt_of_le hi3 (by rw [← hsum, Nat.add_sub_cancel_left]; exact Nat.le_trans hql3 (Nat.le_of_eq (Nat.zero_add i)))) (Nat.lt_irrefl _)
      | cons y q =>
        obtain ⟨hqv3⟩ := hqv3
        cases hqv3 with
        | cons _ ty hqv4 =>
          rename_i qv4
          obtain ⟨tdv, hdy⟩ := hdv y (hin3 y (List.mem_cons_self ..))
          have hyb := hbd y (hin3 y (List.mem_cons_self ..))
          have hqln := hqv4.len_eq
          have hgl3 := hgv3.out.len_eq
          have hnxt : rndJ dF kk (mk, gn, qu) (i + 1) = rndTurn dF kk (mk2, gn2, y :: q) := by
            rw [hst3]; unfold rndJ; rw [List.range_succ, List.foldl_append]; rfl
          have hkeep := rndTurn_keeps dF kk (mk2, gn2, y :: q)
          rw [← hnxt] at hkeep
          dsimp only at hkeep
          (refine goal_cut fun Gz hGz => ?_; obtain ⟨hk1, hk2', hk3, hk4⟩ := hkeep; refine hGz ?_; clear hGz Gz)
          simp only [List.length_cons] at hsum3 hql3 hk1 hk4
          have hz1 : mk2.length ≤ 66 := Nat.le_trans hml3 (Nat.add_le_add (Nat.mul_le_mul_right 10 (Nat.le_trans (Nat.le_of_lt_succ hk2) hlen)) (Nat.le_trans (Nat.le_of_lt hi3) (Nat.le_trans (Nat.sub_le ..) hlen)))
          have hz2 : gn2.length ≤ 6 := Nat.le_trans (Nat.le.intro hsum3) hlen
          have hz3 : qv4.length ≤ 6 := by rw [hqln]; exact Nat.le_trans (Nat.le_of_succ_le (Nat.le_trans (Nat.le_add_left _ gn2.length) (Nat.le_of_eq hsum3))) hlen
          have fin : ∀ tm' gv' gz' qv' qz' (s' : Shared) m', Sh s s' → Fr hb L s'.heap m' → News hb L s'.heap ((gl, ({ cls := .type "list", data := .seq gv'.toArray gz' } : Obj)) :: (lexLed w (⟨ln, dl, pl, st, ds, f, c, cl, it, k1, k2, k3, k4, t1', t3, j1, j2, j3, j4, j5, u1, u3, tq, pm, ct, jp, oc, ocl, vs', qz'⟩ : LexD) x t k n qv' ++ (own ++ own3))) →
              StrsAre gv' (rndJ dF kk (mk, gn, qu) (i + 1)).2.1 → StrsAre qv' (rndJ dF kk (mk, gn, qu) (i + 1)).2.2 → m' "line" = some (.ref ln) → m' "words" = some (.ref wl) → m' "depth" = some (.ref dd) → m' "marks" = some (.str (rndJ dF kk (mk, gn, qu) (i + 1)).1 tm') → m' "gone" = some (.ref gl) → m' "k" = some (.int (kk : Int) tv) →
              ∃ (c' : (Str × List Str × List Str) × Tok × List Value × Nat × List Value × Nat) (m : Str → Option Value) (news : List (Addr × Obj)), (Sh s s' ∧ c'.1 = rndJ dF kk (mk, gn, qu) (i + 1) ∧ Stop (StrsAre c'.2.2.1 c'.1.2.1) ∧ Stop (StrsAre c'.2.2.2.2.1 c'.1.2.2) ∧ c'.1.2.1.length + c'.1.2.2.length = ns.length ∧ (∀ y ∈ c'.1.2.2, y ∈ ns) ∧ c'.1.1.length ≤ kk * 10 + (i + 1) ∧ qu.length ≤ c'.1.2.2.length + (i + 1)) ∧
                Fr hb L s'.heap m ∧ News hb L s'.heap news ∧ (∀ p ∈ (gl, { cls := .type "list", data := .seq c'.2.2.1.toArray c'.2.2.2.1 }) :: (lexLed w (⟨ln, dl, pl, st, ds, f, c, cl, it, k1, k2, k3, k4, t1', t3, j1, j2, j3, j4, j5, u1, u3, tq, pm, ct, jp, oc, ocl, vs', c'.2.2.2.2.2⟩ : LexD) x t k n c'.2.2.2.2.1 ++ own), p ∈ news) ∧ (∀ p ∈ own3, p ∈ news) ∧
                (∀ p ∈ [(Str.ofString "line", Value.ref ln), (Str.ofString "words", .ref wl), (Str.ofString "depth", .ref dd), (Str.ofString "marks", .str c'.1.1 c'.2.1), (Str.ofString "gone", .ref gl), (Str.ofString "k", .int (kk : Int) tv)], m p.1 = some p.2) := by
            intro tm' gv' gz' qv' qz' s' m' sh' F' N' hg' hq' e1 e2 e3 e4 e5 e6
            refine ⟨(rndJ dF kk (mk, gn, qu) (i + 1), tm', gv', gz', qv', qz'), m', _, ⟨sh', rfl, ⟨hg'⟩, ⟨hq'⟩, ?_, ?_, ?_, ?_⟩, F', N', ?_, ?_, ?_⟩
            · exact hk1.trans hsum3
            · exact fun z hz => hin3 z (hk2' z hz)
            · exact Nat.le_trans hk3 (Nat.succ_le_succ hml3)
            · exact Nat.le_trans hql3 (Nat.le_trans (Nat.add_le_add_right hk4 i) (Nat.le_of_eq (by rw [Nat.add_assoc, Nat.add_comm 1 i])))
            · intro p hp
              rcases List.mem_cons.mp hp with rfl | hp
              · exact List.mem_cons_self ..
              · rcases List.mem_append.mp hp with h | h
                · exact List.mem_cons_of_mem _ (List.mem_append_left _ h)
                · exact List.mem_cons_of_mem _ (List.mem_append_right _ (List.mem_append_left _ h))
            · exact fun p hp => List.mem_cons_of_mem _ (List.mem_append_right _ (List.mem_append_right _ hp))
            · exact List.forall_mem_cons.mpr ⟨e1, List.forall_mem_cons.mpr ⟨e2, List.forall_mem_cons.mpr ⟨e3, List.forall_mem_cons.mpr ⟨e4, List.forall_mem_cons.mpr ⟨e5, List.forall_mem_cons.mpr ⟨e6, List.forall_mem_nil _⟩⟩⟩⟩⟩⟩
          clear hml3 hql3 hk1 hk3 hk4 hsum3 hsum hml hlen hgl hqln
          have offA : ∀ p ∈ own ++ own3, p.1 ∉ lexA (⟨ln, dl, pl, st, ds, f, c, cl, it, k1, k2, k3, k4, t1', t3, j1, j2, j3, j4, j5, u1, u3, tq, pm, ct, jp, oc, ocl, vs', nn⟩ : LexD) := fun p hp => by
            rcases List.mem_append.mp hp with h | h
            · exact not_lexA (w := w) (d := (⟨ln, dl, pl, st, ds, f, c, cl, it, k1, k2, k3, k4, t1', t3, j1, j2, j3, j4, j5, u1, u3, tq, pm, ct, jp, oc, ocl, vs', qz⟩ : LexD)) (x := x) (t := t) (k := k) (n := n) (ws := qv) fun r hr => hap r (List.mem_cons_of_mem _ hr) p h
            · exact not_lexA (w := w) (d := (⟨ln, dl, pl, st, ds, f, c, cl, it, k1, k2, k3, k4, t1', t3, j1, j2, j3, j4, j5, u1, u3, tq, pm, ct, jp, oc, ocl, vs', qz2⟩ : LexD)) (x := x) (t := t) (k := k) (n := n) (ws := .str y ty :: qv4) fun r hr => hap3 r (List.mem_cons_of_mem _ (List.mem_append_left _ hr)) p h
          have offG : ∀ p ∈ own ++ own3, p.1 ≠ gl := fun p hp => by
            rcases List.mem_append.mp hp with h | h
            · exact hap _ (List.mem_cons_self ..) p h
            · exact hap3 _ (List.mem_cons_self ..) p h
          unfold lexLed at N3
          dsimp only [List.cons_append, List.nil_append] at N3
          k_with "call ref" => (refine stop ?_)
          k_steps
          refine ⟨?_⟩
          have N3f : News hb L s3.heap ((gl, ({ cls := .type "list", data := .seq gv2.toArray gz2 } : Obj)) :: (lexLed w (⟨ln, dl, pl, st, ds, f, c, cl, it, k1, k2, k3, k4, t1', t3, j1, j2, j3, j4, j5, u1, u3, tq, pm, ct, jp, oc, ocl, vs', qz2⟩ : LexD) x t k n (.str y ty :: qv4) ++ (own ++ own3))) := N3
          have N3l : News hb L s3.heap (lexLed w (⟨ln, dl, pl, st, ds, f, c, cl, it, k1, k2, k3, k4, t1', t3, j1, j2, j3, j4, j5, u1, u3, tq, pm, ct, jp, oc, ocl, vs', qz2⟩ : LexD) x t k n (.str y ty :: qv4)) := fun r hr => N3f r (List.mem_cons_of_mem _ (List.mem_append_left _ hr))
          refine of_UU (gt_pop (d := (⟨ln, dl, pl, st, ds, f, c, cl, it, k1, k2, k3, k4, t1', t3, j1, j2, j3, j4, j5, u1, u3, tq, pm, ct, jp, oc, ocl, vs', qz2⟩ : LexD)) (gb) (by exact F3.keep) CB ⟨hok'.code, hok'.qual, hok'.cell, hok'.nd⟩ (by omega) (fun r hr => ⟨(N3l r hr).1, (N3l r hr).2.2⟩) ?_) rfl (Nat.le_of_ble_eq_true rfl) (Nat.le_of_ble_eq_true rfl)
          intro qz4 s4 h4 ev4
          have ev4' : Ev (lexA (⟨ln, dl, pl, st, ds, f, c, cl, it, k1, k2, k3, k4, t1', t3, j1, j2, j3, j4, j5, u1, u3, tq, pm, ct, jp, oc, ocl, vs', nn⟩ : LexD)) s3 s4 := ev4
          have F4 := fr_out F3 O.1 O.2 ev4'.heap
          have N4 : News hb L s4.heap ((gl, ({ cls := .type "list", data := .seq gv2.toArray gz2 } : Obj)) :: (lexLed w (⟨ln, dl, pl, st, ds, f, c, cl, it, k1, k2, k3, k4, t1', t3, j1, j2, j3, j4, j5, u1, u3, tq, pm, ct, jp, oc, ocl, vs', qz4⟩ : LexD) x t k n qv4 ++ (own ++ own3))) := lex_news (d := (⟨ln, dl, pl, st, ds, f, c, cl, it, k1, k2, k3, k4, t1', t3, j1, j2, j3, j4, j5, u1, u3, tq, pm, ct, jp, oc, ocl, vs', qz2⟩ : LexD)) (d' := (⟨ln, dl, pl, st, ds, f, c, cl, it, k1, k2, k3, k4, t1', t3, j1, j2, j3, j4, j5, u1, u3, tq, pm, ct, jp, oc, ocl, vs', qz4⟩ : LexD)) rfl N3f N3l h4 ev4'.heap (fun r hr => by
            rcases List.mem_cons.mp hr with rfl | hr
            · exact .inr ⟨List.mem_cons_self .., hglA⟩
            · rcases List.mem_append.mp hr with h | h
              · exact .inl h
              · exact .inr ⟨List.mem_cons_of_mem _ (List.mem_append_right _ h), offA r h⟩)
          clear F3 N3 N3f N3l h4
          unfold lexLed at N4
          dsimp only [List.cons_append, List.nil_append] at N4
          k_with "subscriptTail Name Name ref str" => (refine item_dict (hdb.keep (Fr.keep (by assumption))) hdy ?_)
          k_with "call builtin:list.append" => (refine stop ?_)
          k_steps
          · refine ⟨?_⟩
            (rename Fr _ _ _ _ => F6); (rename News _ _ _ _ => N6)
            (rename (dF y = (kk : Int) - 1) => hc)
            have ed : rndJ dF kk (mk, gn, qu) (i + 1) = (mk2 ++ Str.ofString ")", gn2 ++ [y], q) := by
              rw [hnxt]; unfold rndTurn; dsimp only; rw [if_pos hc]
            have N6f : News hb L _ ((gl, ({ cls := .type "list", data := .seq gv2.toArray gz2 } : Obj)) :: (lexLed w (⟨ln, dl, pl, st, ds, f, c, cl, it, k1, k2, k3, k4, t1', t3, j1, j2, j3, j4, j5, u1, u3, tq, pm, ct, jp, oc, ocl, vs', qz4⟩ : LexD) x t k n qv4 ++ (own ++ own3))) := N6
            refine append_head F6 N6f (fun p hp => ?_) ?_ (by rw [List.size_toArray, hgl3, sizeLine_eq]; exact Nat.le_trans hz2 (by decide))
            · rcases List.mem_append.mp hp with h | h
              · exact led_ne (d := (⟨ln, dl, pl, st, ds, f, c, cl, it, k1, k2, k3, k4, t1', t3, j1, j2, j3, j4, j5, u1, u3, tq, pm, ct, jp, oc, ocl, vs', qz4⟩ : LexD)) (w := w) (x := x) (t := t) (k := k) (n := n) (ws := qv4) hglA p h
              · exact offG p h
            intro h7 F7 N7
            rw [List.push_toArray] at N7
            clear F6 N6 N6f
            k_steps
            exact fin _ _ _ _ _ _ _ (hs3.to.trans ev4.sh).to F7 N7 (by rw [ed]; exact hgv3.out.append' (.cons _ _ .nil)) (by rw [ed]; exact hqv4) rfl rfl rfl (by rw [ed]; rfl) rfl rfl
          · refine ⟨?_⟩
            (rename Fr _ _ _ _ => F6); (rename News _ _ _ _ => N6)
            (rename (dF y ≠ (kk : Int) - 1) => hc1)
            (rename (dF y = (kk : Int)) => hc2)
            have ed : rndJ dF kk (mk, gn, qu) (i + 1) = (mk2 ++ Str.ofString "(", gn2, q ++ [y]) := by
              rw [hnxt]; unfold rndTurn; dsimp only; rw [if_neg hc1, if_pos hc2]
            have N6f : News hb L _ ((gl, ({ cls := .type "list", data := .seq gv2.toArray gz2 } : Obj)) :: (lexLed w (⟨ln, dl, pl, st, ds, f, c, cl, it, k1, k2, k3, k4, t1', t3, j1, j2, j3, j4, j5, u1, u3, tq, pm, ct, jp, oc, ocl, vs', qz4⟩ : LexD) x t k n qv4 ++ (own ++ own3))) := N6
            have N6l : News hb L _ (lexLed w (⟨ln, dl, pl, st, ds, f, c, cl, it, k1, k2, k3, k4, t1', t3, j1, j2, j3, j4, j5, u1, u3, tq, pm, ct, jp, oc, ocl, vs', qz4⟩ : LexD) x t k n qv4) := fun r hr => N6f r (List.mem_cons_of_mem _ (List.mem_append_left _ hr))
            refine of_UU (pt_spec (d := (⟨ln, dl, pl, st, ds, f, c, cl, it, k1, k2, k3, k4, t1', t3, j1, j2, j3, j4, j5, u1, u3, tq, pm, ct, jp, oc, ocl, vs', qz4⟩ : LexD)) (ws := qv4) gb (by exact F6.keep) ⟨hok'.code, hok'.qual, hok'.cell, hok'.nd⟩ (Nat.lt_of_le_of_lt hz3 (by decide)) (fun r hr => ⟨(N6l r hr).1, (N6l r hr).2.2⟩) ?_) rfl (Nat.le_of_ble_eq_true rfl) (Nat.le_of_ble_eq_true rfl)
            intro s7 h7 ev7
            have ev7' : Ev (lexA (⟨ln, dl, pl, st, ds, f, c, cl, it, k1, k2, k3, k4, t1', t3, j1, j2, j3, j4, j5, u1, u3, tq, pm, ct, jp, oc, ocl, vs', qz4⟩ : LexD)) _ s7 := ev7
            have F7 := fr_out F6 O.1 O.2 ev7'.heap
            have N7 : News hb L s7.heap ((gl, ({ cls := .type "list", data := .seq gv2.toArray gz2 } : Obj)) :: (lexLed w (⟨ln, dl, pl, st, ds, f, c, cl, it, k1, k2, k3, k4, t1', t3, j1, j2, j3, j4, j5, u1, u3, tq, pm, ct, jp, oc, ocl, vs', qz4 + 1⟩ : LexD) x t k n (qv4 ++ [.str y ty]) ++ (own ++ own3))) := lex_news (d := (⟨ln, dl, pl, st, ds, f, c, cl, it, k1, k2, k3, k4, t1', t3, j1, j2, j3, j4, j5, u1, u3, tq, pm, ct, jp, oc, ocl, vs', qz4⟩ : LexD)) (d' := (⟨ln, dl, pl, st, ds, f, c, cl, it, k1, k2, k3, k4, t1', t3, j1, j2, j3, j4, j5, u1, u3, tq, pm, ct, jp, oc, ocl, vs', qz4 + 1⟩ : LexD)) rfl N6f N6l h7 ev7'.heap (fun r hr => by
              rcases List.mem_cons.mp hr with rfl | hr
              · exact .inr ⟨List.mem_cons_self .., hglA⟩
              · rcases List.mem_append.mp hr with h | h
                · exact .inl h
                · exact .inr ⟨List.mem_cons_of_mem _ (List.mem_append_right _ h), offA r h⟩)
            clear F6 N6 N6f N6l h7
            k_steps
            exact fin _ _ _ _ _ _ _ ((hs3.to.trans ev4.sh).to.trans ev7.sh).to F7 N7 (by rw [ed]; exact hgv3.out) (by rw [ed]; exact hqv4.append' (.cons _ _ .nil)) rfl rfl rfl (by rw [ed]; rfl) rfl rfl
          · refine ⟨?_⟩
            (rename Fr _ _ _ _ => F6); (rename News _ _ _ _ => N6)
            (rename (dF y ≠ (kk : Int) - 1) => hc1)
            (rename (dF y ≠ (kk : Int)) => hc2)
            have ed : rndJ dF kk (mk, gn, qu) (i + 1) = (mk2, gn2, q ++ [y]) := by
              rw [hnxt]; unfold rndTurn; dsimp only; rw [if_neg hc1, if_neg hc2]
            have N6f : News hb L _ ((gl, ({ cls := .type "list", data := .seq gv2.toArray gz2 } : Obj)) :: (lexLed w (⟨ln, dl, pl, st, ds, f, c, cl, it, k1, k2, k3, k4, t1', t3, j1, j2, j3, j4, j5, u1, u3, tq, pm, ct, jp, oc, ocl, vs', qz4⟩ : LexD) x t k n qv4 ++ (own ++ own3))) := N6
            have N6l : News hb L _ (lexLed w (⟨ln, dl, pl, st, ds, f, c, cl, it, k1, k2, k3, k4, t1', t3, j1, j2, j3, j4, j5, u1, u3, tq, pm, ct, jp, oc, ocl, vs', qz4⟩ : LexD) x t k n qv4) := fun r hr => N6f r (List.mem_cons_of_mem _ (List.mem_append_left _ hr))
            refine of_UU (pt_spec (d := (⟨ln, dl, pl, st, ds, f, c, cl, it, k1, k2, k3, k4, t1', t3, j1, j2, j3, j4, j5, u1, u3, tq, pm, ct, jp, oc, ocl, vs', qz4⟩ : LexD)) (ws := qv4) gb (by exact F6.keep) ⟨hok'.code, hok'.qual, hok'.cell, hok'.nd⟩ (Nat.lt_of_le_of_lt hz3 (by decide)) (fun r hr => ⟨(N6l r hr).1, (N6l r hr).2.2⟩) ?_) rfl (Nat.le_of_ble_eq_true rfl) (Nat.le_of_ble_eq_true rfl)
            intro s7 h7 ev7
            have ev7' : Ev (lexA (⟨ln, dl, pl, st, ds, f, c, cl, it, k1, k2, k3, k4, t1', t3, j1, j2, j3, j4, j5, u1, u3, tq, pm, ct, jp, oc, ocl, vs', qz4⟩ : LexD)) _ s7 := ev7
            have F7 := fr_out F6 O.1 O.2 ev7'.heap
            have N7 : News hb L s7.heap ((gl, ({ cls := .type "list", data := .seq gv2.toArray gz2 } : Obj)) :: (lexLed w (⟨ln, dl, pl, st, ds, f, c, cl, it, k1, k2, k3, k4, t1', t3, j1, j2, j3, j4, j5, u1, u3, tq, pm, ct, jp, oc, ocl, vs', qz4 + 1⟩ : LexD) x t k n (qv4 ++ [.str y ty]) ++ (own ++ own3))) := lex_news (d := (⟨ln, dl, pl, st, ds, f, c, cl, it, k1, k2, k3, k4, t1', t3, j1, j2, j3, j4, j5, u1, u3, tq, pm, ct, jp, oc, ocl, vs', qz4⟩ : LexD)) (d' := (⟨ln, dl, pl, st, ds, f, c, cl, it, k1, k2, k3, k4, t1', t3, j1, j2, j3, j4, j5, u1, u3, tq, pm, ct, jp, oc, ocl, vs', qz4 + 1⟩ : LexD)) rfl N6f N6l h7 ev7'.heap (fun r hr => by
              rcases List.mem_cons.mp hr with rfl | hr
              · exact .inr ⟨List.mem_cons_self .., hglA⟩
              · rcases List.mem_append.mp hr with h | h
                · exact .inl h
                · exact .inr ⟨List.mem_cons_of_mem _ (List.mem_append_right _ h), offA r h⟩)
            clear F6 N6 N6f N6l h7
            k_steps
            exact fin _ _ _ _ _ _ _ ((hs3.to.trans ev4.sh).to.trans ev7.sh).to F7 N7 (by rw [ed]; exact hgv3.out) (by rw [ed]; exact hqv4.append' (.cons _ _ .nil)) rfl rfl rfl (by rw [ed]; rfl) rfl rfl
    · (refine all8 ?_; rintro mk2 gn2 qu2 tm2 gv2 gz2 qv2 qz2 uu3 s3 hz1 F3 N3; refine goal_cut fun Gz hGz => ?_; obtain ⟨hs3, hst3, hgv3, hqv3, hsum3, hin3, hml3, hql3⟩ := hz1; refine hGz ?_; clear hGz Gz)
      dsimp only at F3 N3 hst3 hgv3 hqv3 hsum3 hin3 hml3 hql3
      k_steps
      refine ⟨((mk2, gn2, qu2), tm2, gv2, gz2, qv2, qz2), _, _, ⟨hs3.to, ?g1_4, hgv3, hqv3, hsum3, hin3, ?g3_4⟩, F3, N3, fun p hp => ?_, fun p hp => List.mem_cons_of_mem _ (List.mem_append_right _ hp), by walk_at "m_all"⟩
      case g1_4 => dsimp only; rw [hst3]; show _ = List.foldl _ _ _; rw [List.range_succ, List.foldl_append]; show _ = rndK dF ns.length (rndSt ns dF kk) kk; rw [← hst]; rfl
      case g3_4 => exact Nat.le_trans hml3 (by rw [Nat.succ_mul]; exact Nat.add_le_add_left (Nat.le_trans (Nat.sub_le ..) (Nat.le_trans hlen (by decide))) _)
      rcases List.mem_cons.mp hp with rfl | hp
      · exact List.mem_cons_self ..
      · exact List.mem_cons_of_mem _ (List.mem_append_left _ hp)
  · (refine all8 ?_; rintro mk gn qu tm gv gz qv qz u s2 hz1 F1 N1; refine goal_cut fun Gz hGz => ?_; obtain ⟨hs, hst, hgv, hqv, hsum, hin, hml⟩ := hz1; refine hGz ?_; clear hGz Gz)
    dsimp only at F1 N1 hst hgv hqv hsum hin hml
    have N1f : News hb L s2.heap ((gl, ({ cls := .type "list", data := .seq gv.toArray gz } : Obj)) :: (lexLed w (⟨ln, dl, pl, st, ds, f, c, cl, it, k1, k2, k3, k4, t1', t3, j1, j2, j3, j4, j5, u1, u3, tq, pm, ct, jp, oc, ocl, vs', qz⟩ : LexD) x t k n qv)) := N1
    clear N1f
    k_steps
    (rename Fr _ _ _ _ => F9); (rename News _ _ _ _ => N9)
    rename_i T hT9 lT
    have hTA : T ∉ lexA (⟨ln, dl, pl, st, ds, f, c, cl, it, k1, k2, k3, k4, t1', t3, j1, j2, j3, j4, j5, u1, u3, tq, pm, ct, jp, oc, ocl, vs', nn⟩ : LexD) := by
      (refine goal_cut fun Gz hGz => ?_; obtain ⟨_, m1, m2, m3, m4, m5, m6, m7, m8, m9, _⟩ := lT; refine hGz ?_; clear hGz Gz)
      exact notin9 ⟨m1, m2, m3, m4, m5, m6, m7, m8, m9⟩
    have fresh : ∀ a, a ∉ lexA (⟨ln, dl, pl, st, ds, f, c, cl, it, k1, k2, k3, k4, t1', t3, j1, j2, j3, j4, j5, u1, u3, tq, pm, ct, jp, oc, ocl, vs', nn⟩ : LexD) → hb.get? a = none → s.heap.get? a = none := fun a h1 h2 => by
      cases e : s.heap.get? a with
      | none => rfl
      | some o => have := hb2 a o h1 e; rw [h2] at this; cases this
    have e : (mk, gn, qu) = roundsR ns dF := hst
    have N9f : News hb L _ ((T, tupleO #[.str mk tm, .ref gl]) :: (gl, ({ cls := .type "list", data := .seq gv.toArray gz } : Obj)) :: (lexLed w (⟨ln, dl, pl, st, ds, f, c, cl, it, k1, k2, k3, k4, t1', t3, j1, j2, j3, j4, j5, u1, u3, tq, pm, ct, jp, oc, ocl, vs', qz⟩ : LexD) x t k n qv)) := N9
    have hx1 := N9f _ (.head _)
    have hx2 := N9f _ (.tail _ (.head _))
    rw [← e] at hret
    exact hret T gl tm gv gz qv qz _ hx1.1 hx2.1 (fresh T hTA hx1.2.2) (fresh gl hglA hx2.2.2) hgv.out hqv.out (fun r hr => (N9f r (List.mem_cons_of_mem _ (List.mem_cons_of_mem _ hr))).1) (hs.to.ev fun b o hb' e => F9.keep b o (hb2 b o hb' e))
end

-- part C4
section
theorem fresh_C4 : True := by
  k_with_none
  exact trivial
theorem bisR_le (ns : List Int) (x : Int) : ∀ (f lo hi : Nat), lo ≤ hi → bisR ns x f lo hi ≤ hi
  | 0, lo, hi, h => h
  | f + 1, lo, hi, h => by
    unfold bisR
    split
    · split
      · exact Nat.le_trans (bisR_le ns x f lo ((lo + hi) / 2) (by omega)) (by omega)
      · exact bisR_le ns x f ((lo + hi) / 2 + 1) hi (by omega)
    · exact h
theorem ints_ins {vs : List Value} {ns : List Int} {x : Int} {tx : Tok} (k : Nat) (hi : IntsAre vs ns) : IntsAre (vs.take k ++ .int x tx :: vs.drop k) (ns.take k ++ x :: ns.drop k) := by
  induction hi generalizing k with
  | nil => cases k <;> exact .cons _ _ .nil
  | cons a t h ih =>
    cases k with
    | zero => exact .cons _ _ (.cons _ _ h)
    | succ k => exact .cons _ _ (ih k)

theorem insort_spec {w : World} {p : Program} {loose : List Str} {mg mb : Str → Option Value}
  {s : Shared} {Q E : Value → Shared → Prop} {l : Addr} {vs : List Value} {ns : List Int} {x : Int} {tx : Tok} {n : Nat} {h₀ : Heap}
  (g : G w p loose mg mb h₀) (hsub : ∀ b o, h₀.get? b = some o → s.heap.get? b = some o) (hl : s.heap.get? l = some { cls := .type "list", data := .seq vs.toArray n }) (hl0 : h₀.get? l = none) (hi : IntsAre vs ns) (hlen : ns.length < 100)
  (hret : ∀ (ws : List Value) s', s'.heap.get? l = some { cls := .type "list", data := .seq ws.toArray (n + 1) } → IntsAre ws (ns.take (bisR ns x ns.length 0 ns.length) ++ x :: ns.drop (bisR ns x ns.length 0 ns.length)) → Ev [l] s s' → Q .none s') :
  wpAny (model PySem.Challenge.rw_us0006_01.row.prog w) (UU 480 1800) (call (.ref 23) [.ref l, .int x tx]) Q E s := by
  have X := g.X.keeps hsub
  revert X; k_fill; intro X
  refine' enterM [(l, { cls := .type "list", data := .seq vs.toArray n })] (pos := [.ref l, .int x tx]) (kw := []) (binds := [("a", .ref l), ("x", .int x tx), ("lo", .int 0 189), ("hi", .none), ("key", .none)]) g hsub ?hown ?ho ?hcd ?hb ?hl ?hc ?_ ?hr ?h1 ?h2 ?h3
  case hown => intro q hq; rw [List.mem_singleton.mp hq]; exact ⟨hl, hl0⟩
  walk_at "m_enter"
  intro hb L h₁ F N gb X T hsz hb1 hb2
  k_with "call ref" => (refine stop ?_)
  k_steps
  refine ⟨?_⟩
  refine of_U (bisR4_spec (vs := vs) (ns := ns) (gb.keeps (by exact F.keep)) (by exact N.isList (.head _)) hi hlen ?_)
  intro t s' sm hk
  have F1 : Fr hb L s'.heap _ := fr_move' F (by exact hk _) (fun b o e => hk b o (F.keep b o e))
  have N1 : News hb L s'.heap [(l, { cls := .type "list", data := .seq vs.toArray n })] := fun q hq => ⟨hk _ _ (N q hq).1, (N q hq).2⟩
  clear F N
  k_with "call builtin:list.insert" => (refine stop ?_)
  k_steps
  (rename Fr _ _ _ _ => F2); (rename News _ _ _ _ => N2)
  refine ⟨?_⟩
  have hle := bisR_le ns x ns.length 0 ns.length (Nat.zero_le _)
  have hvl := hi.length
  have ek : kl_ins vs ((bisR ns x ns.length 0 ns.length : Nat) : Int) (.int x tx) = vs.take (bisR ns x ns.length 0 ns.length) ++ .int x tx :: vs.drop (bisR ns x ns.length 0 ns.length) := by
    unfold kl_ins
    rw [if_neg (by omega), Int.toNat_natCast, Nat.min_eq_left (by omega)]
  refine kl_insert (l := vs.take (bisR ns x ns.length 0 ns.length) ++ .int x tx :: vs.drop (bisR ns x ns.length 0 ns.length)) F2 N2 ?_ ek (.head (fun p hp => (nomatch hp))) (by rw [List.toList_toArray, sizeLine_eq]; omega) ?_
  · unfold Builtin.List.listFitsIndex
    simp only [Bool.and_eq_true, decide_eq_true_eq]
    omega
  intro h' F3 N3
  k_steps
  have hq : ∀ tk, Q .none { s' with heap := h', toks := tk } := fun tk => by
    refine hret _ _ (N3 _ (.head _)).1 (ints_ins _ hi) ⟨fun b o hb e => F3.keep b o (hb2 b o hb e), ?_, ?_, ?_⟩
    · exact sm.drawn
    · exact sm.os
    · intro h; show AllBare s'.gens; rw [sm.gens]; exact h
  exact hq _
end

-- part P1
section
theorem fresh_P1 : True := by
  k_with_none
  exact trivial
theorem Same.sh {s s' : Shared} (a : Same s s') : Sh s s' := ⟨a.drawn, a.os, fun h => by rw [a.gens]; exact h⟩
noncomputable def insR (ms : List Int) (x : Int) : List Int := ms.take (bisR ms x ms.length 0 ms.length) ++ x :: ms.drop (bisR ms x ms.length 0 ms.length)
noncomputable def prStep (st : Int × List Int) (x : Int) : Int × List Int := (st.1 + ((bisR st.2 (x + 1) st.2.length 0 st.2.length : Nat) - (bisL st.2 x st.2.length 0 st.2.length : Nat) : Int), insR st.2 x)
noncomputable def pairsR (ns : List Int) : Int := (ns.foldl prStep (0, [])).1

theorem insR_len (ms : List Int) (x : Int) : (insR ms x).length = ms.length + 1 := by
  unfold insR
  rw [List.length_append, List.length_cons, List.length_take, List.length_drop]; omega

theorem pairs_spec {w : World} {p : Program} {loose : List Str} {mg mb : Str → Option Value}
  {s : Shared} {Q E : Value → Shared → Prop} {l : Addr} {vs : List Value} {ns : List Int}
  (g : G w p loose mg mb s.heap) (hl : s.heap.IsList l vs.toArray) (hi : IntsAre vs ns) (hlen : ns.length < 100)
  (hret : ∀ t s', Ev [] s s' → Q (.int (pairsR ns) t) s') :
  wpAny (model PySem.Challenge.rw_us0006_01.row.prog w) (UU 470 1700) (call (.ref 170) [.ref l]) Q E s := by
  have X := g.X
  revert X; k_fill; intro X
  refine' enter (pos := [.ref l]) (kw := []) (binds := [("levels", .ref l)]) g ?ho ?hcd ?hb ?hl ?hc ?_ ?hr ?h1 ?h2 ?h3
  walk_at "m_enter"
  intro L h₁ F N X T
  k_steps
  refine ⟨?_⟩
  (rename Fr _ _ _ _ => F0); (rename News _ _ _ _ => N0)
  obtain ⟨ol, hol⟩ := hl
  have hl' : s.heap.IsList l vs.toArray := ⟨ol, hol⟩
  rename_i ml hb0 hb1 hb2 hb3
  refine for_walk (h₀ := s.heap) (n := ns.length) (Pt := fun i v => ∃ t, v = .int (ns.getD i 0) t) (σ := (Int × List Int) × Tok × List Value × Nat) (fun c => [(ml, { cls := .type "list", data := .seq c.2.2.1.toArray c.2.2.2 })])
    (fun c => [("levels", .ref l), ("met", .ref ml), ("pairs", .int c.1.1 c.2.1)]) (fun i c s' => Sh s s' ∧ c.1 = (ns.take i).foldl prStep (0, []) ∧ IntsAre c.2.2.1 c.1.2 ∧ c.1.2.length = i) [ml] (fun _ => rfl) rfl rfl (fun _ _ _ _ _ h => ⟨h.1.to, h.2⟩) ?_ ?_ ?hn1 ?_ (fun _ => rfl)
  case hn1 => intro c; simp only [List.forall_mem_cons]; decide
  · k_with "pyIter ref" => (refine stop ?_)
    k_steps
    (rename Fr _ _ _ _ => F1); (rename News _ _ _ _ => N1)
    refine ⟨?_⟩
    refine iter_list ((0, []), _, [], 0) rfl (by obtain ⟨o, h1, h2⟩ := hl'; exact ⟨o, F1.keep _ _ h1, h2⟩) (List.size_toArray.trans hi.length) (fun i v _ hv => getD_ints hi hv) [] (.inl ⟨ol, hol.1⟩) (fun p hp => (nomatch hp)) (fun p hp q hq => (nomatch hq)) F1 N1 (fun p hp => hp) (by walk_at "m_all") (fun h => ⟨⟨rfl, rfl, id⟩, rfl, .nil, rfl⟩)
  · (rintro i ⟨⟨pr, ms⟩, tp, ws, nn⟩ v u s2 own hi2 ⟨tv, rfl⟩ hz1 F1 N1 hap; refine goal_cut fun Gz hGz => ?_; obtain ⟨hs, hst, hI, hln⟩ := hz1; refine hGz ?_; clear hGz Gz)
    dsimp only [List.cons_append, List.nil_append] at F1 N1 hap hst hI hln
    rw [List.forall_mem_singleton] at hap
    k_with "call ref" => (refine stop ?_)
    k_steps
    refine ⟨?_⟩
    refine of_U (bisR_spec (vs := ws) (ns := ms) (g.keeps (by exact F1.keep)) (by exact N1.isList (.head _)) hI (by omega) ?_)
    intro t3 s3 sm3 hk3
    have F3 := fr_move' F1 (by exact hk3 _) (fun b o e => hk3 b o (F1.keep b o e))
    have N3 : News s.heap L s3.heap ((ml, { cls := .type "list", data := .seq ws.toArray nn }) :: own) := fun q hq => ⟨hk3 _ _ (N1 q hq).1, (N1 q hq).2⟩
    clear F1 N1
    k_steps
    refine ⟨?_⟩
    refine of_U (bisL_spec (vs := ws) (ns := ms) (g.keeps (by exact F3.keep)) (by exact N3.isList (.head _)) hI (by omega) ?_)
    intro t4 s4 sm4 hk4
    have F4 := fr_move' F3 (by exact hk4 _) (fun b o e => hk4 b o (F3.keep b o e))
    have N4 : News s.heap L s4.heap ((ml, { cls := .type "list", data := .seq ws.toArray nn }) :: own) := fun q hq => ⟨hk4 _ _ (N3 q hq).1, (N3 q hq).2⟩
    clear F3 N3
    k_steps
    (rename Fr _ _ _ _ => F5); (rename News _ _ _ _ => N5)
    refine ⟨?_⟩
    refine of_UU (insort_spec (vs := ws) (ns := ms) (h₀ := s.heap) g (by exact F5.keep) (by exact (N5 _ (.head _)).1) (N5 _ (.head _)).2.2 hI (by omega) ?_) rfl (Nat.le_of_ble_eq_true rfl) (Nat.le_of_ble_eq_true rfl)
    intro ws6 s6 h6 hI6 ev6
    have hml := (N5 _ (.head _)).2
    have F6 := fr_move' F5 (fun o e => ev6.heap _ _ (fun hm => hml.1 (List.mem_singleton.mp hm).symm) e) (fun b o e => ev6.heap _ _ (fun hm => by have e2 := hml.2; rw [← List.mem_singleton.mp hm, e] at e2; cases e2) (F5.keep b o e))
    have N6 : News s.heap L s6.heap ((ml, { cls := .type "list", data := .seq ws6.toArray (nn + 1) }) :: own) := fun q hq => by
      rcases List.mem_cons.mp hq with rfl | hq
      · exact ⟨h6, hml⟩
      · exact ⟨ev6.heap _ _ (fun hm => hap q hq (List.mem_singleton.mp hm)) (N5 q (List.mem_cons_of_mem _ hq)).1, (N5 q (List.mem_cons_of_mem _ hq)).2⟩
    clear F5 N5
    k_steps
    have sh6 : Sh s s6 := (((hs.trans (Same.sh (s := s2) ⟨sm3.gens, sm3.drawn, sm3.os⟩)).trans (Same.sh (s := s3) ⟨sm4.gens, sm4.drawn, sm4.os⟩)).trans (s' := s4) ⟨ev6.drawn, ev6.os, ev6.bare⟩)
    refine ⟨(prStep (pr, ms) (ns.getD i 0), ?tt, ws6, nn + 1), _, _, ⟨sh6.to, ?g1, hI6, ?g2⟩, F6, N6, fun p hp => ?_, fun p hp => List.mem_cons_of_mem _ hp, ?g6⟩
    case g6 => walk_at "m_all"
    case g1 => dsimp only; rw [take_snoc 0 hi2, List.foldl_append, ← hst]; rfl
    case g2 => show (insR ms _).length = _; rw [insR_len, hln]
    rw [List.mem_singleton.mp hp]; exact List.mem_cons_self ..
  · (rintro ⟨⟨pr, ms⟩, tp, ws, nn⟩ u s2 hz1 F1 N1; refine goal_cut fun Gz hGz => ?_; obtain ⟨hs, hst, hI, hln⟩ := hz1; refine hGz ?_; clear hGz Gz)
    dsimp only at F1 N1 hst hI hln
    have hq : ∀ tk, Q (.int (pairsR ns) tp) { s2 with toks := tk } := fun tk => hret _ _ (hs.to.ev fun b o _ e => F1.keep b o e)
    rw [List.take_length] at hst
    rw [show pairsR ns = pr from by unfold pairsR; rw [← hst]] at hq
    k_steps
    exact hq _
end

-- part Q1
section
theorem fresh_Q1 : True := by
  k_with_none
  exact trivial
noncomputable def fnd (f : Nat → Bool) : Nat → Nat → Option Nat
  | 0, _ => none
  | m + 1, i => if f i = true then some i else fnd f m (i + 1)
noncomputable def closes (front : Str) (k : Nat) : Str := front ++ Txt.mul (Str.ofString ")") (k : Int)
noncomputable def depStep (n : Nat) (ds : List Str) (st : Str × List Int) (c : Nat) : Str × List Int :=
  if ((⟨#[c]⟩ : Str) == Str.ofString "(") = true then
    match fnd (fun k => checkR (closes st.1 k)) n 0 with
    | some k => (st.1 ++ (Str.ofString "(" ++ ds.getD st.2.length ⟨#[]⟩), st.2 ++ [(k : Int)])
    | none => st
  else (st.1 ++ Str.ofString ")", st.2)
noncomputable def depSt (x : Str) (ds : List Str) (i : Nat) : Str × List Int := (x.cps.toList.take i).foldl (depStep x.cps.size ds) (Str.ofString "", [])
noncomputable def depR (x : Str) (ds : List Str) : List Int := (x.cps.toList.foldl (depStep x.cps.size ds) (Str.ofString "", [])).2

/-- the row's fronts end outside of an escape, and are short -/
structure DepOk (x : Str) (ds : List Str) : Prop where
  esc : ∀ i k, k < x.cps.size → escE (closes (depSt x ds i).1 k).cps.toList false = false ∧ escE (stripR (closes (depSt x ds i).1 k)).cps.toList false = false ∧ (closes (depSt x ds i).1 k).cps.size ≤ 500
  len : ∀ i c, x.cps.toList[i]? = some c → ((⟨#[c]⟩ : Str) == Str.ofString "(") = true → (depSt x ds i).2.length < ds.length
  short : ∀ d ∈ ds, d.length ≤ 10

theorem depths_spec {w : World} {p : Program} {loose : List Str} {mg mb : Str → Option Value}
  {s : Shared} {Q E : Value → Shared → Prop} {l : Addr} {vs : List Value} {ds : List Str} {x : Str} {tx : Tok}
  (g : G w p loose mg mb s.heap) (hl : s.heap.IsList l vs.toArray) (hi : StrsAre vs ds) (hx : x.cps.size < 100) (hok : DepOk x ds)
  (hret : ∀ r (its : List Value) n s', s'.heap.get? r = some { cls := .type "list", data := .seq its.toArray n } → s.heap.get? r = none → IntsAre its (depR x ds) → Ev [] s s' → Q (.ref r) s') :
  wpAny (model PySem.Challenge.rw_us0006_01.row.prog w) (UU 470 1700) (call (.ref 149) [.str x tx, .ref l]) Q E s := by
  have X := g.X
  have hxl : x.length < 100 := hx
  revert X; k_fill; intro X
  refine' enter (pos := [.str x tx, .ref l]) (kw := []) (binds := [("signs", .str x tx), ("dress", .ref l)]) g ?ho ?hcd ?hb ?hl ?hc ?_ ?hr ?h1 ?h2 ?h3
  walk_at "m_enter"
  intro L h₁ F N X T
  k_steps
  refine ⟨?_⟩
  (rename Fr _ _ _ _ => F0); (rename News _ _ _ _ => N0)
  have hl' := hl
  obtain ⟨ol, hol⟩ := hl
  rename_i dl hb0 hb1 hb2 hb3
  refine for_walk (h₀ := s.heap) (n := x.cps.size) (Pt := fun i v => ∃ c t, x.cps.toList[i]? = some c ∧ v = .str ⟨#[c]⟩ t) (σ := Tok × List Value × Nat × Str × List Int) (fun c => [(dl, { cls := .type "list", data := .seq c.2.1.toArray c.2.2.1 })])
    (fun c => [("signs", .str x tx), ("dress", .ref l), ("depths", .ref dl), ("front", .str c.2.2.2.1 c.1)]) (fun i c s' => Sh s s' ∧ c.2.2.2 = depSt x ds i ∧ IntsAre c.2.1 c.2.2.2.2 ∧ c.2.2.2.2.length ≤ i) [dl] (fun _ => rfl) rfl rfl (fun _ _ _ _ _ h => ⟨h.1.to, h.2⟩) ?_ ?_ ?hn1 ?_ (fun _ => rfl)
  case hn1 => intro c; simp only [List.forall_mem_cons]; decide
  · k_with "pyIter str" => (refine stop ?_)
    k_steps
    (rename Fr _ _ _ _ => F1); (rename News _ _ _ _ => N1)
    refine ⟨?_⟩
    exact iter_str (_, [], 0, Str.ofString "", []) rfl rfl (fun i v _ ⟨c, u, h1, h2⟩ => ⟨c, u, by rw [Array.getElem?_toList]; exact h1, h2⟩) F1 N1 (fun p hp => hp) (by walk_at "m_all") (fun h => ⟨⟨rfl, rfl, id⟩, rfl, .nil, Nat.zero_le _⟩)
  · (rintro i ⟨tf, ws, nn, fr, dd⟩ v u s2 own hi2 ⟨ch, tc, hch, rfl⟩ hz1 F1 N1 hap; refine goal_cut fun Gz hGz => ?_; obtain ⟨hs, hst, hI, hln⟩ := hz1; refine hGz ?_; clear hGz Gz)
    dsimp only [List.cons_append, List.nil_append] at F1 N1 hap hst hI hln
    rw [List.forall_mem_singleton] at hap
    have hfl : fr.length ≤ 500 := by
      have h1 := (hok.esc i 0 (by omega)).2.2
      rw [← hst] at h1
      have h2 : (closes fr 0).length = fr.length + _ := str_len_append _ _
      have h3 : (closes fr 0).length ≤ 500 := h1
      omega
    have hvl := hI.length
    have hsm : ws.toArray.size ≤ sizeLine := by rw [List.size_toArray, sizeLine_eq]; omega
    k_steps
    · (rename ((_ == Str.ofString "(") = true) => hc)
      have hnext : depSt x ds (i + 1) = depStep x.cps.size ds (fr, dd) ch := by
        rw [hst]; unfold depSt
        rw [List.take_add_one, hch, Option.toList_some, List.foldl_append]; rfl
      have hdl := hok.len i ch hch hc
      rw [← hst] at hdl
      dsimp only at hdl
      refine ⟨?_⟩
      refine for_walk (h₀ := s.heap) (n := x.cps.size) (Pt := fun i v => ∃ t, v = .int (i : Int) t) (σ := Unit) (fun c => (dl, { cls := .type "list", data := .seq ws.toArray nn }) :: own)
        (fun c => [("signs", .str x tx), ("dress", .ref l), ("depths", .ref dl), ("front", .str fr tf)]) (fun k c s' => Sh s s' ∧ fnd (fun k => checkR (closes fr k)) x.cps.size 0 = fnd (fun k => checkR (closes fr k)) (x.cps.size - k) k) (dl :: own.map (·.1)) (fun _ => rfl) rfl rfl (fun _ _ _ _ _ h => ⟨h.1.to, h.2⟩) ?_ ?_ ?hn2 ?_ (fun _ => rfl)
      case hn2 => intro c; simp only [List.forall_mem_cons]; decide
      · k_with "pyIter ref" => (refine stop ?_)
        k_steps
        (rename Fr _ _ _ _ => F2); (rename News _ _ _ _ => N2); (rename IsRange _ _ _ _ _ _ _ _ => hR)
        refine ⟨?_⟩
        refine iter_range () rfl hR (small1 (by decide) (by decide) (by omega) (by omega)) ?_ ?_ F2 N2 (fun p hp => hp) (by walk_at "m_all") (fun h => ⟨hs.to, rfl⟩)
        · exact range0 rfl
        · exact fun i t _ => ⟨t, by rw [Int.zero_add]⟩
      · rintro k ⟨⟩ v u3 s3 own3 hk3 ⟨tk3, rfl⟩ ⟨hs3, hf3⟩ F3 N3 hap3
        dsimp only [List.cons_append] at F3 N3 hap3
        k_with "call ref" => (refine stop ?_)
        k_steps
        refine ⟨?_⟩
        have hO := hok.esc i k hk3
        rw [← hst] at hO
        refine of_UU (check_spec (g.keeps (by exact F3.keep)) hO.2.2 hO.1 hO.2.1 ?_) rfl (Nat.le_of_ble_eq_true rfl) (Nat.le_of_ble_eq_true rfl)
        intro s4 ev4
        have F4 := fr_move' F3 (by exact ev4.keep _) (fun b o e => ev4.keep b o (F3.keep b o e))
        have N4 : News s.heap L s4.heap ((dl, { cls := .type "list", data := .seq ws.toArray nn }) :: (own ++ own3)) := fun q hq => ⟨ev4.keep _ _ (N3 q hq).1, (N3 q hq).2⟩
        have sh4 : Sh s s4 := hs3.trans (s' := s3) ⟨ev4.drawn, ev4.os, ev4.bare⟩
        clear F3 N3
        have hap4 : ∀ p ∈ own ++ own3, p.1 ≠ dl := fun p hp => by
          rcases List.mem_append.mp hp with h | h
          · exact hap p h
          · exact hap3 _ (List.mem_cons_self ..) p h
        have hlen0 : (ds.getD ((dd.length : Int)).toNat Str.empty).length ≤ 10 := by
          rw [Int.toNat_natCast, List.getD_eq_getElem?_getD, List.getElem?_eq_getElem hdl]
          exact hok.short _ (List.getElem_mem _)
        have efn : fnd (fun k => checkR (closes fr k)) (x.cps.size - k) k = if checkR (closes fr k) = true then some k else fnd (fun k => checkR (closes fr k)) (x.cps.size - (k + 1)) (k + 1) := by
          rw [sub_step (by assumption : k < x.cps.size)]; rfl
        k_steps
        · (rename Fr _ _ _ _ => F5); (rename News _ _ _ _ => N5); (rename ((_ == true) = true) => hchk)
          have hchk' : checkR (closes fr k) = true := eq_of_beq hchk
          have ed : depStep x.cps.size ds (fr, dd) ch = (fr ++ (Str.ofString "(" ++ ds.getD dd.length ⟨#[]⟩), dd ++ [(k : Int)]) := by
            unfold depStep
            rw [if_pos hc]; dsimp only; rw [hf3, efn, if_pos hchk']
          rw [Int.toNat_natCast] at F5
          show wpAny _ _ (execs [] _) _ _ _
          refine wpAny_execs_nil ?_
          show wpAny _ _ (execs [] _) _ _ _
          refine wpAny_execs_nil ?_
          refine ⟨(?tf5, ws ++ [.int (k : Int) ?tk5], ?nn5, fr ++ (Str.ofString "(" ++ ds.getD dd.length ⟨#[]⟩), dd ++ [(k : Int)]), _, _, ⟨sh4.to, ?h1, hI.append (.cons _ _ .nil), ?h3⟩, F5, N5, ?g10, fun p hp => List.mem_cons_of_mem _ (List.mem_append_left _ hp), ?g9⟩
          case g9 => walk_at "m_all"
          case h1 => rw [hnext, ed]
          case h3 => dsimp only; rw [List.length_append, List.length_singleton]; omega
          case g10 => intro p hp; rw [List.mem_singleton.mp hp, ← List.push_toArray]; exact List.mem_cons_self ..
        · (rename ((_ == true) = false) => hchk)
          have hchk' : ¬ checkR (closes fr k) = true := by
            intro h; rw [show fr ++ Txt.mul (Str.ofString ")") (k : Int) = closes fr k from rfl, h] at hchk; cases hchk
          refine ⟨(), _, _, ⟨sh4.to, ?h2⟩, F4, N4, fun p hp => ?_, fun p hp => List.mem_cons_of_mem _ (List.mem_append_right _ hp), by walk_at "m_all"⟩
          case h2 => rw [hf3, efn, if_neg hchk']
          rcases List.mem_cons.mp hp with rfl | hp
          · exact List.mem_cons_self ..
          · exact List.mem_cons_of_mem _ (List.mem_append_left _ hp)
      · rintro ⟨⟩ u3 s3 ⟨hs3, hf3⟩ F3 N3
        have ed : depStep x.cps.size ds (fr, dd) ch = (fr, dd) := by
          unfold depStep
          rw [if_pos hc]; dsimp only; rw [hf3, Nat.sub_self]; rfl
        k_steps
        refine ⟨(tf, ws, nn, fr, dd), _, _, ⟨hs3.to, ?_, hI, Nat.le_succ_of_le hln⟩, F3, N3, fun p hp => ?_, fun p hp => List.mem_cons_of_mem _ hp, by walk_at "m_all"⟩
        · rw [hnext, ed]
        · rw [List.mem_singleton.mp hp]; exact List.mem_cons_self ..
    · (rename ((_ == Str.ofString "(") = false) => hc)
      (rename Fr _ _ _ _ => F2); (rename News _ _ _ _ => N2)
      have hnext : depSt x ds (i + 1) = (fr ++ Str.ofString ")", dd) := by
        unfold depSt
        rw [List.take_add_one, hch, Option.toList_some, List.foldl_append, show List.foldl (depStep x.cps.size ds) (Str.ofString "", []) (List.take i x.cps.toList) = (fr, dd) from hst.symm]
        show depStep x.cps.size ds (fr, dd) ch = _
        unfold depStep
        rw [if_neg (by rw [hc]; exact Bool.false_ne_true)]
      refine ⟨(?tf2, ws, nn, fr ++ Str.ofString ")", dd), _, _, ⟨hs.to, hnext.symm, hI, Nat.le_succ_of_le hln⟩, F2, N2, fun p hp => ?_, fun p hp => List.mem_cons_of_mem _ hp, ?g9⟩
      case g9 => walk_at "m_all"
      rw [List.mem_singleton.mp hp]; exact List.mem_cons_self ..
  · (rintro ⟨tf, ws, nn, fr, dd⟩ u s2 hz1 F1 N1; refine goal_cut fun Gz hGz => ?_; obtain ⟨hs, hst, hI, hln⟩ := hz1; refine hGz ?_; clear hGz Gz)
    dsimp only at F1 N1 hst hI hln
    have ed : depR x ds = dd := by
      have h1 : (fr, dd) = depSt x ds x.cps.size := hst
      unfold depSt at h1
      rw [List.take_of_length_le (by simp)] at h1
      unfold depR
      rw [← h1]
    have hq : ∀ tk, Q (.ref dl) { s2 with toks := tk } := fun tk => hret dl ws nn _ (N1 _ (.head _)).1 (N1 _ (.head _)).2.2 (by rw [ed]; exact hI) (hs.to.ev fun b o _ e => F1.keep b o e)
    k_steps
    exact hq _
end

-- part O1
section
theorem fresh_O1 : True := by
  k_with_none
  exact trivial
local macro_rules | `(tactic| omega) => `(tactic| first | ((with_reducible show _ ≠ _); first | assumption | exact Ne.symm (by assumption)) | ((repeat (rename (@Ne _ _ _) => hzne; clear hzne)); (repeat (rename (@Ne _ _ _ ∧ _) => hzne; clear hzne)); (repeat (rename ((@Ne _ _ _ ∧ _) ∧ _) => hzne; clear hzne)); omega +splitDisjunctions) | omega +splitDisjunctions)

noncomputable def stStopStep (cl : List Int) (n : Nat) (st : List Int) : List Int := if st.getD (st.length - 1) 0 < (n : Int) then st ++ [((bisR cl (st.getD (st.length - 1) 0) cl.length 0 cl.length : Nat) : Int)] else st
noncomputable def closedR (ns : List Int) : List Int := (rangeKs 0 ((ns.length : Int) - 0).toNat).map fun k => k - ns.getD k.toNat 0
noncomputable def stopsR (ns : List Int) : List Int := (List.range ns.length).foldl (fun st _ => stStopStep (closedR ns) ns.length st) [0]

theorem stops_spec {w : World} {p : Program} {loose : List Str} {mg mb : Str → Option Value}
  {s : Shared} {Q E : Value → Shared → Prop} {l : Addr} {vs : List Value} {ns : List Int}
  (g : G w p loose mg mb s.heap) (hl : s.heap.IsList l vs.toArray) (hi : IntsAre vs ns) (hlen : ns.length < 100)
  (hret : ∀ r (its : List Value) n s', s'.heap.get? r = some { cls := .type "list", data := .seq its.toArray n } → s.heap.get? r = none → IntsAre its (stopsR ns) → Ev [] s s' → Q (.ref r) s') :
  wpAny (model PySem.Challenge.rw_us0006_01.row.prog w) (UU 470 1700) (call (.ref 175) [.ref l]) Q E s := by
  have X := g.X
  revert X; k_fill; intro X
  refine' enterC (pos := [.ref l]) (kw := []) (binds := [("heights", .ref l)]) g ?ho ?hcd ?hb ?hl ?hc ?_ ?hr ?h1 ?h2 ?h3
  case ho => k_is
  case hcd => k_is
  case hb => exact kp_binds X (fun _ => rfl)
  case hl => exact kindsX rfl
  case hc => decide
  case hr => exact Nat.le_of_ble_eq_true rfl
  case h1 => rfl
  case h2 => rfl
  case h3 => rfl
  intro L h₁ tk cells F N Y X T
  obtain ⟨o1, hE, d1⟩ := CellsAre.one (n := "heights") (c := L + 1) Y
  subst hE
  have d1' : o1.data = .cell (some (.ref l)) := d1
  clear Y d1
  k_steps
  refine ⟨?_⟩
  (rename Fr _ _ _ _ => F0); (rename News _ _ _ _ => N0)
  rename_i dl hb0 tk0 ho1 sl hb1 hlt hb3
  rename List Value => ys
  (rename IntsAre ys _ => hys); (rename (ys.length = _) => hyl)
  have hys : IntsAre ys (closedR ns) := hys
  have hcl : (closedR ns).length = ns.length := by rw [← hys.length, hyl, List.length_map]; simp [rangeKs]
  refine for_walk (h₀ := s.heap) (n := ns.length) (Pt := fun i v => ∃ t, v = .int (i : Int) t) (σ := List Int × List Value × Nat) (fun c => [(sl, { cls := .type "list", data := .seq c.2.1.toArray c.2.2 }), (dl, LCg.lst ys), (L + 1, o1)])
    (fun c => [("stops", .ref sl), ("closed", .ref dl)]) (fun i c s' => Sh s s' ∧ c.1 = (List.range i).foldl (fun st _ => stStopStep (closedR ns) ns.length st) [0] ∧ IntsAre c.2.1 c.1 ∧ c.1.length ≤ i + 1 ∧ 1 ≤ c.1.length) [sl, dl, L + 1] (fun _ => rfl) rfl rfl (fun _ _ _ _ _ h => ⟨h.1.to, h.2⟩) ?_ ?_ ?hn1 ?_ (fun _ => rfl)
  case hn1 => intro c; simp only [List.forall_mem_cons]; decide
  · k_with "pyIter ref" => (refine stop ?_)
    k_steps
    (rename Fr _ _ _ _ => F1); (rename News _ _ _ _ => N1); (rename IsRange _ _ _ _ _ _ _ _ => hR)
    refine ⟨?_⟩
    refine iter_range ([0], [.int 0 _], 0) rfl hR (small1 (by decide) (by decide) (by omega) (by omega)) ?_ ?_ F1 N1 (fun p hp => hp) (by walk_at "m_all") (fun h => ⟨⟨rfl, rfl, id⟩, rfl, .cons _ _ .nil, Nat.le_refl _, Nat.le_refl _⟩)
    · first | exact range0 rfl | (rw [rangeSize1 (by decide) (by omega)]; omega)
    · exact fun i t _ => ⟨t, by rw [Int.zero_add]⟩
  · (rintro i ⟨st, ws, nn⟩ v u s2 own hi2 ⟨tv, rfl⟩ hz1 F1 N1 hap; refine goal_cut fun Gz hGz => ?_; obtain ⟨hs, hst, hI, hln, hln1⟩ := hz1; refine hGz ?_; clear hGz Gz)
    dsimp only [List.cons_append, List.nil_append] at F1 N1 hap hst hI hln hln1
    have hvl := hI.length
    have hsm : ws.toArray.size ≤ sizeLine := by rw [List.size_toArray, sizeLine_eq]; omega
    have hap4 : ∀ p ∈ (dl, LCg.lst ys) :: (L + 1, o1) :: own, p.1 ≠ sl := fun p hp => by
      rcases List.mem_cons.mp hp with rfl | hp
      · exact Nat.ne_of_lt hlt.1
      · rcases List.mem_cons.mp hp with rfl | hp
        · exact Nat.ne_of_lt hlt.2
        · exact hap _ (List.mem_cons_self ..) p hp
    k_with "call ref" => (refine stop ?_)
    have eL : (-1 + (st.length : Int)).toNat = st.length - 1 := tn_pred _
    k_steps
    · (rename (_ < (ns.length : Int)) => hc)
      rw [eL] at hc
      refine ⟨?_⟩
      refine of_U (bisR_spec (vs := ys) (ns := closedR ns) (g.keeps (by exact F1.keep)) (by exact N1.isList (.tail _ (.head _))) hys (by omega) ?_)
      intro t3 s3 sm3 hk3
      have F3 := fr_move' F1 (by exact hk3 _) (fun b o e => hk3 b o (F1.keep b o e))
      have N3 : News s.heap L s3.heap ((sl, { cls := .type "list", data := .seq ws.toArray nn }) :: (dl, LCg.lst ys) :: (L + 1, o1) :: own) := fun q hq => ⟨hk3 _ _ (N1 q hq).1, (N1 q hq).2⟩
      clear F1 N1
      k_steps
      (rename Fr _ _ _ _ => F4); (rename News _ _ _ _ => N4)
      rw [eL] at N4
      have sh6 : Sh s s3 := hs.trans (Same.sh (s := s2) ⟨sm3.gens, sm3.drawn, sm3.os⟩)
      have ed : stStopStep (closedR ns) ns.length st = st ++ [((bisR (closedR ns) (st.getD (st.length - 1) 0) (closedR ns).length 0 (closedR ns).length : Nat) : Int)] := by unfold stStopStep; rw [if_pos hc]
      refine ⟨(stStopStep (closedR ns) ns.length st, ws ++ [.int ((bisR (closedR ns) (st.getD (st.length - 1) 0) (closedR ns).length 0 (closedR ns).length : Nat) : Int) t3], nn + 1), _, _, ⟨sh6.to, ?g1, ?g2, ?g3, ?g4⟩, F4, N4, fun p hp => ?_, fun p hp => List.mem_cons_of_mem _ (List.mem_cons_of_mem _ (List.mem_cons_of_mem _ hp)), ?g6⟩
      case g6 => walk_at "m_all"
      case g1 => dsimp only; rw [List.range_succ, List.foldl_append, ← hst]; rfl
      case g2 => rw [ed]; exact hI.append (.cons _ _ .nil)
      case g3 => rw [ed]; dsimp only; rw [List.length_append, List.length_singleton]; omega
      case g4 => rw [ed]; dsimp only; rw [List.length_append, List.length_singleton]; omega
      dsimp only at hp
      rw [← List.push_toArray] at hp
      rcases List.mem_cons.mp hp with rfl | hp
      · exact List.mem_cons_self ..
      · rcases List.mem_cons.mp hp with rfl | hp
        · exact List.mem_cons_of_mem _ (List.mem_cons_self ..)
        · rw [List.mem_singleton.mp hp]; exact List.mem_cons_of_mem _ (List.mem_cons_of_mem _ (List.mem_cons_self ..))
    · (rename (¬ _ < (ns.length : Int)) => hc)
      rw [eL] at hc
      have ed : stStopStep (closedR ns) ns.length st = st := by unfold stStopStep; rw [if_neg hc]
      refine ⟨(stStopStep (closedR ns) ns.length st, ws, nn), _, _, ⟨hs.to, ?h1, ?h2, ?h3, ?h4⟩, F1, N1, fun p hp => ?_, fun p hp => List.mem_cons_of_mem _ (List.mem_cons_of_mem _ (List.mem_cons_of_mem _ hp)), ?h6⟩
      case h6 => walk_at "m_all"
      case h1 => dsimp only; rw [List.range_succ, List.foldl_append, ← hst]; rfl
      case h2 => rw [ed]; exact hI
      case h3 => rw [ed]; dsimp only; omega
      case h4 => rw [ed]; exact hln1
      rcases List.mem_cons.mp hp with rfl | hp
      · exact List.mem_cons_self ..
      · rcases List.mem_cons.mp hp with rfl | hp
        · exact List.mem_cons_of_mem _ (List.mem_cons_self ..)
        · rw [List.mem_singleton.mp hp]; exact List.mem_cons_of_mem _ (List.mem_cons_of_mem _ (List.mem_cons_self ..))
  · (rintro ⟨st, ws, nn⟩ u s2 hz1 F1 N1; refine goal_cut fun Gz hGz => ?_; obtain ⟨hs, hst, hI, hln, hln1⟩ := hz1; refine hGz ?_; clear hGz Gz)
    dsimp only at F1 N1 hst hI hln
    have hq : ∀ tk, Q (.ref sl) { s2 with toks := tk } := fun tk => hret sl ws nn _ (N1 _ (.head _)).1 (N1 _ (.head _)).2.2 (by rw [show stopsR ns = st from hst.symm]; exact hI) (hs.to.ev fun b o _ e => F1.keep b o e)
    k_steps
    exact hq _
end

-- part K1
section
/-- what the walk over a source needs -/
structure Src (prog : Program) (w : World) (A : Around) (h₀ : Heap) (L I : Addr) (m : Str → Option Value) (news : List (Addr × Obj)) (n : Nat) (P : Nat → Value → Prop) (s : Shared) : Prop where
  hh : A.handled = none
  walks : ∃ fp St, Walks prog w A I fp [I] n P St ∧ St 0 s.heap ∧ ∀ b ∈ fp, b < s.heap.objs.size
  fr : Fr h₀ L s.heap m
  ne : News h₀ L s.heap news
  off : ∀ p ∈ news, p.1 ≠ I
  offL : I ≠ L
  new : h₀.get? I = none

section
variable {prog : Program} {w : World} {A : Around} {E : Value → Shared → Prop} {s : Shared} {h₀ : Heap} {L : Addr} {m : Str → Option Value} {news : List (Addr × Obj)}

theorem src_list {l : Addr} {items : Array Value} {n : Nat} {P : Nat → Value → Prop} {Q : Value → Shared → Prop} (hh : A.handled = none) (F : Fr h₀ L s.heap m) (N : News h₀ L s.heap news) (hl : s.heap.IsList l items) (hn : items.size = n) (hP : ∀ i v, i < n → items[i]? = some v → P i v)
    (h : ∀ I h', Src prog w A h₀ L I m news n P { s with heap := h' } → Q (.ref I) { s with heap := h' }) : wpAny (model prog w) A (pyIter (.ref l)) Q E s := by
  have hnew : s.heap.get? s.heap.objs.size = none := by
    cases e : s.heap.get? s.heap.objs.size with
    | none => rfl
    | some o => exact absurd (Heap.lt_size e) (Nat.lt_irrefl _)
  obtain ⟨o, ho, _⟩ := id hl
  have hlt := Heap.lt_size ho
  refine wpAny_pyIter_list hl (h _ _ ⟨hh, ⟨_, _, Walks.imp (hn ▸ Walks.list hh _ l (Nat.ne_of_lt hlt) items) hP, ⟨⟨_, Heap.get?_push_size _ rfl, rfl, rfl⟩, hl.push _⟩, fun b hb => ?_⟩, F.keeps fun b o e => Heap.get?_push_of_some _ e, fun p hp => ⟨Heap.get?_push_of_some _ (N p hp).1, (N p hp).2⟩, fun p hp e => ?_, fun e => ?_, ?_⟩)
  · show b < (s.heap.push _).objs.size
    rw [Heap.size_push]
    rcases List.mem_cons.mp hb with rfl | hb
    · exact Nat.lt_succ_self _
    · rw [List.mem_singleton.mp hb]; exact Nat.lt_succ_of_lt hlt
  · have := (N p hp).1; rw [e, hnew] at this; cases this
  · obtain ⟨oL, _, _, hoL, _⟩ := id F.ns
    rw [← e, hnew] at hoL; cases hoL
  · cases e : h₀.get? s.heap.objs.size with
    | none => rfl
    | some o => have := F.keep _ _ e; rw [hnew] at this; cases this

theorem src_range {r : Addr} {a b : Int} {t u v : Tok} {n : Nat} {Q : Value → Shared → Prop} (hh : A.handled = none) (F : Fr h₀ L s.heap m) (N : News h₀ L s.heap news) (hr : IsRange s.heap r a b 1 t u v) (hsmall : Builtin.Range.small a b 1 = true) (hn : Builtin.Range.rangeSize a b 1 = n)
    (h : ∀ I h', Src prog w A h₀ L I m news n (fun i v => ∃ t, v = .int (a + i) t) { s with heap := h' } → Q (.ref I) { s with heap := h' }) : wpAny (model prog w) A (pyIter (.ref r)) Q E s := by
  have hnew : s.heap.get? s.heap.objs.size = none := by
    cases e : s.heap.get? s.heap.objs.size with
    | none => rfl
    | some o => exact absurd (Heap.lt_size e) (Nat.lt_irrefl _)
  refine wpAny_pyIter_range hr hsmall (h _ _ ⟨hh, ⟨_, _, Walks.imp (Walks.range hh _ a 1 n) (fun i v hi ⟨t, e⟩ => ⟨t, by rw [e, Int.mul_one]⟩), ?_, fun b hb => ?_⟩, F.keeps fun b o e => Heap.get?_push_of_some _ e, fun p hp => ⟨Heap.get?_push_of_some _ (N p hp).1, (N p hp).2⟩, fun p hp e => ?_, fun e => ?_, ?_⟩)
  · show Heap.get? _ _ = _
    rw [hn]
    refine (Heap.get?_push_size _ rfl).trans ?_
    simp
  · rw [List.mem_singleton.mp hb]
    show s.heap.objs.size < (s.heap.push _).objs.size
    rw [Heap.size_push]; exact Nat.lt_succ_self _
  · have := (N p hp).1; rw [e, hnew] at this; cases this
  · obtain ⟨oL, _, _, hoL, _⟩ := id F.ns
    rw [← e, hnew] at hoL; cases hoL
  · cases e : h₀.get? s.heap.objs.size with
    | none => rfl
    | some o => have := F.keep _ _ e; rw [hnew] at this; cases this

structure CompEl (RB : Value → Value → Prop) (v : Value) (s₃ : Shared) (y : Value) (s₄ : Shared) : Prop where
  out : RB v y
  keeps : Keeps s₃ s₄

/-- a list comprehension without tests whose element changes nothing -/
theorem comp_gen {env : Env} {elt iter : Expr} {x : Str} {px : Pos} {scope : Scope} {cl : List (Str × Addr)} {pos : Pos} {Q : Value → Shared → Prop} {n : Nat} {P : Nat → Value → Prop} (RB : Value → Value → Prop)
    (hclos : closureFor scope env = pure cl) (hcell : ∀ y ∈ scope.names, y.2 ≠ .cell) (hkind : scope.kind = .function)
    (hnames : ∀ y ∈ scope.names, y.2 = .local → scope.names.lookup y.1 = some .local) (hx : scope.names.lookup x = some .local) (hsz : n ≤ sizeLine)
    (h : wpAny (model prog w) A (eval iter env) (fun xv s₁ => wpAny (model prog w) A (pyIter xv) (fun it s₂ => ∃ I m news, it = .ref I ∧ Src prog w A h₀ L I m news n P s₂ ∧
      (∀ C v s₃ m₃ E', (∃ i, P i v) → Fr h₀ C s₃.heap m₃ → m₃ x = some v → News h₀ C s₃.heap news → wpAny (model prog w) A (eval elt (compEnvC scope cl C env)) (CompEl RB v s₃) E' s₃) ∧
      (∀ D h' tk (vs ys : List Value) k, Fr h₀ L h' m → News h₀ L h' ((D, { cls := .type "list", data := .seq ys.toArray k }) :: news) → (∀ q ∈ news, @Ne Nat D q.1) → vs.length = n → (∀ j v, vs[j]? = some v → P j v) → Paired RB vs ys → Q (.ref D) { s₂ with heap := h', toks := tk })) E s₁) E s)
    (hs : ∀ x, foldedSetIterable iter env x = pure x := by intro _; rfl) :
    wpAny (model prog w) A (eval (.ListComp elt [⟨.Name x px, iter, [], 0⟩] scope pos) env) Q E s := by
  refine wpAny_ListComp_free (fun _ => true) RB hclos hcell hkind hnames hx (wpAny_mono h (fun xv s₁ h₁ => wpAny_mono h₁ (fun it s₂ h₂ => ?_) fun _ _ e => e) fun _ _ e => e) hs
  obtain ⟨I, m, news, rfl, S, hel, hfin⟩ := h₂
  obtain ⟨fp, St, W, hst, hfp⟩ := S.walks
  have hLlt : L < s₂.heap.objs.size := S.fr.ns.lt
  refine ⟨I, fp, [I], n, P, St, rfl, W, hsz, hst, hfp, ⟨fun C i v s₃ m₃ E' _ _ _ _ _ _ => wpAny_tests_nil ⟨rfl, _, _, rfl, fun _ _ e => e⟩, fun C i v s₃ m₃ E' hC hP _ hn hm hk _ => ?_⟩, ?_⟩
  · have kI : ∀ b o, b ≠ I → s₂.heap.get? b = some o → s₃.heap.get? b = some o := fun b o hb e => hk b o (fun hm => hb (List.mem_singleton.mp hm)) e
    refine wpAny_mono (hel C v s₃ m₃ E' ⟨i, hP⟩ ⟨hn, fun b o e => kI b o (fun q => by rw [q, S.new] at e; cases e) (S.fr.keep b o e), Nat.le_trans S.fr.above (Nat.le_trans (Nat.le_of_lt hLlt) hC)⟩ hm fun p hp => ⟨kI _ _ (S.off p hp) (S.ne p hp).1, ?_, (S.ne p hp).2.2⟩) (fun y s₄ h₄ => ⟨h₄.out, h₄.keeps⟩) fun _ _ e => e
    exact Nat.ne_of_lt (Nat.lt_of_lt_of_le (Heap.lt_size (S.ne p hp).1) hC)
  · intro D h' tk ys vs hD hl hpl hlen hP hF hk
    have kI : ∀ b o, b ≠ I → s₂.heap.get? b = some o → h'.get? b = some o := fun b o hb e => hk b o (fun hm => hb (List.mem_singleton.mp hm)) e
    obtain ⟨kd, hpl⟩ := hpl
    have hDL : D ≠ L := fun e => by
      obtain ⟨oL, _, _, hoL, _⟩ := id S.fr.ns
      rw [← e, hD] at hoL; cases hoL
    have hD0 : h₀.get? D = none := by
      cases e : h₀.get? D with
      | none => rfl
      | some o => have := S.fr.keep _ _ e; rw [hD] at this; cases this
    rw [show vs.filter (fun _ => true) = vs from filter_allG vs] at hF
    refine hfin D h' tk vs ys.toList kd (fr_move' S.fr (fun o e => kI L o S.offL.symm e) (fun b o e => kI b o (fun q => by rw [q, S.new] at e; cases e) (S.fr.keep b o e))) (fun p hp => ?_) (fun q hq => ne_get hD (S.ne q hq).1) hlen hP hF
    rcases List.mem_cons.mp hp with rfl | hp
    · exact ⟨by rw [Array.toArray_toList]; exact hpl, hDL, hD0⟩
    · exact ⟨kI _ _ (S.off p hp) (S.ne p hp).1, (S.ne p hp).2⟩
end
theorem paired_len {α β : Type} {R : α → β → Prop} : ∀ {l : List α} {k : List β}, Paired R l k → l.length = k.length := by
  intro l k h
  induction h with
  | nil => rfl
  | cons _ _ ih => exact congrArg (· + 1) ih
end

-- part K2
section
structure CEl (R : Value → Prop) (s₃ : Shared) (y : Value) (s₄ : Shared) : Prop where
  out : R y
  keeps : Keeps s₃ s₄
section
variable {prog : Program} {w : World} {A : Around} {E : Value → Shared → Prop} {s : Shared} {h₀ : Heap} {L : Addr}
theorem paired_mem {α : Type} {R : Value → Value → Prop} {R' : α → Value → Prop} {V : α → Value → Prop} : ∀ {vs ys : List Value} {as : List α}, Paired V as vs → Paired R vs ys → (∀ a v y, a ∈ as → V a v → R v y → R' a y) → Paired R' as ys := by
  intro vs ys as h1
  induction h1 generalizing ys with
  | nil => intro h2 _; cases h2; exact .nil
  | cons h t ih =>
    intro h2 hh
    cases h2 with
    | cons h' t' => exact .cons (hh _ _ _ (List.mem_cons_self ..) h h') (ih t' fun a v y ha => hh a v y (List.mem_cons_of_mem _ ha))
theorem ints_paired : ∀ {vs : List Value} {ns : List Int}, IntsAre vs ns → Paired (fun (n : Int) (v : Value) => ∃ t, v = .int n t) ns vs := by
  intro vs ns h
  induction h with
  | nil => exact .nil
  | cons _ t _ ih => exact .cons ⟨t, rfl⟩ ih
theorem paired_to_ints {f : Int → Int} : ∀ {ns : List Int} {ys : List Value}, Paired (fun (n : Int) (y : Value) => ∃ t, y = .int (f n) t) ns ys → IntsAre ys (ns.map f) := by
  intro ns ys h
  induction h with
  | nil => exact .nil
  | cons h _ ih => obtain ⟨t, rfl⟩ := h; exact .cons _ _ ih
theorem paired_to_strs {f : Int → Str} : ∀ {ns : List Int} {ys : List Value}, Paired (fun (n : Int) (y : Value) => ∃ t, y = .str (f n) t) ns ys → StrsAre ys (ns.map f) := by
  intro ns ys h
  induction h with
  | nil => exact .nil
  | cons h _ ih => obtain ⟨t, rfl⟩ := h; exact .cons _ _ ih

theorem comp_ints {env : Env} {elt iter : Expr} {x : Str} {px : Pos} {scope : Scope} {cl : List (Str × Addr)} {pos : Pos} {Q : Value → Shared → Prop} {l : Addr} {its : List Value} {ns : List Int} (RB : Int → Value → Prop)
    (hclos : closureFor scope env = pure cl) (hcell : ∀ y ∈ scope.names, y.2 ≠ .cell) (hkind : scope.kind = .function)
    (hnames : ∀ y ∈ scope.names, y.2 = .local → scope.names.lookup y.1 = some .local) (hx : scope.names.lookup x = some .local) (hsz : ns.length ≤ 1000) (hi : IntsAre its ns) (hh : A.handled = none)
    (h : wpAny (model prog w) A (eval iter env) (fun xv s₁ => Stop (∃ m news, xv = .ref l ∧ Fr h₀ L s₁.heap m ∧ News h₀ L s₁.heap news ∧ s₁.heap.IsList l its.toArray ∧
      (∀ C z t s₃ m₃ E', z ∈ ns → Fr h₀ C s₃.heap m₃ → m₃ x = some (.int z t) → News h₀ C s₃.heap news → wpAny (model prog w) A (eval elt (compEnvC scope cl C env)) (CEl (RB z) s₃) E' s₃) ∧
      (∀ D h' tk (ys : List Value) k, Fr h₀ L h' m → News h₀ L h' ((D, { cls := .type "list", data := .seq ys.toArray k }) :: news) → (∀ q ∈ news, @Ne Nat D q.1) → Paired RB ns ys → Q (.ref D) { s₁ with heap := h', toks := tk }))) E s)
    (hs : ∀ x, foldedSetIterable iter env x = pure x := by intro _; rfl) :
    wpAny (model prog w) A (eval (.ListComp elt [⟨.Name x px, iter, [], 0⟩] scope pos) env) Q E s := by
  refine comp_gen (h₀ := h₀) (L := L) (n := ns.length) (P := fun i v => its[i]? = some v) (fun v y => ∀ z t, v = .int z t → RB z y) hclos hcell hkind hnames hx (Nat.le_trans hsz (by rw [sizeLine_eq]; decide)) (wpAny_mono h (fun xv s₁ h₁ => ?_) fun _ _ e => e) hs
  obtain ⟨⟨m, news, rfl, F, N, hl, hel, hfin⟩⟩ := h₁
  refine src_list hh F N hl (by rw [List.size_toArray]; exact hi.length) (fun i v _ e => by simpa using e) fun I h' S => ⟨I, m, news, rfl, S, fun C v s₃ m₃ E' hv F₃ hm N₃ => ?_, fun D h'' tk vs ys k F₂ N₂ ne hlen hP hF => ?_⟩
  · obtain ⟨i, hv⟩ := hv
    obtain ⟨z, t, rfl⟩ := hi.all v (List.mem_of_getElem? hv)
    have hz : z ∈ ns := by
      have hlt : i < ns.length := by rw [← hi.length]; exact (List.getElem?_eq_some_iff.mp hv).1
      obtain ⟨t', ht'⟩ := hi.get i (ns[i]) (List.getElem?_eq_getElem hlt)
      rw [hv] at ht'
      injection ht' with e; injection e with e1 _
      rw [e1]; exact List.getElem_mem _
    refine wpAny_mono (hel C z t s₃ m₃ E' hz F₃ hm N₃) (fun y s₄ h₄ => ⟨fun z' t' e => ?_, h₄.keeps⟩) fun _ _ e => e
    injection e with e1 _
    exact e1 ▸ h₄.out
  · have hvs : vs = its := by
      apply List.ext_getElem?
      intro j
      rcases Nat.lt_or_ge j vs.length with hj | hj
      · rw [List.getElem?_eq_getElem hj]; exact (hP j _ (List.getElem?_eq_getElem hj)).symm
      · rw [List.getElem?_eq_none hj, List.getElem?_eq_none (by rw [hi.length, ← hlen]; exact hj)]
    subst hvs
    exact hfin D h'' tk ys k F₂ N₂ ne (paired_mem (ints_paired hi) hF fun a v y _ hv hr => by obtain ⟨t, e⟩ := hv; exact hr a t e)

end
section
variable {M : Model} {A : Around} {E : Value → Shared → Prop} {s : Shared} {h₀ : Heap} {C c : Addr} {o : Obj} {m : Str → Option Value} {news : List (Addr × Obj)} {env : Env} {x : Str} {v : Value} {pos : Pos} {Q : Value → Shared → Prop}
theorem nameL (F : Fr h₀ C s.heap m) (hC : env.locals = C) (hm : m x = some v) (h : Q v s) (hk : env.scope.kind = .function := by rfl) (hl : env.kindOf x = some .local := by rfl) (hd : (x == ("__debug__" : Str)) = false := by decide) :
    wpAny M A (eval (.Name x pos) env) Q E s := wpAny_Name (wpAny_loadName_local hk hl (hC ▸ F.ns) hm h) hd
theorem nameCl (N : News h₀ C s.heap news) (hm : (c, o) ∈ news) (ho : o.data = .cell (some v)) (h : Q v s) (hc : env.cells.lookup x = some c := by rfl) (hk : env.scope.kind = .function := by rfl) (hl : env.kindOf x = some .cell := by rfl) (hd : (x == ("__debug__" : Str)) = false := by decide) :
    wpAny M A (eval (.Name x pos) env) Q E s := wpAny_Name (wpAny_loadName_cell hk hl hc ⟨o, (N _ hm).1, ho⟩ h) hd
end
end

-- part K3
section
section
variable {prog : Program} {w : World} {A : Around} {E : Value → Shared → Prop} {s : Shared} {h₀ : Heap} {L : Addr} {m : Str → Option Value}
/-- an element's end -/
structure AnyEnd (h₀ : Heap) (L : Addr) (m : Str → Option Value) (s₁ : Shared) (I : Addr) (oI : Obj) (C : Addr) (oC : Obj) (D : Addr) (ys : List Value) (S : List (Addr × Obj) → Prop) (R : List Value → List (Addr × Obj) → Prop) (y : Value) (s₂ : Shared) : Prop where
  out : ∃ news', Same s₁ s₂ ∧ Fr h₀ L s₂.heap m ∧ News h₀ L s₂.heap ((I, oI) :: (C, oC) :: (D, LCg.lst ys) :: news') ∧ LCg.Off3 I C D news' ∧ S news' ∧ R (ys ++ [y]) news'

theorem same_eq {s s' : Shared} (h : Same s s') : ∃ h' tk, s' = { s with heap := h', toks := tk } := by
  obtain ⟨hh, g, d, t, o⟩ := s
  obtain ⟨hh', g', d', t', o'⟩ := s'
  obtain ⟨h1, h2, h3⟩ := h
  dsimp only at h1 h2 h3
  subst h1 h2 h3
  exact ⟨_, _, rfl⟩

theorem rest_any {env : Env} {elt : Expr} {x : Str} {scope : Scope} {cl : List (Str × Addr)} {S : List (Addr × Obj) → Prop} {P : Nat → Value → Prop} {Fin : List Value → List (Addr × Obj) → Prop} {n : Nat} (Inv : Nat → List Value → List (Addr × Obj) → Prop)
    (hel : ∀ i ys news v I oI C oC D m₂ h tk (E' : Value → Shared → Prop), i < n → P i v → Inv i ys news → LCg.NsObj oC m₂ → m₂ x = some v → Fr h₀ L h m → News h₀ L h ((I, oI) :: (C, oC) :: (D, LCg.lst ys) :: news) → LCg.Off3 I C D news → (@Ne Nat I C ∧ @Ne Nat I D ∧ @Ne Nat C D) →
      wpAny (model prog w) A (eval elt (compEnvC scope cl C env)) (AnyEnd h₀ L m { s with heap := h, toks := tk } I oI C oC D ys S (Inv (i + 1))) E' { s with heap := h, toks := tk })
    (hfin : ∀ ys news, Inv n ys news → Fin ys news) : ∀ k i ys news, i + k = n → Inv i ys news → LCg.CompRest prog w A h₀ L m env elt x scope cl s S P Fin k i ys news
  | 0, i, ys, news, hk, hI => hfin ys news (by rw [Nat.add_zero] at hk; exact hk ▸ hI)
  | k + 1, i, ys, news, hk, hI => LCg.CompRest.succ fun v I oI C oC D m₂ h tk E' hP hC hx F N off ne =>
      wpAny_mono (hel i ys news v I oI C oC D m₂ h tk E' (by omega) hP hI hC hx F N off ne) (fun y s₂ ⟨⟨news', sm, F', N', off', hS, hR⟩⟩ => by
        obtain ⟨h', tk', rfl⟩ := same_eq sm
        exact ⟨h', tk', news', rfl, F', N', off', hS, rest_any Inv hel hfin k (i + 1) (ys ++ [y]) news' (by omega) hR⟩) fun _ _ e => e

theorem comp_any {env : Env} {elt iter : Expr} {x : Str} {px : Pos} {scope : Scope} {cl : List (Str × Addr)} {pos : Pos} {Q : Value → Shared → Prop} {l : Addr} {its : List Value} (Inv : Nat → List Value → List (Addr × Obj) → Prop)
    (F₀ : Fr h₀ L s.heap m) (hclos : closureFor scope env = pure cl) (hcell : ∀ y ∈ scope.names, y.2 ≠ .cell) (hkind : scope.kind = .function)
    (hnames : ∀ y ∈ scope.names, y.2 = .local → scope.names.lookup y.1 = some .local) (hx : scope.names.lookup x = some .local) (hsz : its.length ≤ 1000) (hh : A.handled = none)
    (h : wpAny (model prog w) A (eval iter env) (fun xv s₁ => Stop (∃ news, xv = .ref l ∧ Fr h₀ L s₁.heap m ∧ News h₀ L s₁.heap news ∧ LCg.SrcAt h₀ l its.toArray news ∧ Inv 0 [] news ∧
      (∀ i ys news v I oI C oC D m₂ h tk (E' : Value → Shared → Prop) (s₁' : Shared), Same s₁ s₁' → i < its.length → its[i]? = some v → Inv i ys news → LCg.NsObj oC m₂ → m₂ x = some v → Fr h₀ L h m → News h₀ L h ((I, oI) :: (C, oC) :: (D, LCg.lst ys) :: news) → LCg.Off3 I C D news → (@Ne Nat I C ∧ @Ne Nat I D ∧ @Ne Nat C D) →
        wpAny (model prog w) A (eval elt (compEnvC scope cl C env)) (AnyEnd h₀ L m { s₁' with heap := h, toks := tk } I oI C oC D ys (LCg.SrcAt h₀ l its.toArray) (Inv (i + 1))) E' { s₁' with heap := h, toks := tk }) ∧
      (∀ D h tk ys news (s₁' : Shared), Same s₁ s₁' → Inv its.length ys news → Fr h₀ L h m → News h₀ L h ((D, LCg.lst ys) :: news) → LCg.Off1 D news → Q (.ref D) { s₁' with heap := h, toks := tk }))) E s)
    (hs : ∀ x, foldedSetIterable iter env x = pure x := by intro _; rfl) :
    wpAny (model prog w) A (eval (.ListComp elt [⟨.Name x px, iter, [], 0⟩] scope pos) env) Q E s := by
  refine LCg.ListComp_U F₀ hclos hcell hkind hnames hx (wpAny_mono h (fun xv s₁ h₁ => ?_) fun _ _ e => e) hs
  obtain ⟨⟨news, rfl, F, N, hS, hI, hel, hfin⟩⟩ := h₁
  have hsz' : its.toArray.size ≤ sizeLine := by rw [List.size_toArray]; exact Nat.le_trans hsz (by rw [sizeLine_eq]; decide)
  refine .inl ⟨l, its.toArray, news, rfl, hh, F, N, hS, hsz', fun s₂ hs₂ => ?_⟩
  obtain ⟨g, rfl⟩ := hs₂
  have sm : Same s₁ { s₁ with heap := g } := ⟨rfl, rfl, rfl⟩
  refine rest_any (n := its.length) Inv (fun i ys news v I oI C oC D m₂ h tk E' hi hP hI hC hx F N off ne => hel i ys news v I oI C oC D m₂ h tk E' _ sm hi (by simpa using hP) hI hC hx F N off ne) (fun ys news hI D h tk F N off => hfin D h tk ys news _ sm hI F N off) _ 0 [] news (by rw [List.size_toArray]; omega) hI

theorem comp_any_range {env : Env} {elt iter : Expr} {x : Str} {px : Pos} {scope : Scope} {cl : List (Str × Addr)} {pos : Pos} {Q : Value → Shared → Prop} {a b : Int} {n : Nat} (Inv : Nat → List Value → List (Addr × Obj) → Prop)
    (F₀ : Fr h₀ L s.heap m) (hclos : closureFor scope env = pure cl) (hcell : ∀ y ∈ scope.names, y.2 ≠ .cell) (hkind : scope.kind = .function)
    (hnames : ∀ y ∈ scope.names, y.2 = .local → scope.names.lookup y.1 = some .local) (hx : scope.names.lookup x = some .local) (hsz : n ≤ 1000) (hh : A.handled = none)
    (hsmall : Builtin.Range.small a b 1 = true) (hn : Builtin.Range.rangeSize a b 1 = n)
    (h : wpAny (model prog w) A (eval iter env) (fun xv s₁ => Stop (∃ r tr ur vr news, xv = .ref r ∧ Fr h₀ L s₁.heap m ∧ News h₀ L s₁.heap news ∧ IsRange s₁.heap r a b 1 tr ur vr ∧ Inv 0 [] news ∧
      (∀ i ys news t I oI C oC D m₂ h tk (E' : Value → Shared → Prop) (s₁' : Shared), Same s₁ s₁' → i < n → Inv i ys news → LCg.NsObj oC m₂ → m₂ x = some (.int (a + (i : Int)) t) → Fr h₀ L h m → News h₀ L h ((I, oI) :: (C, oC) :: (D, LCg.lst ys) :: news) → LCg.Off3 I C D news → (@Ne Nat I C ∧ @Ne Nat I D ∧ @Ne Nat C D) →
        wpAny (model prog w) A (eval elt (compEnvC scope cl C env)) (AnyEnd h₀ L m { s₁' with heap := h, toks := tk } I oI C oC D ys (fun _ => True) (Inv (i + 1))) E' { s₁' with heap := h, toks := tk }) ∧
      (∀ D h tk ys news (s₁' : Shared), Same s₁ s₁' → Inv n ys news → Fr h₀ L h m → News h₀ L h ((D, LCg.lst ys) :: news) → LCg.Off1 D news → Q (.ref D) { s₁' with heap := h, toks := tk }))) E s)
    (hs : ∀ x, foldedSetIterable iter env x = pure x := by intro _; rfl) :
    wpAny (model prog w) A (eval (.ListComp elt [⟨.Name x px, iter, [], 0⟩] scope pos) env) Q E s := by
  refine LCg.ListComp_U F₀ hclos hcell hkind hnames hx (wpAny_mono h (fun xv s₁ h₁ => ?_) fun _ _ e => e) hs
  obtain ⟨⟨r, tr, ur, vr, news, rfl, F, N, hr, hI, hel, hfin⟩⟩ := h₁
  refine .inr ⟨r, a, b, tr, ur, vr, n, news, rfl, hh, F, N, hr, hsmall, hn, Nat.le_trans hsz (by rw [sizeLine_eq]; decide), fun s₂ hs₂ => ?_⟩
  obtain ⟨g, rfl⟩ := hs₂
  have sm : Same s₁ { s₁ with heap := g } := ⟨rfl, rfl, rfl⟩
  refine rest_any (n := n) Inv (fun i ys news v I oI C oC D m₂ h tk E' hi hP hI hC hx F N off ne => ?_) (fun ys news hI D h tk F N off => hfin D h tk ys news _ sm hI F N off) _ 0 [] news (by omega) hI
  obtain ⟨t, rfl⟩ := hP
  exact hel i ys news t I oI C oC D m₂ h tk E' _ sm hi hI hC hx F N off ne
theorem item_tbl {value slice : Expr} {l : Addr} {its : Array Value} {n : Nat} {tbl : List Str} {k : Int} {u : Tok} {news : List (Addr × Obj)} {Q : Value → Shared → Prop} (N : News h₀ L s.heap news) (hm : (l, ({ cls := .type "list", data := .seq its n } : Obj)) ∈ news) (hS : StrsAre its.toList tbl) (h0 : 0 ≤ k) (h1 : k < tbl.length) (h2 : tbl.length ≤ 1000)
    (h : ∀ t, Q (.str (tbl.getD k.toNat Str.empty) t) s)
    (hs : subscripted slice false (.ref l) (.int k u) = operate [.ref l, .int k u] (getItem (.ref l) (.int k u)) := by with_unfolding_all rfl) (hg : ∀ r, letTemporaryGo value (.ref l) r = pure () := by intro _; with_unfolding_all rfl) :
    wpAny (model prog w) A (subscriptTail value slice (.ref l) (.int k u)) Q E s := by
  have hlt : k.toNat < tbl.length := by omega
  have he : tbl[k.toNat]? = some (tbl.getD k.toNat Str.empty) := by rw [List.getD_eq_getElem?_getD, List.getElem?_eq_getElem hlt]; rfl
  obtain ⟨t, ht⟩ := hS.at he
  exact item_list (items := its) ⟨_, (N _ hm).1, rfl, _, rfl⟩ h0 (by omega) (by rw [← Array.getElem?_toList]; exact ht) (h t) hs hg
theorem item_intN {value slice : Expr} {l : Addr} {its : List Value} {n : Nat} {ns : List Int} {k : Int} {u : Tok} {news : List (Addr × Obj)} {Q : Value → Shared → Prop} (N : News h₀ L s.heap news) (hm : (l, ({ cls := .type "list", data := .seq its.toArray n } : Obj)) ∈ news) (hS : IntsAre its ns) (h0 : 0 ≤ k) (h1 : k < ns.length) (h2 : ns.length ≤ 1000)
    (h : ∀ t, Q (.int (ns.getD k.toNat 0) t) s)
    (hs : subscripted slice false (.ref l) (.int k u) = operate [.ref l, .int k u] (getItem (.ref l) (.int k u)) := by with_unfolding_all rfl) (hg : ∀ r, letTemporaryGo value (.ref l) r = pure () := by intro _; with_unfolding_all rfl) :
    wpAny (model prog w) A (subscriptTail value slice (.ref l) (.int k u)) Q E s := by
  have hlt : k.toNat < ns.length := by omega
  have he : ns[k.toNat]? = some (ns.getD k.toNat 0) := by rw [List.getD_eq_getElem?_getD, List.getElem?_eq_getElem hlt]; rfl
  obtain ⟨t, ht⟩ := hS.get _ _ he
  exact item_list (items := its.toArray) ⟨_, (N _ hm).1, rfl, _, rfl⟩ h0 (by omega) (by simpa using ht) (h t) hs hg
end
end

-- part HA
section
theorem fresh_HA : True := by
  k_with_none
  exact trivial
local macro_rules | `(tactic| omega) => `(tactic| first | ((with_reducible show _ ≠ _); first | assumption | exact Ne.symm (by assumption)) | ((repeat (rename (@Ne _ _ _) => hzne; clear hzne)); (repeat (rename (@Ne _ _ _ ∧ _) => hzne; clear hzne)); (repeat (rename ((@Ne _ _ _ ∧ _) ∧ _) => hzne; clear hzne)); omega +splitDisjunctions) | omega +splitDisjunctions)
local macro_rules | `(tactic| walk_at "eval ListComp") => `(tactic| (refine stop ?_))
local macro_rules | `(tactic| walk_at "subscriptTail") => `(tactic| (k_dflt (first
  | (refine item_tbl (by assumption) (.head _) (by repeat (first | exact .nil | refine .cons _ _ ?_)) (by assumption) (by assumption) (by decide) ?_; intro _)
  | (refine item_intN (by assumption) (by k_mem) (by assumption) (by omega) (by omega) (by omega) ?_; intro _))))
local macro_rules | `(tactic| walk_at "eval List") => `(tactic| (refine List_ ?_))
local macro_rules | `(tactic| walk_at "exec Assign cons ListComp") => `(tactic| (refine stop ?_))
/-- the law's body and scope -/
noncomputable def lawFd (P : Params) : Option (List Stmt × Scope) :=
  match (hd.heap_1 P).lookup 187 with
  | some ⟨_, _, .func fd, _⟩ => (match fd.body with
    | .stmts b => some (b, fd.scope)
    | _ => none)
  | _ => none
theorem law_all {P : Params} {M : List Stmt → Scope → Prop} {b₀ : List Stmt} {sc₀ : Scope} (e : lawFd P = some (b₀, sc₀)) (h : M b₀ sc₀) : ∀ b sc, lawFd P = some (b, sc) → M b sc := fun b sc e' => by
  have q := Prod.mk.inj (Option.some.inj (e.symm.trans e'))
  rw [← q.1, ← q.2]; exact h
/-- what is known of the top when the law is called -/
structure LawTop (w : World) (p : Program) (loose : List Str) (mean : ExcName → Option Value) (mg mb : Str → Option Value) (h₀ : Heap) : Prop where
  g : G w p loose mg mb h₀
  T : Top p loose mean mg mb h₀
  C : CodeHd h₀ 141 137
  B : Below callerA h₀ [] h₀
noncomputable abbrev LawQ (h₀ : Heap) (s₁ : Shared) (fl : Flow) (s' : Shared) : Prop := FinL h₀ s₁ [(141, 137)] (.ok (.ret (match fl with | .ret v => v | _ => .none))) s'

theorem news_add {h₀ : Heap} {L r : Addr} {s s' : Shared} {o : Obj} {m : Str → Option Value} {news : List (Addr × Obj)} (F : Fr h₀ L s.heap m) (N : News h₀ L s.heap news) (ev : Ev [] s s') (h1 : s'.heap.get? r = some o) (h2 : s.heap.get? r = none) :
    Fr h₀ L s'.heap m ∧ News h₀ L s'.heap ((r, o) :: news) ∧ ∀ q ∈ news, @Ne Nat r q.1 := by
  refine ⟨F.keeps ev.keep, fun q hq => ?_, fun q hq => ?_⟩
  · rcases List.mem_cons.mp hq with rfl | hq
    · refine ⟨h1, ?_, ?_⟩
      · (refine goal_cut fun Gz hGz => ?_; obtain ⟨oL, _, _, hoL, _⟩ := id F.ns; refine hGz ?_; clear hGz Gz)
        exact ne_get h2 hoL
      · cases e : h₀.get? r with
        | none => rfl
        | some o => have := F.keep _ _ e; rw [h2] at this; cases this
    · exact ⟨ev.keep _ _ (N q hq).1, (N q hq).2⟩
  · exact ne_get h2 (N q hq).1
theorem nodup_off {r : Nat} {l : List Nat} {q : List (Addr × Obj)} (e : q.map (fun p => (p.1 : Nat)) = l) (h : Stop (∀ p ∈ q, @Ne Nat r p.1)) (hn : l.Nodup) : (r :: l).Nodup := by
  obtain ⟨h⟩ := h
  subst e
  refine List.nodup_cons.mpr ⟨fun hm => ?_, hn⟩
  obtain ⟨p, hp, e⟩ := List.mem_map.mp hm
  exact h p hp e.symm
theorem ndL {L : Nat} (h : ∀ k : Nat, @Ne Nat 137 (L + k)) : List.Nodup (α := Nat) [L + 5, L + 4, L + 3, L + 2, L + 1, 137] := by
  have key : ∀ (i j : Nat), i ≠ j → L + i ≠ L + j := fun i j hij e => hij (Nat.add_left_cancel e)
  have k2 : ∀ i : Nat, L + i ≠ 137 := fun i e => h i e.symm
  refine List.nodup_cons.mpr ⟨fun hm => ?_, List.nodup_cons.mpr ⟨fun hm => ?_, List.nodup_cons.mpr ⟨fun hm => ?_, List.nodup_cons.mpr ⟨fun hm => ?_, List.nodup_cons.mpr ⟨fun hm => ?_, List.nodup_cons.mpr ⟨fun hm => (List.not_mem_nil hm), List.nodup_nil⟩⟩⟩⟩⟩⟩ <;>
    (simp only [List.mem_cons, List.not_mem_nil, or_false, k2, Nat.add_left_cancel_iff] at hm; try (revert hm; decide))
theorem levR_len (xs : List Int) (h : 0 < xs.length) : (levR xs).length = xs.length := by
  have key : ∀ (l : List Int) (acc : List Int), (l.foldl levStep acc).length = acc.length + l.length := by
    intro l
    induction l with
    | nil => intro acc; rfl
    | cons x r ih => intro acc; rw [List.foldl_cons, ih]; unfold levStep; simp; omega
  unfold levR
  rw [key, List.length_take]; simp; omega
noncomputable def figF (x : Int) : Int := Int.fmod (Int.fdiv x 60) 64
noncomputable def wordF (fs : List Int) (z : Int) : Str := Txt.item (Str.ofString "abcdef") z ++ ([Str.ofString "", Str.ofString " ", Str.ofString "\"", Str.ofString "\\", Str.ofString "\n", Str.ofString "#"].getD (Int.fmod (fs.getD z.toNat 0) 6).toNat Str.empty)
theorem figF_bd {xs : List Int} (h : ∀ x ∈ xs, 0 ≤ x ∧ x < 69120) (k : Nat) : 0 ≤ (xs.map figF).getD k 0 ∧ (xs.map figF).getD k 0 < 64 := by
  rw [List.getD_eq_getElem?_getD]
  cases e : (xs.map figF)[k]? with
  | none => exact ⟨Int.le_refl _, by decide⟩
  | some z =>
    obtain ⟨x, hx, rfl⟩ := List.mem_map.mp (List.mem_of_getElem? e)
    have hb := h x hx
    show 0 ≤ figF x ∧ figF x < 64
    unfold figF
    rw [Int.fdiv_eq_ediv_of_nonneg _ (by decide), Int.fmod_eq_emod_of_nonneg _ (by decide)]
    omega
theorem stageA {w : World} {p : Program} {loose : List Str} {mean : ExcName → Option Value} {mg mb : Str → Option Value} {h₀ : Heap} {s₁ s : Shared} {a L fa : Addr} {cdv : Value} {vs : List Value} {ns : List Int} {c1 c2 c3 c4 c5 : Obj} {m : Str → Option Value}
  (LT : LawTop w p loose mean mg mb h₀) (hs : Sh s₁ s) (hl : h₀.IsList a vs.toArray) (hi : IntsAre vs ns) (hlen : ns.length ≤ 63)
  (F : Fr h₀ L s.heap m) (hm : m (Str.ofString "script") = some (.ref a)) (N : News h₀ L s.heap [(L + 5, c5), (L + 4, c4), (L + 3, c3), (L + 2, c2), (L + 1, c1), (137, tabObj #[])]) (l0 : Nat.lt 137 L)
  (d1 : c1.data = .cell none) (d2 : c2.data = .cell none) (d3 : c3.data = .cell none) (d4 : c4.data = .cell none) (d5 : c5.data = .cell none)
  (b : List Stmt) (sc : Scope) (e : lawFd w.params = some (b, sc))
  (next : ∀ (xs : List Int) (dr lv fg : Addr) (dits ll fits : List Value) (dn ln fk : Nat) (o1 o2 : Obj) (m' : Str → Option Value) (tz : Tok) (s' : Shared), (xs.length = 5 ∨ xs.length = 6) → (∀ x ∈ xs, 0 ≤ x ∧ x < 69120) → IntsAre dits xs → IntsAre ll (levR xs) → IntsAre fits (xs.map figF) → Sh s₁ s' →
    Fr h₀ L s'.heap m' → m' (Str.ofString "drawn") = some (.ref dr) → m' (Str.ofString "size") = some (.int ((levR xs).length : Nat) tz) → o1.data = .cell (some (.ref lv)) → o2.data = .cell (some (.ref fg)) →
    News h₀ L s'.heap [(fg, { cls := .type "list", data := .seq fits.toArray fk }), (lv, { cls := .type "list", data := .seq ll.toArray ln }), (dr, { cls := .type "list", data := .seq dits.toArray dn }), (L + 5, c5), (L + 4, c4), (L + 3, c3), (L + 2, o2), (L + 1, o1), (137, tabObj #[])] →
    List.Nodup (α := Nat) [fg, lv, dr, L + 5, L + 4, L + 3, L + 2, L + 1, 137] →
    wpAny (model PySem.Challenge.rw_us0006_01.row.prog w) (callerA.deeper (envOfC (Str.ofString "law") sc L fa cdv)) (execs (b.drop 4) (envOfC (Str.ofString "law") sc L fa cdv)) (LawQ h₀ s₁) (fun _ _ => False) s') :
  wpAny (model PySem.Challenge.rw_us0006_01.row.prog w) (callerA.deeper (envOfC (Str.ofString "law") sc L fa cdv)) (execs b (envOfC (Str.ofString "law") sc L fa cdv)) (LawQ h₀ s₁) (fun _ _ => False) s := by
  revert next; revert e; revert b sc
  refine law_all rfl ?_
  intro next
  have X := LT.g.X
  revert X; k_fill; intro X
  have T := LT.T
  have B := LT.B
  have C := LT.C
  have l1 : ∀ k : Nat, @Ne Nat 137 (L + k) := fun k => Nat.ne_of_lt (Nat.lt_of_lt_of_le l0 (Nat.le_add_right _ _))
  have l2 := l1 1; have l3 := l1 2; have l4 := l1 3; have l5 := l1 4; have l6 := l1 5
  have F0 : Fr h₀ L s.heap (bd m [(Str.ofString "script", .ref a)]) := by rw [bd_eq (List.forall_mem_singleton.mpr hm)]; exact F
  clear F hm
  k_with "call ref" => (refine stop ?_)
  k_with "exec Assign cons ListComp" => (refine stop ?_)
  k_steps
  refine ⟨?_⟩
  refine of_UU (drawn_spec (LT.g.keeps F0.keep) (LT.T.keeps F0.keep) (hl.at fun o e => F0.keep _ _ e) hi hlen ?_) rfl (Nat.le_of_ble_eq_true rfl) (Nat.le_of_ble_eq_true rfl)
  intro dr dits dn xs s2 h21 h22 hxi hxl hxb ev2
  obtain ⟨F2, N2, z2⟩ := news_add F0 N ev2 h21 h22
  have z2c : Stop _ := ⟨z2⟩
  simp only [List.forall_mem_cons] at z2
  (refine goal_cut fun Gz hGz => ?_; obtain ⟨z21, z22, z23, z24, z25, z26, _⟩ := z2; refine hGz ?_; clear hGz Gz)
  clear F0 N
  k_steps
  refine ⟨?_⟩
  (rename Fr _ _ _ _ => F3); (rename News _ _ _ _ => N3)
  refine of_UU (levels_spec (LT.g.keeps F3.keep) (N3.isList (.head _)) hxi (by omega) (by omega) ?_) rfl (Nat.le_of_ble_eq_true rfl) (Nat.le_of_ble_eq_true rfl)
  intro lv lits ln s4 h41 h42 hli ev4
  obtain ⟨ll, rfl⟩ : ∃ ll : List Value, lits = ll.toArray := ⟨lits.toList, by simp⟩
  rw [List.toList_toArray] at hli
  have hlen2 : (levR xs).length = xs.length := levR_len xs (by omega)
  obtain ⟨F4, N4, z4⟩ := news_add F3 N3 ev4 h41 h42
  have z4c : Stop _ := ⟨z4⟩
  simp only [List.forall_mem_cons] at z4
  (refine goal_cut fun Gz hGz => ?_; obtain ⟨z41, z42, z43, z44, z45, z46, z47, _⟩ := z4; refine hGz ?_; clear hGz Gz)
  clear F3 N3
  k_steps
  refine ⟨?_⟩
  (rename Fr _ _ _ _ => F5); (rename News _ _ _ _ => N5)
  refine wpAny_Assign_Name ?_
  refine comp_ints (h₀ := h₀) (L := L) (l := dr) (its := dits) (ns := xs) (fun z y => ∃ t, y = .int (figF z) t) rfl (by decide) rfl (by decide) rfl (by omega) hxi rfl ?_ (fun _ => rfl)
  k_steps
  refine ⟨⟨_, _, rfl, F5, N5, N5.isList (.tail _ (.head _)), ?_, ?_⟩⟩
  · intro C z t s₃ m₃ E' hz F₃ hm₃ N₃
    have hzb := hxb z hz
    clear F5 N5
    k_with "eval Name" => (refine nameL (by assumption) rfl (by assumption) ?_)
    k_steps
    exact ⟨⟨_, rfl⟩, _, _, rfl, fun _ _ e => e⟩
  · intro fg h' tk fits fk F6 N6 z6 hp6
    have hfi : IntsAre fits (xs.map figF) := paired_to_ints hp6
    have z6c : Stop _ := ⟨z6⟩
    simp only [List.forall_mem_cons] at z6
    (refine goal_cut fun Gz hGz => ?_; obtain ⟨z61, z62, z63, z64, z65, z66, z67, z68, _⟩ := z6; refine hGz ?_; clear hGz Gz)
    clear F5 N5
    k_with "execs cons" => (refine stop ?_)
    k_steps
    (rename Fr _ _ _ _ => F7); (rename News _ _ _ _ => N7)
    refine ⟨?_⟩
    refine next xs dr lv fg dits ll fits _ _ _ _ _ _ _ _ hxl hxb hxi hli hfi ((hs.to.trans ev2.sh).to.trans ev4.sh).to F7 rfl rfl (by assumption) (by assumption) N7 ?_
    exact nodup_off rfl z6c (nodup_off rfl z4c (nodup_off rfl z2c (ndL l1)))
end

-- part HB
section
theorem fresh_HB : True := by
  k_with_none
  exact trivial
local macro_rules | `(tactic| omega) => `(tactic| first | ((with_reducible show _ ≠ _); first | assumption | exact Ne.symm (by assumption)) | ((repeat (rename (@Ne _ _ _) => hzne; clear hzne)); (repeat (rename (@Ne _ _ _ ∧ _) => hzne; clear hzne)); (repeat (rename ((@Ne _ _ _ ∧ _) ∧ _) => hzne; clear hzne)); omega +splitDisjunctions) | omega +splitDisjunctions)
local macro_rules | `(tactic| walk_at "eval ListComp") => `(tactic| (refine stop ?_))
local macro_rules | `(tactic| walk_at "subscriptTail") => `(tactic| (refine stop ?_))
local macro_rules | `(tactic| walk_at "eval List") => `(tactic| (refine List_ ?_))
local macro_rules | `(tactic| walk_at "exec Assign cons ListComp") => `(tactic| (refine stop ?_))
theorem tbl_len (k : Nat) : ([Str.ofString "", Str.ofString " ", Str.ofString "\"", Str.ofString "\\", Str.ofString "\n", Str.ofString "#"].getD k Str.empty).length ≤ 1 := by
  rcases k with _ | _ | _ | _ | _ | _ | k
  all_goals first | exact Nat.le_refl _ | exact Nat.zero_le _
noncomputable def manF (x : Int) : Int := Int.fmod (Int.fdiv x 3840) 3
noncomputable def wordsR (xs : List Int) : List Str := (List.range xs.length).map fun j => wordF (xs.map figF) (0 + ((j : Nat) : Int))
theorem wordF_len (fs : List Int) (z : Int) : (wordF fs z).length = 1 ∨ (wordF fs z).length = 2 := by
  unfold wordF
  rw [str_len_append, len_item]
  have := tbl_len (Int.fmod (fs.getD z.toNat 0) 6).toNat
  omega
theorem wordsR_len (xs : List Int) (k : Nat) (hk : k < (wordsR xs).length) : ((wordsR xs).getD k Str.empty).length = 1 ∨ ((wordsR xs).getD k Str.empty).length = 2 := by
  rw [List.getD_eq_getElem?_getD, List.getElem?_eq_getElem hk]
  have hm := List.getElem_mem hk
  show ((wordsR xs)[k]).length = 1 ∨ ((wordsR xs)[k]).length = 2
  generalize (wordsR xs)[k] = z at hm
  unfold wordsR at hm
  obtain ⟨j, _, rfl⟩ := List.mem_map.mp hm
  exact wordF_len _ _
theorem pieceR_len (m : Int) (wd : Str) (h : wd.length ≤ 2) : (pieceR m wd).length ≤ 10 := by
  unfold pieceR
  have h1 := sum_esc escA escA_len wd
  have h2 := sum_esc escB escB_len wd
  have h3 := sum_esc escB escB_len (Txt.slice wd (some 1) none)
  have h4 := Txt.slice_le wd (some 1) none
  rw [← join_len] at h1 h2 h3
  split
  · rw [str_len_append, str_len_append, show (Str.ofString "\"").length = 1 from rfl]; omega
  · split
    · omega
    · rw [str_len_append, len_item]; omega
theorem txStep_len (ns : List Str) (mn : List Int) (acc : Str) (i : Nat) : (txStep ns mn acc i).length = acc.length + (pieceR (mn.getD i 0) (ns.getD i Str.empty)).length + 1 := by
  unfold txStep
  rw [str_len_append, str_len_append, len_item]
theorem textR_len (ns : List Str) (mn : List Int) (h : ∀ k, k < ns.length → (ns.getD k Str.empty).length = 1 ∨ (ns.getD k Str.empty).length = 2) : (textR ns mn).length ≤ ns.length * 11 := by
  have key : ∀ n, n ≤ ns.length → ((List.range n).foldl (txStep ns mn) (Str.ofString "")).length ≤ n * 11 := by
    intro n
    induction n with
    | zero => intro _; exact Nat.zero_le _
    | succ n ih =>
      intro hn
      rw [List.range_succ, List.foldl_append]
      show (txStep ns mn _ n).length ≤ _
      have := ih (by omega)
      have hp := pieceR_len (mn.getD n 0) (ns.getD n Str.empty) (by have := h n (by omega); omega)
      rw [txStep_len]
      omega
  exact key _ (Nat.le_refl _)
theorem off1_all {D : Addr} : ∀ {l : List (Addr × Obj)}, LCg.Off1 D l → ∀ p ∈ l, @Ne Nat p.1 D
  | [], _, _, h => nomatch h
  | _ :: _, x, _, h => (List.mem_cons.mp h).elim (fun e => e ▸ x.1) fun h => off1_all x.2 _ h
theorem off1_nodup {D : Addr} {l : List (Addr × Obj)} (x : LCg.Off1 D l) (h : List.Nodup (α := Nat) (l.map (·.1))) : List.Nodup (α := Nat) (D :: l.map (·.1)) :=
  List.nodup_cons.mpr ⟨fun hm => by
    obtain ⟨q, hq, e⟩ := List.mem_map.mp hm
    exact off1_all x q hq e, h⟩
theorem stageB1 {w : World} {p : Program} {loose : List Str} {mean : ExcName → Option Value} {mg mb : Str → Option Value} {h₀ : Heap} {s₁ s : Shared} {L fa : Addr} {cdv : Value} {c3 c4 c5 : Obj}
  (LT : LawTop w p loose mean mg mb h₀) (l0 : Nat.lt 137 L)
  (d3 : c3.data = .cell none) (d4 : c4.data = .cell none) (d5 : c5.data = .cell none)
  (b : List Stmt) (sc : Scope) (e : lawFd w.params = some (b, sc))
  {xs : List Int} {dr lv fg : Addr} {dits ll fits : List Value} {dn ln fk : Nat} {o1 o2 : Obj} {m : Str → Option Value} {tz : Tok} (hxl : xs.length = 5 ∨ xs.length = 6) (hxb : ∀ x ∈ xs, 0 ≤ x ∧ x < 69120) (hxi : IntsAre dits xs) (hli : IntsAre ll (levR xs)) (hfi : IntsAre fits (xs.map figF)) (hs : Sh s₁ s)
  (F : Fr h₀ L s.heap m) (hm1 : m (Str.ofString "drawn") = some (.ref dr)) (hm2 : m (Str.ofString "size") = some (.int ((levR xs).length : Nat) tz)) (ho1 : o1.data = .cell (some (.ref lv))) (ho2 : o2.data = .cell (some (.ref fg)))
  (N : News h₀ L s.heap [(fg, { cls := .type "list", data := .seq fits.toArray fk }), (lv, { cls := .type "list", data := .seq ll.toArray ln }), (dr, { cls := .type "list", data := .seq dits.toArray dn }), (L + 5, c5), (L + 4, c4), (L + 3, c3), (L + 2, o2), (L + 1, o1), (137, tabObj #[])])
  (nd : List.Nodup (α := Nat) [fg, lv, dr, L + 5, L + 4, L + 3, L + 2, L + 1, 137])
  (next : ∀ (wd : Addr) (wits : List Value) (wk : Nat) (o3 : Obj) (m' : Str → Option Value) (tz : Tok) (s' : Shared), StrsAre wits (wordsR xs) → Sh s₁ s' →
    Fr h₀ L s'.heap m' → m' (Str.ofString "drawn") = some (.ref dr) → m' (Str.ofString "size") = some (.int ((levR xs).length : Nat) tz) → o3.data = .cell (some (.ref wd)) →
    News h₀ L s'.heap [(wd, { cls := .type "list", data := .seq wits.toArray wk }), (fg, { cls := .type "list", data := .seq fits.toArray fk }), (lv, { cls := .type "list", data := .seq ll.toArray ln }), (dr, { cls := .type "list", data := .seq dits.toArray dn }), (L + 5, c5), (L + 4, c4), (L + 3, o3), (L + 2, o2), (L + 1, o1), (137, tabObj #[])] →
    List.Nodup (α := Nat) [wd, fg, lv, dr, L + 5, L + 4, L + 3, L + 2, L + 1, 137] →
    wpAny (model PySem.Challenge.rw_us0006_01.row.prog w) (callerA.deeper (envOfC (Str.ofString "law") sc L fa cdv)) (execs (b.drop 5) (envOfC (Str.ofString "law") sc L fa cdv)) (LawQ h₀ s₁) (fun _ _ => False) s') :
  wpAny (model PySem.Challenge.rw_us0006_01.row.prog w) (callerA.deeper (envOfC (Str.ofString "law") sc L fa cdv)) (execs (b.drop 4) (envOfC (Str.ofString "law") sc L fa cdv)) (LawQ h₀ s₁) (fun _ _ => False) s := by
  revert next; revert e; revert b sc
  refine law_all rfl ?_
  intro next
  have X := LT.g.X
  revert X; k_fill; intro X
  have T := LT.T
  have B := LT.B
  have C := LT.C
  have hlen2 : (levR xs).length = xs.length := levR_len xs (by omega)
  have F0 : Fr h₀ L s.heap (bd m [(Str.ofString "drawn", .ref dr), (Str.ofString "size", .int ((levR xs).length : Nat) tz)]) := by rw [bd_eq (List.forall_mem_cons.mpr ⟨hm1, List.forall_mem_singleton.mpr hm2⟩)]; exact F
  clear F hm1 hm2
  dsimp only [List.drop_succ_cons, List.drop_zero]
  k_with "call ref" => (refine stop ?_)
  k_steps
  refine ⟨?_⟩
  refine wpAny_Assign_Name ?_
  have hfl : (xs.map figF).length = xs.length := List.length_map _
  have hfb : ∀ k, 0 ≤ (xs.map figF).getD k 0 ∧ (xs.map figF).getD k 0 < 64 := figF_bd hxb
  obtain ⟨NW, hNW⟩ : ∃ NW, NW = [(fg, ({ cls := .type "list", data := .seq fits.toArray fk } : Obj)), (lv, { cls := .type "list", data := .seq ll.toArray ln }), (dr, { cls := .type "list", data := .seq dits.toArray dn }), (L + 5, c5), (L + 4, c4), (L + 3, c3), (L + 2, o2), (L + 1, o1), (137, tabObj #[])] := ⟨_, rfl⟩
  (rename Fr _ _ _ _ => F7); (rename News _ _ _ _ => N7)
  rw [← hNW] at N7
  have hmf : (fg, ({ cls := .type "list", data := .seq fits.toArray fk } : Obj)) ∈ NW := by rw [hNW]; k_mem
  have hmc : (L + 2, o2) ∈ NW := by rw [hNW]; k_mem
  refine comp_any_range (h₀ := h₀) (L := L) (a := 0) (b := (levR xs).length) (n := xs.length) (fun i ys news => StrsAre ys ((List.range i).map fun j => wordF (xs.map figF) (0 + ((j : Nat) : Int))) ∧ news = NW) F7 rfl (by decide) rfl (by decide) rfl (by omega) rfl (small1 (by decide) (by decide) (by omega) (by omega)) (by rw [rangeSize1 (by decide) (by omega), hlen2]; omega) ?_ (fun _ => rfl)
  k_steps
  (rename Fr _ _ _ _ => F8); (rename News _ _ _ _ => N8); (rename IsRange _ _ _ _ _ _ _ _ => hR)
  refine ⟨⟨_, _, _, _, NW, rfl, F8, N8, hR, ⟨.nil, rfl⟩, ?_, ?_⟩⟩
  · rintro i ys news t I oI C' oC D m₂ h9 tk9 E' s₃ sm hi2 ⟨hys, hnw⟩ hC hk9 F9 N9 off ne
    clear F8 N8 hR
    subst hnw
    have N9r : News h₀ L h9 ((C', oC) :: (L + 2, o2) :: (fg, ({ cls := .type "list", data := .seq fits.toArray fk } : Obj)) :: (I, oI) :: (D, LCg.lst ys) :: news) := by
      intro q hq
      rcases List.mem_cons.mp hq with rfl | hq
      · exact N9 _ (.tail _ (.head _))
      · rcases List.mem_cons.mp hq with rfl | hq
        · exact N9 _ (.tail _ (.tail _ (.tail _ hmc)))
        · rcases List.mem_cons.mp hq with rfl | hq
          · exact N9 _ (.tail _ (.tail _ (.tail _ hmf)))
          · rcases List.mem_cons.mp hq with rfl | hq
            · exact N9 _ (.head _)
            · exact N9 _ (.tail _ (.tail _ hq))
    clear N9 hNW hmc hmf
    have hfbi := hfb (0 + (i : Int)).toNat
    clear hfb
    have hk6 : 0 ≤ Int.fmod ((xs.map figF).getD (0 + (i : Int)).toNat 0) 6 := by rw [Int.fmod_eq_emod_of_nonneg _ (by decide)]; omega
    have hk7 : Int.fmod ((xs.map figF).getD (0 + (i : Int)).toNat 0) 6 < ([Str.ofString "", Str.ofString " ", Str.ofString "\"", Str.ofString "\\", Str.ofString "\n", Str.ofString "#"] : List Str).length := by
      show _ < ((6 : Nat) : Int)
      rw [Int.fmod_eq_emod_of_nonneg _ (by decide)]; omega
    k_with "eval Name" => (first | refine nameN N9r (.head _) hC (by assumption) ?_ rfl | refine nameCl N9r (by k_mem) (by assumption) ?_)
    k_steps
    refine ⟨?_⟩
    refine item_str (fitsSsize_of (N := 9223372036854775808) (by omega) (by omega) (Int.le_refl _)) (by omega) (by show _ < ((6 : Nat) : Int); omega) (fun hl6 => ?_)
    k_steps
    refine ⟨?_⟩
    refine kba_turn (value' := PySem.Expr.Name (PySem.Str.ofString "_") ⟨0, 0, 0, 0⟩) (fun _ => rfl) ?_
    refine item_tbl (tbl := [Str.ofString "", Str.ofString " ", Str.ofString "\"", Str.ofString "\\", Str.ofString "\n", Str.ofString "#"]) (by assumption) (.head _) ?hS hk6 hk7 (by decide) (fun t3 => ?_)
    case hS => exact .cons _ _ (.cons _ _ (.cons _ _ (.cons _ _ (.cons _ _ (.cons _ _ .nil)))))
    have htl := tbl_len (Int.fmod ((xs.map figF).getD (0 + (i : Int)).toNat 0) 6).toNat
    k_steps
    (rename Fr _ _ _ _ => FX); (rename News _ _ _ _ => NX)
    refine ⟨⟨news, ⟨rfl, rfl, rfl⟩, FX, fun q hq => NX q ?_, off, trivial, ?_, rfl⟩⟩
    · rcases List.mem_cons.mp hq with rfl | hq
      · exact .tail _ (.tail _ (.tail _ (.tail _ (.head _))))
      · rcases List.mem_cons.mp hq with rfl | hq
        · exact .tail _ (.head _)
        · exact .tail _ (.tail _ (.tail _ (.tail _ (.tail _ hq))))
    · rw [List.range_succ, List.map_append]
      exact hys.append' (.cons _ _ .nil)
  · rintro wd h9 tk9 wits news s₃ sm ⟨hwi, hnw⟩ F9 N9 off
    clear F8 N8 hR
    rw [hnw, hNW] at N9 off
    have n5 := nd_ne nd 0 5 rfl rfl (by decide)
    have n14 := nd_ne nd 1 5 rfl rfl (by decide)
    have n23 := nd_ne nd 2 5 rfl rfl (by decide)
    have n32 := nd_ne nd 3 5 rfl rfl (by decide)
    have n41 := nd_ne nd 4 5 rfl rfl (by decide)
    have n53 := nd_ne nd 5 8 rfl rfl (by decide)
    have y6 : @Ne Nat (L + 3) wd := off1_all off (L + 3, c3) (by k_mem)
    k_with "execs cons" => (refine stop ?_)
    k_steps
    refine ⟨?_⟩
    (rename Fr _ _ _ _ => FA); (rename News _ _ _ _ => NA)
    refine next wd wits _ _ _ _ _ hwi (hs.to.trans sm.sh).to FA rfl rfl (by assumption) NA ?_
    · exact off1_nodup off nd
end

-- part HC
section
theorem fresh_HC : True := by
  k_with_none
  exact trivial
local macro_rules | `(tactic| walk_at "eval ListComp") => `(tactic| (refine stop ?_))
local macro_rules | `(tactic| walk_at "subscriptTail") => `(tactic| (refine stop ?_))
local macro_rules | `(tactic| walk_at "call ref") => `(tactic| (refine stop ?_))
local macro_rules | `(tactic| walk_at "eval List") => `(tactic| (refine List_ ?_))
local macro_rules | `(tactic| walk_at "exec Assign cons ListComp") => `(tactic| (refine stop ?_))
theorem mem_all {α : Type} {l : List α} {P : α → Prop} {q : α} (hq : q ∈ l) (h : ∀ x ∈ l, P x) : P q := h q hq
theorem nodup_away {l₁ l₂ : List Nat} {c : Nat} (h : (l₁ ++ c :: l₂).Nodup) : ∀ a ∈ l₁ ++ l₂, a ≠ c := fun a ha e => by
  have h' := List.nodup_append.mp h
  rcases List.mem_append.mp ha with ha | ha
  · exact h'.2.2 a ha c (.head _) e
  · exact (List.nodup_cons.mp h'.2.1).1 (e ▸ ha)
theorem led_away {l : List (Addr × Obj)} {l₁ l₂ : List Nat} {c : Nat} (h : (l₁ ++ c :: l₂).Nodup) (e : l.map (·.1) = l₁ ++ l₂) : ∀ q ∈ l, q.1 ≠ c := fun q hq =>
  nodup_away h q.1 (e ▸ List.mem_map_of_mem (f := (·.1)) hq)
theorem store_cell {M : Model} {A : Around} {E : Value → Shared → Prop} {s : Shared} {h₀ : Heap} {L c : Addr} {o : Obj} {m : Str → Option Value} {news rest : List (Addr × Obj)} {env : Env} {x : Str} {v : Value} {v₀ : Option Value} {Q : Unit → Shared → Prop}
    (F : Fr h₀ L s.heap m) (N : News h₀ L s.heap news) (hm : (c, o) ∈ news) (hd : o.data = .cell v₀) (hr : ∀ p ∈ rest, p ∈ news ∧ p.1 ≠ c)
    (h : ∀ h' o', Fr h₀ L h' m → News h₀ L h' ((c, o') :: rest) → o'.data = .cell (some v) → Q () { s with heap := h' })
    (hc : env.cells.lookup x = some c := by rfl) (hk : env.scope.kind = .function := by rfl) (hx : env.kindOf x = some .cell := by rfl) : wpAny M A (storeName env x v) Q E s := by
  have hmem := N _ hm
  refine wpAny_storeName_cell hk hx hc ⟨o, hmem.1, hd⟩ fun h' hv hs => ?_
  obtain ⟨o', ho', hd'⟩ := hv
  refine h h' o' ⟨F.ns.sameBut hs (Ne.symm hmem.2.1), fun b ob e => (hs.2 b (fun q => ?_)).trans (F.keep b ob e), F.above⟩ (fun p hp => ?_) hd'
  · rw [q, hmem.2.2] at e; cases e
  · rcases List.mem_cons.mp hp with rfl | hp
    · exact ⟨ho', hmem.2⟩
    · have z := N p (hr p hp).1
      exact ⟨(hs.2 _ (hr p hp).2).trans z.1, z.2⟩
/-- the text of the law -/
noncomputable def lawText (xs : List Int) : Str := textR (wordsR xs) (xs.map manF) ++ Str.ofString "z"
theorem stageB2 {w : World} {p : Program} {loose : List Str} {mean : ExcName → Option Value} {mg mb : Str → Option Value} {h₀ : Heap} {s₁ s : Shared} {L fa : Addr} {cdv : Value} {c4 c5 : Obj}
  (LT : LawTop w p loose mean mg mb h₀) (l0 : Nat.lt 137 L)
  (d4 : c4.data = .cell none) (d5 : c5.data = .cell none)
  (b : List Stmt) (sc : Scope) (e : lawFd w.params = some (b, sc))
  {xs : List Int} {dr lv fg wd : Addr} {dits ll fits wits : List Value} {dn ln fk wk : Nat} {o1 o2 o3 : Obj} {m : Str → Option Value} {tz : Tok} (hxl : xs.length = 5 ∨ xs.length = 6) (hxb : ∀ x ∈ xs, 0 ≤ x ∧ x < 69120) (hxi : IntsAre dits xs) (hli : IntsAre ll (levR xs)) (hfi : IntsAre fits (xs.map figF)) (hwi : StrsAre wits (wordsR xs)) (hs : Sh s₁ s)
  (F : Fr h₀ L s.heap m) (hm1 : m (Str.ofString "drawn") = some (.ref dr)) (hm2 : m (Str.ofString "size") = some (.int ((levR xs).length : Nat) tz)) (ho1 : o1.data = .cell (some (.ref lv))) (ho2 : o2.data = .cell (some (.ref fg))) (ho3 : o3.data = .cell (some (.ref wd)))
  (N : News h₀ L s.heap [(wd, { cls := .type "list", data := .seq wits.toArray wk }), (fg, { cls := .type "list", data := .seq fits.toArray fk }), (lv, { cls := .type "list", data := .seq ll.toArray ln }), (dr, { cls := .type "list", data := .seq dits.toArray dn }), (L + 5, c5), (L + 4, c4), (L + 3, o3), (L + 2, o2), (L + 1, o1), (137, tabObj #[])])
  (nd : List.Nodup (α := Nat) [wd, fg, lv, dr, L + 5, L + 4, L + 3, L + 2, L + 1, 137])
  (next : ∀ (d : LexD) (ps : Array Value) (o4 : Obj) (m' : Str → Option Value) (tx ty tz : Tok) (s' : Shared), LexOk d → Sh s₁ s' →
    Fr h₀ L s'.heap m' → m' (Str.ofString "drawn") = some (.ref dr) → m' (Str.ofString "size") = some (.int ((levR xs).length : Nat) tz) → m' (Str.ofString "text") = some (.str (lawText xs) ty) → o4.data = .cell (some (.ref d.ln)) →
    News h₀ L s'.heap (lexLed w d (lawText xs) tx 0 1 [] ++ [(wd, ({ cls := .type "list", data := .seq wits.toArray wk } : Obj)), (fg, { cls := .type "list", data := .seq fits.toArray fk }), (lv, { cls := .type "list", data := .seq ll.toArray ln }), (dr, { cls := .type "list", data := .seq dits.toArray dn }), (L + 5, c5), (L + 4, o4), (L + 3, o3), (L + 2, o2), (L + 1, o1), (137, tabObj ps)]) →
    List.Nodup (α := Nat) (lexA d ++ [wd, fg, lv, dr, L + 5, L + 4, L + 3, L + 2, L + 1, 137]) →
    wpAny (model PySem.Challenge.rw_us0006_01.row.prog w) (callerA.deeper (envOfC (Str.ofString "law") sc L fa cdv)) (execs (b.drop 7) (envOfC (Str.ofString "law") sc L fa cdv)) (LawQ h₀ s₁) (fun _ _ => False) s') :
  wpAny (model PySem.Challenge.rw_us0006_01.row.prog w) (callerA.deeper (envOfC (Str.ofString "law") sc L fa cdv)) (execs (b.drop 5) (envOfC (Str.ofString "law") sc L fa cdv)) (LawQ h₀ s₁) (fun _ _ => False) s := by
  revert next; revert e; revert b sc
  refine law_all rfl ?_
  intro next
  have X := LT.g.X
  revert X; k_fill; intro X
  have T := LT.T
  have B := LT.B
  have C := LT.C
  have hlen2 : (levR xs).length = xs.length := levR_len xs (by omega)
  have hx5 : 5 ≤ xs.length := by omega
  have hx6 : xs.length ≤ 6 := by omega
  have hwl : (wordsR xs).length = xs.length := by unfold wordsR; rw [List.length_map, List.length_range]
  have hman : (xs.map manF).length = (wordsR xs).length := by rw [List.length_map, hwl]
  clear hxl
  have F0 : Fr h₀ L s.heap (bd m [(Str.ofString "drawn", .ref dr), (Str.ofString "size", .int ((levR xs).length : Nat) tz)]) := by rw [bd_eq (List.forall_mem_cons.mpr ⟨hm1, List.forall_mem_singleton.mpr hm2⟩)]; exact F
  clear F hm1 hm2
  dsimp only [List.drop_succ_cons, List.drop_zero]
  have hnd0 := nd
  k_steps
  refine ⟨?_⟩
  (rename Fr _ _ _ _ => FA); (rename News _ _ _ _ => NA)
  refine comp_ints (h₀ := h₀) (L := L) (l := dr) (its := dits) (ns := xs) (fun z y => ∃ t, y = .int (manF z) t) rfl (by decide) rfl (by decide) rfl (by omega) hxi rfl ?_ (fun _ => rfl)
  k_steps
  refine ⟨⟨_, _, rfl, FA, NA, NA.isList (by k_mem), ?_, ?_⟩⟩
  · intro C z t s₃ m₃ E' hz F₃ hm₃ N₃
    have hzb := hxb z hz
    clear FA NA
    k_with "eval Name" => (refine nameL (by assumption) rfl (by assumption) ?_)
    k_steps
    exact ⟨⟨_, rfl⟩, _, _, rfl, fun _ _ e => e⟩
  · intro mn h' tk mits mk F6 N6 z6 hp6
    have hmi : IntsAre mits (xs.map manF) := paired_to_ints hp6
    clear z6
    clear FA NA
    k_steps
    refine ⟨?_⟩
    (rename Fr _ _ _ _ => FB); (rename News _ _ _ _ => NB)
    refine of_UU (text_spec (ns := wordsR xs) (mn := xs.map manF) (LT.g.keeps FB.keep) (LT.T.keeps FB.keep) (NB.isList (by k_mem)) hwi (NB.isList (.head _)) hmi (by rw [hwl]; exact hx6) hman (wordsR_len xs) ?_) rfl (Nat.le_of_ble_eq_true rfl) (Nat.le_of_ble_eq_true rfl)
    intro tt5 s5 ev5
    have F5 := FB.keeps ev5.keep
    have N5 : News h₀ L s5.heap _ := fun q hq => ⟨ev5.keep _ _ (NB q hq).1, (NB q hq).2⟩
    have htl := textR_len (wordsR xs) (xs.map manF) (wordsR_len xs)
    rw [hwl] at htl
    clear FB NB
    k_steps
    refine ⟨?_⟩
    (rename Fr _ _ _ _ => FC); (rename News _ _ _ _ => NC)
    have NR : News h₀ L _ ([(wd, ({ cls := .type "list", data := .seq wits.toArray wk } : Obj)), (fg, { cls := .type "list", data := .seq fits.toArray fk }), (lv, { cls := .type "list", data := .seq ll.toArray ln }), (dr, { cls := .type "list", data := .seq dits.toArray dn }), (L + 5, c5), (L + 4, c4), (L + 3, o3), (L + 2, o2), (L + 1, o1), (137, tabObj #[])]) := fun q hq => NC q (.tail _ hq)
    have n137 := NR (137, tabObj #[]) (by k_mem)
    refine of_UU (lexer_spec (h₀ := h₀) LT.g LT.T FC.keep n137.1 n137.2.2 LT.C ?_) rfl (Nat.le_of_ble_eq_true rfl) (Nat.le_of_ble_eq_true rfl)
    intro d s6 hok hown ⟨ps, hps⟩ ev6
    obtain ⟨tx, hown⟩ : ∃ tx, ∀ q ∈ lexLed w d (lawText xs) tx 0 1 [], s6.heap.get? q.1 = some q.2 ∧ Heap.get? _ q.1 = none := ⟨_, hown⟩
    have FD : Fr h₀ L s6.heap _ := fr_out FC (fun hm => n137.2.1 (List.mem_singleton.mp hm).symm) (fun b hb => by rw [List.mem_singleton.mp hb]; exact n137.2.2) ev6.heap
    have lexnone : ∀ a ∈ lexA d, Heap.get? _ a = none := fun a ha => by
      obtain ⟨q, hq, rfl⟩ := List.mem_map.mp (show a ∈ (lexLed w d (lawText xs) tx 0 1 []).map (·.1) from ha)
      exact (hown q hq).2
    have hne : ∀ q ∈ ([(wd, ({ cls := .type "list", data := .seq wits.toArray wk } : Obj)), (fg, { cls := .type "list", data := .seq fits.toArray fk }), (lv, { cls := .type "list", data := .seq ll.toArray ln }), (dr, { cls := .type "list", data := .seq dits.toArray dn }), (L + 5, c5), (L + 3, o3), (L + 2, o2), (L + 1, o1), (137, tabObj ps)] : List (Addr × Obj)), q.1 ≠ L + 4 := led_away (l₁ := [wd, fg, lv, dr, L + 5]) (l₂ := [L + 3, L + 2, L + 1, 137]) hnd0 rfl
    have hn137 : ∀ q ∈ ([(wd, ({ cls := .type "list", data := .seq wits.toArray wk } : Obj)), (fg, { cls := .type "list", data := .seq fits.toArray fk }), (lv, { cls := .type "list", data := .seq ll.toArray ln }), (dr, { cls := .type "list", data := .seq dits.toArray dn }), (L + 5, c5), (L + 4, c4), (L + 3, o3), (L + 2, o2), (L + 1, o1)] : List (Addr × Obj)), q.1 ≠ 137 := led_away (l₁ := [wd, fg, lv, dr, L + 5, L + 4, L + 3, L + 2, L + 1]) (l₂ := []) hnd0 rfl
    have NRs : ∀ q ∈ ([(wd, ({ cls := .type "list", data := .seq wits.toArray wk } : Obj)), (fg, { cls := .type "list", data := .seq fits.toArray fk }), (lv, { cls := .type "list", data := .seq ll.toArray ln }), (dr, { cls := .type "list", data := .seq dits.toArray dn }), (L + 5, c5), (L + 4, c4), (L + 3, o3), (L + 2, o2), (L + 1, o1)] : List (Addr × Obj)), q ∈ ([(wd, ({ cls := .type "list", data := .seq wits.toArray wk } : Obj)), (fg, { cls := .type "list", data := .seq fits.toArray fk }), (lv, { cls := .type "list", data := .seq ll.toArray ln }), (dr, { cls := .type "list", data := .seq dits.toArray dn }), (L + 5, c5), (L + 4, c4), (L + 3, o3), (L + 2, o2), (L + 1, o1), (137, tabObj #[])]) := fun q hq => List.mem_append_left [(137, tabObj #[])] hq
    have hmapR : (([(wd, ({ cls := .type "list", data := .seq wits.toArray wk } : Obj)), (fg, { cls := .type "list", data := .seq fits.toArray fk }), (lv, { cls := .type "list", data := .seq ll.toArray ln }), (dr, { cls := .type "list", data := .seq dits.toArray dn }), (L + 5, c5), (L + 4, c4), (L + 3, o3), (L + 2, o2), (L + 1, o1), (137, tabObj #[])])).map (·.1) = [wd, fg, lv, dr, L + 5, L + 4, L + 3, L + 2, L + 1, 137] := rfl
    have hnd2 : List.Nodup (α := Nat) (lexA d ++ [wd, fg, lv, dr, L + 5, L + 4, L + 3, L + 2, L + 1, 137]) := by
      refine List.nodup_append.mpr ⟨hok.nd, hnd0, fun a ha b hb => ?_⟩
      rw [← hmapR] at hb
      obtain ⟨p, hp, rfl⟩ := List.mem_map.mp hb
      exact ne_get (lexnone a ha) (NR p hp).1
    have lexNe : ∀ a ∈ lexA d, a ≠ L ∧ h₀.get? a = none := fun a ha => by
      refine ⟨?_, ?_⟩
      · obtain ⟨oL, _, _, hoL, _⟩ := id FC.ns
        exact ne_get (lexnone a ha) hoL
      · cases e : h₀.get? a with
        | none => rfl
        | some o => have := FC.keep _ _ e; rw [lexnone a ha] at this; cases this
    have NX : News h₀ L s6.heap (lexLed w d (lawText xs) tx 0 1 [] ++ ((137, tabObj ps) :: ([(wd, ({ cls := .type "list", data := .seq wits.toArray wk } : Obj)), (fg, { cls := .type "list", data := .seq fits.toArray fk }), (lv, { cls := .type "list", data := .seq ll.toArray ln }), (dr, { cls := .type "list", data := .seq dits.toArray dn }), (L + 5, c5), (L + 4, c4), (L + 3, o3), (L + 2, o2), (L + 1, o1)] : List (Addr × Obj)))) := fun q hq => by
      rcases List.mem_append.mp hq with hq | hq
      · have hm : q.1 ∈ lexA d := List.mem_map_of_mem (f := (·.1)) hq
        exact ⟨(hown q hq).1, lexNe _ hm⟩
      · rcases List.mem_cons.mp hq with rfl | hq
        · exact ⟨hps, n137.2⟩
        · have z := NR q (NRs q hq)
          exact ⟨ev6.heap _ _ (fun hm => hn137 q hq (List.mem_singleton.mp hm)) z.1, z.2⟩
    refine store_cell (rest := lexLed w d (lawText xs) tx 0 1 [] ++ ([(wd, ({ cls := .type "list", data := .seq wits.toArray wk } : Obj)), (fg, { cls := .type "list", data := .seq fits.toArray fk }), (lv, { cls := .type "list", data := .seq ll.toArray ln }), (dr, { cls := .type "list", data := .seq dits.toArray dn }), (L + 5, c5), (L + 3, o3), (L + 2, o2), (L + 1, o1), (137, tabObj ps)] : List (Addr × Obj))) (o := c4) (c := L + 4) FD NX (List.mem_append_right _ (.tail _ (by k_mem))) d4 (fun q hq => ?_) (fun h7 o4 F7 N7 ho4 => ?_)
    · rcases List.mem_append.mp hq with hq | hq
      · refine ⟨List.mem_append_left _ hq, ?_⟩
        have hm : q.1 ∈ lexA d := List.mem_map_of_mem (f := (·.1)) hq
        exact ne_get (lexnone _ hm) (NR (L + 4, c4) (by k_mem)).1
      · refine ⟨List.mem_append_right _ ?_, hne q hq⟩
        refine mem_all (P := fun q => q ∈ _) hq ?_
        (repeat' (first | exact List.forall_mem_nil _ | refine List.forall_mem_cons.mpr ⟨?_, ?_⟩)) <;> k_mem
    k_with "execs cons" => (refine stop ?_)
    k_steps
    refine ⟨?_⟩
    (rename Fr _ _ _ _ => F8)
    refine next d ps o4 _ tx _ _ _ hok (((hs.to.trans ev5.sh).to.trans ev6.sh).to) F8 rfl rfl rfl ho4 (fun q hq => N7 q ?_) hnd2
    rcases List.mem_append.mp hq with hq | hq
    · exact .tail _ (List.mem_append_left _ hq)
    · refine mem_all (P := fun q => q ∈ _) hq ?_
      (repeat' (first | exact List.forall_mem_nil _ | refine List.forall_mem_cons.mpr ⟨?_, ?_⟩)) <;> (first | exact .head _ | exact .tail _ (List.mem_append_right _ (by k_mem)))
end

-- part K4
section
theorem strs_carried : ∀ {vs : List Value} {ns : List Str}, StrsAre vs ns → CarriedAll vs (ns.map PyData.str) := by
  intro vs ns h
  induction h with
  | nil => exact .nil
  | cons _ t _ ih => exact .cons (.str _ t) ih
theorem strs_lay : ∀ ns : List Str, (∀ y ∈ ns, PyData.strOk y = true) → PyData.canLayAll0 (ns.map PyData.str) = true ∧ PyData.depthAll (ns.map PyData.str) = 0
  | [], _ => ⟨rfl, rfl⟩
  | y :: r, h => by
    have h1 := strs_lay r fun z hz => h z (List.mem_cons_of_mem _ hz)
    have h2 := h y (List.mem_cons_self ..)
    exact ⟨by simp [PyData.canLayAll0, PyData.canLay0, h1.1, h2], by simp [PyData.depthAll, PyData.depth, h1.2]⟩
theorem strs_shaped (ns : List Str) (h : ∀ y ∈ ns, PyData.strOk y = true) : SeqAt.shaped (.list (ns.map PyData.str)) = true := by
  simp [SeqAt.shaped, PyData.canLay0, PyData.depth, strs_lay ns h]
theorem strs_sameAll : ∀ ns ms : List Str, PySem.Spec.sameAll (ns.map PyData.str) (ms.map PyData.str) = decide (ns = ms)
  | [], [] => by simp [PySem.Spec.sameAll]
  | [], _ :: _ => by simp [PySem.Spec.sameAll]
  | _ :: _, [] => by simp [PySem.Spec.sameAll]
  | a :: r, b :: t => by
    simp only [List.map_cons, PySem.Spec.sameAll, PySem.Spec.same, strs_sameAll r t]
    by_cases h : a = b <;> by_cases h' : r = t <;> simp [h, h']
theorem strs_same (ns ms : List Str) : PySem.Spec.same (.list (ns.map PyData.str)) (.list (ms.map PyData.str)) = decide (ns = ms) := by
  simp only [PySem.Spec.same]; exact strs_sameAll ns ms
section
variable {prog : Program} {w : World} {A : Around} {E : Value → Shared → Prop} {s : Shared} {a b : Addr} {xs ys : List Value} {ns ms : List Str} {Q : Value → Shared → Prop}
theorem ne_strs (ha : s.heap.IsList a xs.toArray) (hb : s.heap.IsList b ys.toArray) (hi : StrsAre xs ns) (hj : StrsAre ys ms) (hn : ∀ y ∈ ns, PyData.strOk y = true) (hm : ∀ y ∈ ms, PyData.strOk y = true) (hu : A.units + 64 < cLine) (h : Q (.bool (!decide (ns = ms))) s) :
    wpAny (model prog w) A (compareOp .NotEq (.ref a) (.ref b)) Q E s :=
  ne_dataH_same (reads_newData ha (strs_carried hi)) (reads_newData hb (strs_carried hj)) (strs_shaped _ hn) (strs_shaped _ hm) hu (SeqAt.noMix_of_shape (.list .str) rfl _ _ (list_map_has fun _ => rfl) (list_map_has fun _ => rfl)) (by rw [strs_same]; exact h)
end
end

-- part HD
section
theorem fresh_HD : True := by
  k_with_none
  exact trivial
local macro_rules | `(tactic| walk_at "eval ListComp") => `(tactic| (refine stop ?_))
local macro_rules | `(tactic| walk_at "subscriptTail") => `(tactic| (refine stop ?_))
local macro_rules | `(tactic| walk_at "call ref") => `(tactic| (refine stop ?_))
local macro_rules | `(tactic| walk_at "compareOp NotEq ref ref") => `(tactic| (refine stop ?_))
local macro_rules | `(tactic| walk_at "compareOp NotEq") => `(tactic| (refine stop ?_))
local macro_rules | `(tactic| walk_at "eval List") => `(tactic| (refine List_ ?_))
local macro_rules | `(tactic| walk_at "exec Assign cons ListComp") => `(tactic| (refine stop ?_))
/-- what get_token reads, one after the other -/
structure Reads6 (xs : List Int) (rest : Nat → List Nat) : Prop where
  start : rest 0 = (lawText xs).cps.toList
  turn : ∀ i, i < xs.length → gtO (rest i) = (((wordsR xs).getD i Str.empty).cps.toList, rest (i + 1))
  last : gtO (rest xs.length) = ((Str.ofString "z").cps.toList, [])

theorem strOk_app (a b : Str) (ha : PyData.strOk a = true) (hb : PyData.strOk b = true) : PyData.strOk (a ++ b) = true := by
  unfold PyData.strOk at *
  show ((a.cps ++ b.cps).all _) = true
  rw [Array.all_append, ha, hb]; rfl
theorem wordsR_ok (xs : List Int) (h6 : xs.length ≤ 6) : ∀ y ∈ wordsR xs, PyData.strOk y = true := fun y hy => by
  unfold wordsR at hy
  obtain ⟨j, hj, rfl⟩ := List.mem_map.mp hy
  have hj := List.mem_range.mp hj
  have hj6 : j < 6 := by omega
  unfold wordF
  refine strOk_app _ _ ?_ ?_
  · clear hy hj
    rcases j with _ | _ | _ | _ | _ | _ | j
    all_goals first | (exfalso; omega) | decide +kernel
  · generalize (Int.fmod ((xs.map figF).getD (0 + ((j : Nat) : Int)).toNat 0) 6).toNat = k
    rcases k with _ | _ | _ | _ | _ | _ | k
    all_goals first | decide +kernel | (show PyData.strOk Str.empty = true; decide +kernel)
theorem stageC {w : World} {p : Program} {loose : List Str} {mean : ExcName → Option Value} {mg mb : Str → Option Value} {h₀ : Heap} {s₁ s : Shared} {L fa : Addr} {cdv : Value} {c5 : Obj}
  (LT : LawTop w p loose mean mg mb h₀) (l0 : Nat.lt 137 L)
  (d5 : c5.data = .cell none)
  (b : List Stmt) (sc : Scope) (e : lawFd w.params = some (b, sc))
  {xs : List Int} {dr lv fg wd : Addr} {dits ll fits wits : List Value} {dn ln fk wk : Nat} {o1 o2 o3 o4 : Obj} {m : Str → Option Value} {tx ty tz : Tok} {d : LexD} {ps : Array Value} {rest : Nat → List Nat} (hrd : Reads6 xs rest) (hxl : xs.length = 5 ∨ xs.length = 6) (hxb : ∀ x ∈ xs, 0 ≤ x ∧ x < 69120) (hxi : IntsAre dits xs) (hli : IntsAre ll (levR xs)) (hfi : IntsAre fits (xs.map figF)) (hwi : StrsAre wits (wordsR xs)) (hok : LexOk d) (hs : Sh s₁ s)
  (F : Fr h₀ L s.heap m) (hm1 : m (Str.ofString "drawn") = some (.ref dr)) (hm2 : m (Str.ofString "size") = some (.int ((levR xs).length : Nat) tz)) (hm3 : m (Str.ofString "text") = some (.str (lawText xs) ty)) (ho1 : o1.data = .cell (some (.ref lv))) (ho2 : o2.data = .cell (some (.ref fg))) (ho3 : o3.data = .cell (some (.ref wd))) (ho4 : o4.data = .cell (some (.ref d.ln)))
  (N : News h₀ L s.heap (lexLed w d (lawText xs) tx 0 1 [] ++ [(wd, ({ cls := .type "list", data := .seq wits.toArray wk } : Obj)), (fg, { cls := .type "list", data := .seq fits.toArray fk }), (lv, { cls := .type "list", data := .seq ll.toArray ln }), (dr, { cls := .type "list", data := .seq dits.toArray dn }), (L + 5, c5), (L + 4, o4), (L + 3, o3), (L + 2, o2), (L + 1, o1), (137, tabObj ps)]))
  (nd : List.Nodup (α := Nat) (lexA d ++ [wd, fg, lv, dr, L + 5, L + 4, L + 3, L + 2, L + 1, 137]))
  (next : ∀ (k : Nat) (t1 : Tok) (m' : Str → Option Value) (ty tz : Tok) (s' : Shared), k ≤ (lawText xs).cps.size + 1 → (lawText xs).cps.toList.drop k = rest xs.length → Sh s₁ s' →
    Fr h₀ L s'.heap m' → m' (Str.ofString "drawn") = some (.ref dr) → m' (Str.ofString "size") = some (.int ((levR xs).length : Nat) tz) → m' (Str.ofString "text") = some (.str (lawText xs) ty) →
    News h₀ L s'.heap (lexLed w { d with t1 := t1 } (lawText xs) tx k (lnK (lawText xs) k) [] ++ [(wd, ({ cls := .type "list", data := .seq wits.toArray wk } : Obj)), (fg, { cls := .type "list", data := .seq fits.toArray fk }), (lv, { cls := .type "list", data := .seq ll.toArray ln }), (dr, { cls := .type "list", data := .seq dits.toArray dn }), (L + 5, c5), (L + 4, o4), (L + 3, o3), (L + 2, o2), (L + 1, o1), (137, tabObj ps)]) →
    wpAny (model PySem.Challenge.rw_us0006_01.row.prog w) (callerA.deeper (envOfC (Str.ofString "law") sc L fa cdv)) (execs (b.drop 8) (envOfC (Str.ofString "law") sc L fa cdv)) (LawQ h₀ s₁) (fun _ _ => False) s') :
  wpAny (model PySem.Challenge.rw_us0006_01.row.prog w) (callerA.deeper (envOfC (Str.ofString "law") sc L fa cdv)) (execs (b.drop 7) (envOfC (Str.ofString "law") sc L fa cdv)) (LawQ h₀ s₁) (fun _ _ => False) s := by
  revert next; revert e; revert b sc
  refine law_all rfl ?_
  intro next
  have X := LT.g.X
  revert X; k_fill; intro X
  have T := LT.T
  have B := LT.B
  have C := LT.C
  have hx6 : xs.length ≤ 6 := by omega
  have hwl : (wordsR xs).length = xs.length := by unfold wordsR; rw [List.length_map, List.length_range]
  have hwits : wits.length = xs.length := by rw [hwi.len_eq, hwl]
  have htsz : (lawText xs).cps.size ≤ 300 := by
    have h1 := textR_len (wordsR xs) (xs.map manF) (wordsR_len xs)
    show (lawText xs).length ≤ 300
    unfold lawText
    rw [str_len_append, show (Str.ofString "z").length = 1 from rfl]; omega
  have F0 : Fr h₀ L s.heap (bd m [(Str.ofString "drawn", .ref dr), (Str.ofString "size", .int ((levR xs).length : Nat) tz), (Str.ofString "text", .str (lawText xs) ty)]) := by rw [bd_eq (List.forall_mem_cons.mpr ⟨hm1, List.forall_mem_cons.mpr ⟨hm2, List.forall_mem_singleton.mpr hm3⟩⟩)]; exact F
  clear F hm1 hm2 hm3 hxl
  dsimp only [List.drop_succ_cons, List.drop_zero]
  obtain ⟨RV, hRV⟩ : ∃ RV, RV = [(wd, ({ cls := .type "list", data := .seq wits.toArray wk } : Obj)), (fg, { cls := .type "list", data := .seq fits.toArray fk }), (lv, { cls := .type "list", data := .seq ll.toArray ln }), (dr, { cls := .type "list", data := .seq dits.toArray dn }), (L + 5, c5), (L + 4, o4), (L + 3, o3), (L + 2, o2), (L + 1, o1), (137, tabObj ps)] := ⟨_, rfl⟩
  rw [← hRV] at N
  have hmw : (wd, ({ cls := .type "list", data := .seq wits.toArray wk } : Obj)) ∈ RV := by rw [hRV]; k_mem
  have hm3 : (L + 3, o3) ∈ RV := by rw [hRV]; k_mem
  have hm4 : (L + 4, o4) ∈ RV := by rw [hRV]; k_mem
  have hRA : ∀ q ∈ RV, q.1 ∉ lexA d := by
    intro q hq hm
    have hmap : RV.map (·.1) = [wd, fg, lv, dr, L + 5, L + 4, L + 3, L + 2, L + 1, 137] := by rw [hRV]; rfl
    exact (List.nodup_append.mp nd).2.2 _ hm _ (hmap ▸ List.mem_map_of_mem hq) rfl
  have N1 : News h₀ L s.heap ((wd, ({ cls := .type "list", data := .seq wits.toArray wk } : Obj)) :: (L + 3, o3) :: (lexLed w d (lawText xs) tx 0 1 [] ++ RV)) := fun q hq => by
    rcases List.mem_cons.mp hq with rfl | hq
    · exact N _ (List.mem_append_right _ hmw)
    · rcases List.mem_cons.mp hq with rfl | hq
      · exact N _ (List.mem_append_right _ hm3)
      · exact N q hq
  k_steps
  refine ⟨?_⟩
  refine comp_any (h₀ := h₀) (L := L) (l := wd) (its := wits) (fun i ys news => ∃ k t1, StrsAre ys ((wordsR xs).take i) ∧ news = lexLed w { d with t1 := t1 } (lawText xs) tx k (lnK (lawText xs) k) [] ++ RV ∧ (lawText xs).cps.toList.drop k = rest i ∧ k ≤ (lawText xs).cps.size + 1) F0 rfl (by decide) rfl (by decide) rfl (by omega) rfl ?_ (fun _ => rfl)
  k_steps
  refine ⟨⟨_, rfl, F0, N, .inr ⟨_, List.mem_append_right _ hmw, rfl, _, rfl⟩, ⟨0, d.t1, .nil, rfl, hrd.start.symm, Nat.zero_le _⟩, ?_, ?_⟩⟩
  · rintro i ys news v I oI C' oC D m₂ h9 tk9 E' s₃ sm hi2 hv ⟨k, t1, hys, hnw, hdr, hk⟩ hC hxv F9 N9 off ne
    subst hnw
    have off' := LCg.Off3.mem off
    have hix : i < xs.length := by omega
    have lexOff : ∀ a ∈ lexA d, a ≠ I ∧ a ≠ C' ∧ a ≠ D := fun a ha => by
      obtain ⟨q, hq, rfl⟩ := List.mem_map.mp (show a ∈ (lexLed w { d with t1 := t1 } (lawText xs) tx k (lnK (lawText xs) k) []).map (·.1) from ha)
      exact off' q (List.mem_append_left _ hq)
    have NL : News h₀ L h9 (lexLed w { d with t1 := t1 } (lawText xs) tx k (lnK (lawText xs) k) []) := fun q hq => N9 q (.tail _ (.tail _ (.tail _ (List.mem_append_left _ hq))))
    have N9r : News h₀ L h9 ((L + 4, o4) :: (lexLed w { d with t1 := t1 } (lawText xs) tx k (lnK (lawText xs) k) [] ++ RV)) := fun q hq => by
      rcases List.mem_cons.mp hq with rfl | hq
      · exact N9 _ (.tail _ (.tail _ (.tail _ (List.mem_append_right _ hm4))))
      · exact N9 q (.tail _ (.tail _ (.tail _ hq)))
    unfold lexLed at N9r
    dsimp only [List.cons_append, List.nil_append] at N9r
    clear N N1
    k_with "eval Name" => (refine nameCl N9r (.head _) ho4 ?_)
    k_steps
    refine ⟨?_⟩
    refine of_UU (gt_read (h₀ := h₀) (d := { d with t1 := t1 }) LT.g (by exact F9.keep) LT.C ⟨hok.code, hok.qual, hok.cell, hok.nd⟩ hk htsz (fun q hq => ⟨(NL q hq).1, (NL q hq).2.2⟩) ?_) rfl (Nat.le_of_ble_eq_true rfl) (Nat.le_of_ble_eq_true rfl)
    intro tv y k' t1' s4 hgt hk' h4 ev4 gn4
    rw [hdr, hrd.turn i hix] at hgt
    obtain ⟨hy, hrest⟩ := Prod.mk.inj hgt
    have O9 := led_out NL
    have F4 := fr_out F9 O9.1 O9.2 ev4.heap
    refine ⟨⟨lexLed w { d with t1 := t1' } (lawText xs) tx k' (lnK (lawText xs) k') [] ++ RV, ⟨gn4, ev4.drawn, ev4.os⟩, F4, ?_, ?_, ?_, k', t1', ?_, rfl, hrest, hk'⟩⟩
    · refine lex_news (d := { d with t1 := t1 }) (d' := { d with t1 := t1' }) rfl N9 NL h4 ev4.heap (fun q hq => ?_)
      rcases List.mem_cons.mp hq with rfl | hq
      · exact .inr ⟨.head _, fun hm => (lexOff _ hm).1 rfl⟩
      · rcases List.mem_cons.mp hq with rfl | hq
        · exact .inr ⟨.tail _ (.head _), fun hm => (lexOff _ hm).2.1 rfl⟩
        · rcases List.mem_cons.mp hq with rfl | hq
          · exact .inr ⟨.tail _ (.tail _ (.head _)), fun hm => (lexOff _ hm).2.2 rfl⟩
          · rcases List.mem_append.mp hq with hq | hq
            · exact .inl hq
            · exact .inr ⟨.tail _ (.tail _ (.tail _ (List.mem_append_right _ hq))), hRA q hq⟩
    · refine LCg.Off3.of fun q hq => ?_
      rcases List.mem_append.mp hq with hq | hq
      · exact lexOff _ (List.mem_map_of_mem (f := (·.1)) hq)
      · exact off' q (List.mem_append_right _ hq)
    · exact .inr ⟨_, List.mem_append_right _ hmw, rfl, _, rfl⟩
    · have hlt : i < (wordsR xs).length := by rw [hwl]; exact hix
      rw [take_snoc Str.empty hlt]
      have ey : y = (wordsR xs).getD i Str.empty := by
        have : y.cps = ((wordsR xs).getD i Str.empty).cps := Array.toList_inj.mp hy
        cases y; cases h5 : (wordsR xs).getD i Str.empty; rw [h5] at this; cases this; rfl
      rw [← ey]
      exact hys.append' (.cons _ _ .nil)
  · rintro D h9 tk9 ys news s₃ sm ⟨k, t1, hys, hnw, hdr, hk⟩ F9 N9 off
    rw [hwits] at hdr hys
    rw [← hwl, List.take_length] at hys
    subst hnw
    clear N N1
    have N9r : News h₀ L h9 ((D, LCg.lst ys) :: (wd, ({ cls := .type "list", data := .seq wits.toArray wk } : Obj)) :: (L + 3, o3) :: (lexLed w { d with t1 := t1 } (lawText xs) tx k (lnK (lawText xs) k) [] ++ RV)) := fun q hq => by
      rcases List.mem_cons.mp hq with rfl | hq
      · exact N9 _ (.head _)
      · rcases List.mem_cons.mp hq with rfl | hq
        · exact N9 _ (.tail _ (List.mem_append_right _ hmw))
        · rcases List.mem_cons.mp hq with rfl | hq
          · exact N9 _ (.tail _ (List.mem_append_right _ hm3))
          · exact N9 q (.tail _ hq)
    clear N9
    k_steps
    refine ⟨?_⟩
    (rename Fr _ _ _ _ => FZ); (rename News _ _ _ _ => NZ)
    have hwok := wordsR_ok xs hx6
    refine ne_strs (NZ.isList (.head _)) (NZ.isList (.tail _ (.head _))) hys hwi hwok hwok (Nat.le_of_ble_eq_true rfl) ?_
    rw [show (!decide (wordsR xs = wordsR xs)) = false from by simp]
    k_with "execs cons" => (refine stop ?_)
    k_steps
    refine ⟨?_⟩
    (rename Fr _ _ _ _ => FY); (rename News _ _ _ _ => NY)
    refine next k t1 _ _ _ _ hk hdr (hs.to.trans sm.sh).to FY rfl rfl rfl (fun q hq => NY q ?_)
    rw [← hRV] at hq
    exact .tail _ (.tail _ (.tail _ hq))
end

-- part K5
section
section
variable {prog : Program} {w : World} {A : Around} {E : Value → Shared → Prop} {s : Shared} {h₀ : Heap} {L : Addr} {m : Str → Option Value}
/-- a list comprehension over a list whose element may make things, stored to a local name -/
theorem comp_any_to {env : Env} {elt iter : Expr} {x y : Str} {px py : Pos} {scope : Scope} {cl : List (Str × Addr)} {pos spos : Pos} {Q : Flow → Shared → Prop} {l : Addr} {its : List Value} (Inv : Nat → List Value → List (Addr × Obj) → Prop)
    (F₀ : Fr h₀ L s.heap m) (hLe : env.locals = L)
    (hsw : swapsWith (.ListComp elt [⟨.Name x px, iter, [], 0⟩] scope pos) (some (.Name y py)) spos.line env = pure true)
    (hclos : closureFor scope env = pure cl) (hcell : ∀ y ∈ scope.names, y.2 ≠ .cell) (hkind : scope.kind = .function)
    (hnames : ∀ y ∈ scope.names, y.2 = .local → scope.names.lookup y.1 = some .local) (hx : scope.names.lookup x = some .local) (hsz : its.length ≤ 1000) (hh : A.handled = none)
    (hy : env.kindOf y = some .local) (hp : (env.scope.kind == .class || (env.scope.kind == .module && env.locals != env.globals)) = false)
    (h : wpAny (model prog w) A (eval iter env) (fun xv s₁ => Stop (∃ news, xv = .ref l ∧ Fr h₀ L s₁.heap m ∧ News h₀ L s₁.heap news ∧ LCg.SrcAt h₀ l its.toArray news ∧ Inv 0 [] news ∧
      (∀ i ys news v I oI C oC D m₂ h tk (E' : Value → Shared → Prop) (s₁' : Shared), Same s₁ s₁' → i < its.length → its[i]? = some v → Inv i ys news → LCg.NsObj oC m₂ → m₂ x = some v → Fr h₀ L h m → News h₀ L h ((I, oI) :: (C, oC) :: (D, LCg.lst ys) :: news) → LCg.Off3 I C D news → (@Ne Nat I C ∧ @Ne Nat I D ∧ @Ne Nat C D) →
        wpAny (model prog w) A (eval elt (compEnvC scope cl C env)) (AnyEnd h₀ L m { s₁' with heap := h, toks := tk } I oI C oC D ys (LCg.SrcAt h₀ l its.toArray) (Inv (i + 1))) E' { s₁' with heap := h, toks := tk }) ∧
      (∀ D h tk ys news (s₁' : Shared), Same s₁ s₁' → Inv its.length ys news → Fr h₀ L h (fun z => if z = y then some (.ref D) else m z) → News h₀ L h ((D, LCg.lst ys) :: news) → LCg.Off1 D news → Q .next { s₁' with heap := h, toks := tk }))) E s)
    (hs : ∀ x, foldedSetIterable iter env x = pure x := by intro _; rfl) :
    wpAny (model prog w) A (exec (.Assign [.Name y py] (.ListComp elt [⟨.Name x px, iter, [], 0⟩] scope pos) spos) env) Q E s := by
  refine LCg.Assign_ListComp_U F₀ hLe hsw hclos hcell hkind hnames hx hy hp (wpAny_mono h (fun xv s₁ h₁ => ?_) fun _ _ e => e) hs
  obtain ⟨⟨news, rfl, F, N, hS, hI, hel, hfin⟩⟩ := h₁
  have hsz' : its.toArray.size ≤ sizeLine := by rw [List.size_toArray]; exact Nat.le_trans hsz (by rw [sizeLine_eq]; decide)
  refine .inl ⟨l, its.toArray, news, rfl, hh, F, N, hS, hsz', fun s₂ hs₂ => ?_⟩
  obtain ⟨g, rfl⟩ := hs₂
  have sm : Same s₁ { s₁ with heap := g } := ⟨rfl, rfl, rfl⟩
  refine rest_any (n := its.length) Inv (fun i ys news v I oI C oC D m₂ h tk E' hi hP hI hC hx F N off ne => hel i ys news v I oI C oC D m₂ h tk E' _ sm hi (by simpa using hP) hI hC hx F N off ne) (fun ys news hI D h tk F N off => hfin D h tk ys news _ sm hI F N off) _ 0 [] news (by rw [List.size_toArray]; omega) hI
end
end

-- part HE
section
theorem fresh_HE : True := by
  k_with_none
  exact trivial
local macro_rules | `(tactic| walk_at "eval ListComp") => `(tactic| (refine stop ?_))
local macro_rules | `(tactic| walk_at "subscriptTail") => `(tactic| (refine stop ?_))
local macro_rules | `(tactic| walk_at "call ref") => `(tactic| (refine stop ?_))
local macro_rules | `(tactic| walk_at "compareOp NotEq ref ref") => `(tactic| (refine stop ?_))
local macro_rules | `(tactic| walk_at "compareOp NotEq") => `(tactic| (refine stop ?_))
local macro_rules | `(tactic| walk_at "storeName") => `(tactic| (refine stop ?_))
local macro_rules | `(tactic| walk_at "eval List") => `(tactic| (refine List_ ?_))
local macro_rules | `(tactic| walk_at "exec Assign cons ListComp") => `(tactic| (refine stop ?_))
noncomputable def dresF (x : Int) : Str := [Str.ofString "", Str.ofString "\\(", Str.ofString "\")\"", Str.ofString "\\\\", Str.ofString "\\\"", Str.ofString "\"(\""].getD (Int.fmod (Int.fdiv x 11520) 6).toNat Str.empty
noncomputable def dressR (xs : List Int) : List Str := xs.map dresF
/-- what is asked of the first row of brackets -/
structure PlainD (xs : List Int) : Prop where
  bd : ∀ k, 0 ≤ (levR xs).getD k 0 ∧ (levR xs).getD k 0 < 100
  size : (sgnR (levR xs)).cps.size < 100
  dok : DepOk (sgnR (levR xs)) (dressR xs)
  dep : depR (sgnR (levR xs)) (dressR xs) = levR xs
theorem stageD {w : World} {p : Program} {loose : List Str} {mean : ExcName → Option Value} {mg mb : Str → Option Value} {h₀ : Heap} {s₁ s : Shared} {L fa : Addr} {cdv : Value} {c5 : Obj}
  (LT : LawTop w p loose mean mg mb h₀) (l0 : Nat.lt 137 L)
  (d5 : c5.data = .cell none)
  (b : List Stmt) (sc : Scope) (e : lawFd w.params = some (b, sc))
  {xs : List Int} {dr lv fg wd : Addr} {dits ll fits wits : List Value} {dn ln fk wk : Nat} {o1 o2 o3 o4 : Obj} {m : Str → Option Value} {tx ty tz : Tok} {d : LexD} {ps : Array Value} (hxl : xs.length = 5 ∨ xs.length = 6) (hxb : ∀ x ∈ xs, 0 ≤ x ∧ x < 69120) (hxi : IntsAre dits xs) (hli : IntsAre ll (levR xs)) (hfi : IntsAre fits (xs.map figF)) (hwi : StrsAre wits (wordsR xs)) (hok : LexOk d) (hpl : PlainD xs) (hs : Sh s₁ s)
  (F : Fr h₀ L s.heap m) (hm1 : m (Str.ofString "drawn") = some (.ref dr)) (hm2 : m (Str.ofString "size") = some (.int ((levR xs).length : Nat) tz)) (hm3 : m (Str.ofString "text") = some (.str (lawText xs) ty)) (ho1 : o1.data = .cell (some (.ref lv))) (ho2 : o2.data = .cell (some (.ref fg))) (ho3 : o3.data = .cell (some (.ref wd))) (ho4 : o4.data = .cell (some (.ref d.ln)))
  {k : Nat} {t1 : Tok} (N : News h₀ L s.heap (lexLed w { d with t1 := t1 } (lawText xs) tx k (lnK (lawText xs) k) [] ++ [(wd, ({ cls := .type "list", data := .seq wits.toArray wk } : Obj)), (fg, { cls := .type "list", data := .seq fits.toArray fk }), (lv, { cls := .type "list", data := .seq ll.toArray ln }), (dr, { cls := .type "list", data := .seq dits.toArray dn }), (L + 5, c5), (L + 4, o4), (L + 3, o3), (L + 2, o2), (L + 1, o1), (137, tabObj ps)]))
  (nd : List.Nodup (α := Nat) (lexA d ++ [wd, fg, lv, dr, L + 5, L + 4, L + 3, L + 2, L + 1, 137]))
  (next : ∀ (dp : Addr) (pits : List Value) (pk : Nat) (o5 : Obj) (m' : Str → Option Value) (ty tz : Tok) (s' : Shared), IntsAre pits (levR xs) → Sh s₁ s' → o5.data = .cell (some (.ref dp)) →
    Fr h₀ L s'.heap m' → m' (Str.ofString "size") = some (.int ((levR xs).length : Nat) tz) → m' (Str.ofString "text") = some (.str (lawText xs) ty) →
    News h₀ L s'.heap (lexLed w { d with t1 := t1 } (lawText xs) tx k (lnK (lawText xs) k) [] ++ (dp, ({ cls := .type "list", data := .seq pits.toArray pk } : Obj)) :: [(wd, ({ cls := .type "list", data := .seq wits.toArray wk } : Obj)), (fg, { cls := .type "list", data := .seq fits.toArray fk }), (lv, { cls := .type "list", data := .seq ll.toArray ln }), (dr, { cls := .type "list", data := .seq dits.toArray dn }), (L + 5, o5), (L + 4, o4), (L + 3, o3), (L + 2, o2), (L + 1, o1), (137, tabObj ps)]) →
    List.Nodup (α := Nat) (lexA d ++ [dp, wd, fg, lv, dr, L + 5, L + 4, L + 3, L + 2, L + 1, 137]) →
    wpAny (model PySem.Challenge.rw_us0006_01.row.prog w) (callerA.deeper (envOfC (Str.ofString "law") sc L fa cdv)) (execs (b.drop 11) (envOfC (Str.ofString "law") sc L fa cdv)) (LawQ h₀ s₁) (fun _ _ => False) s') :
  wpAny (model PySem.Challenge.rw_us0006_01.row.prog w) (callerA.deeper (envOfC (Str.ofString "law") sc L fa cdv)) (execs (b.drop 8) (envOfC (Str.ofString "law") sc L fa cdv)) (LawQ h₀ s₁) (fun _ _ => False) s := by
  revert next; revert e; revert b sc
  refine law_all rfl ?_
  intro next
  have X := LT.g.X
  revert X; k_fill; intro X
  have T := LT.T
  have B := LT.B
  have C := LT.C
  have hx6 : xs.length ≤ 6 := by omega
  have hwl : (wordsR xs).length = xs.length := by unfold wordsR; rw [List.length_map, List.length_range]
  have hwits : wits.length = xs.length := by rw [hwi.len_eq, hwl]
  have hlen2 : (levR xs).length = xs.length := levR_len xs (by omega)
  have hx5 : 5 ≤ xs.length := by omega
  have F0 : Fr h₀ L s.heap (bd m [(Str.ofString "drawn", .ref dr), (Str.ofString "size", .int ((levR xs).length : Nat) tz), (Str.ofString "text", .str (lawText xs) ty)]) := by rw [bd_eq (List.forall_mem_cons.mpr ⟨hm1, List.forall_mem_cons.mpr ⟨hm2, List.forall_mem_singleton.mpr hm3⟩⟩)]; exact F
  clear F hm1 hm2 hm3 hxl
  dsimp only [List.drop_succ_cons, List.drop_zero]
  obtain ⟨RV, hRV⟩ : ∃ RV, RV = lexLed w { d with t1 := t1 } (lawText xs) tx k (lnK (lawText xs) k) [] ++ [(wd, ({ cls := .type "list", data := .seq wits.toArray wk } : Obj)), (fg, { cls := .type "list", data := .seq fits.toArray fk }), (lv, { cls := .type "list", data := .seq ll.toArray ln }), (dr, { cls := .type "list", data := .seq dits.toArray dn }), (L + 5, c5), (L + 4, o4), (L + 3, o3), (L + 2, o2), (L + 1, o1), (137, tabObj ps)] := ⟨_, rfl⟩
  rw [← hRV] at N
  have hml : (lv, ({ cls := .type "list", data := .seq ll.toArray ln } : Obj)) ∈ RV := by rw [hRV]; exact List.mem_append_right _ (by k_mem)
  have hmd : (dr, ({ cls := .type "list", data := .seq dits.toArray dn } : Obj)) ∈ RV := by rw [hRV]; exact List.mem_append_right _ (by k_mem)
  have hm1 : (L + 1, o1) ∈ RV := by rw [hRV]; exact List.mem_append_right _ (by k_mem)
  have hm5 : (L + 5, c5) ∈ RV := by rw [hRV]; exact List.mem_append_right _ (by k_mem)
  have N1 : News h₀ L s.heap ((lv, ({ cls := .type "list", data := .seq ll.toArray ln } : Obj)) :: (dr, ({ cls := .type "list", data := .seq dits.toArray dn } : Obj)) :: (L + 1, o1) :: (L + 5, c5) :: RV) := fun q hq => by
    rcases List.mem_cons.mp hq with rfl | hq
    · exact N _ hml
    · rcases List.mem_cons.mp hq with rfl | hq
      · exact N _ hmd
      · rcases List.mem_cons.mp hq with rfl | hq
        · exact N _ hm1
        · rcases List.mem_cons.mp hq with rfl | hq
          · exact N _ hm5
          · exact N q hq
  clear N
  k_steps
  refine ⟨?_⟩
  have hdl : dits.length = xs.length := hxi.length
  refine comp_any_to (h₀ := h₀) (L := L) (l := dr) (its := dits) (fun i ys news => StrsAre ys ((dressR xs).take i) ∧ news = (lv, ({ cls := .type "list", data := .seq ll.toArray ln } : Obj)) :: (dr, ({ cls := .type "list", data := .seq dits.toArray dn } : Obj)) :: (L + 1, o1) :: (L + 5, c5) :: RV) F0 rfl rfl rfl (by decide) rfl (by decide) rfl (by omega) rfl rfl rfl ?_ (fun _ => rfl)
  k_steps
  refine ⟨⟨_, rfl, F0, N1, .inr ⟨_, .tail _ (.head _), rfl, _, rfl⟩, ⟨.nil, rfl⟩, ?_, ?_⟩⟩
  · rintro i ys news v I oI C' oC D m₂ h9 tk9 E' s₃ sm hi2 hv ⟨hys, hnw⟩ hC hxv F9 N9 off ne
    obtain ⟨z, t, rfl⟩ := hxi.all v (List.mem_of_getElem? hv)
    have hix : i < xs.length := by omega
    have hzi : xs[i] = z := by
      obtain ⟨t', ht'⟩ := hxi.get i (xs[i]) (List.getElem?_eq_getElem hix)
      rw [hv] at ht'
      injection ht' with e; injection e with e1 _
      exact e1.symm
    have hzb := hxb z (hzi ▸ List.getElem_mem hix)
    have hk6 : 0 ≤ Int.fmod (Int.fdiv z 11520) 6 := by rw [Int.fmod_eq_emod_of_nonneg _ (by decide)]; omega
    have hk7 : Int.fmod (Int.fdiv z 11520) 6 < ([Str.ofString "", Str.ofString "\\(", Str.ofString "\")\"", Str.ofString "\\\\", Str.ofString "\\\"", Str.ofString "\"(\""] : List Str).length := by
      show _ < ((6 : Nat) : Int)
      rw [Int.fmod_eq_emod_of_nonneg _ (by decide)]; omega
    have N9r : News h₀ L h9 ((C', oC) :: (I, oI) :: (D, LCg.lst ys) :: news) := fun q hq => by
      rcases List.mem_cons.mp hq with rfl | hq
      · exact N9 _ (.tail _ (.head _))
      · rcases List.mem_cons.mp hq with rfl | hq
        · exact N9 _ (.head _)
        · exact N9 q (.tail _ (.tail _ hq))
    clear F0 N1 nd N9
    k_with "eval Name" => (refine nameN N9r (.head _) hC hxv ?_ rfl)
    k_steps
    refine ⟨?_⟩
    refine kba_turn (value' := PySem.Expr.Name (PySem.Str.ofString "_") ⟨0, 0, 0, 0⟩) (fun _ => rfl) ?_
    refine item_tbl (tbl := [Str.ofString "", Str.ofString "\\(", Str.ofString "\")\"", Str.ofString "\\\\", Str.ofString "\\\"", Str.ofString "\"(\""]) (by assumption) (.head _) ?hS hk6 hk7 (by decide) (fun t3 => ?_)
    case hS => exact .cons _ _ (.cons _ _ (.cons _ _ (.cons _ _ (.cons _ _ (.cons _ _ .nil)))))
    (rename Fr _ _ _ _ => FX); (rename News _ _ _ _ => NX)
    refine ⟨⟨news, ⟨rfl, rfl, rfl⟩, FX, fun q hq => NX q ?_, off, ?_, ?_, hnw⟩⟩
    · rcases List.mem_cons.mp hq with rfl | hq
      · exact .tail _ (.tail _ (.head _))
      · rcases List.mem_cons.mp hq with rfl | hq
        · exact .tail _ (.head _)
        · exact .tail _ (.tail _ (.tail _ hq))
    · rw [hnw]; exact .inr ⟨_, .tail _ (.head _), rfl, _, rfl⟩
    · have hlt : i < (dressR xs).length := by unfold dressR; rw [List.length_map]; exact hix
      rw [take_snoc Str.empty hlt]
      have ez : (dressR xs).getD i Str.empty = dresF z := by
        have e5 : (dressR xs)[i]? = some (dresF z) := by
          show (xs.map dresF)[i]? = _
          rw [List.getElem?_map, List.getElem?_eq_getElem hix, hzi]; rfl
        rw [List.getD_eq_getElem?_getD, e5]; rfl
      rw [ez]
      exact hys.append' (.cons _ _ .nil)
  · rintro ds h' tk sits news s₃ sm ⟨hsi, hnw⟩ F6 N6 off
    have hsi : StrsAre sits (dressR xs) := by
      have hl : dits.length = (dressR xs).length := by unfold dressR; rw [List.length_map]; exact hdl
      rw [hl, List.take_length] at hsi; exact hsi
    rw [hnw] at N6
    clear F0 N1
    k_steps
    refine ⟨?_⟩
    (rename Fr _ _ _ _ => FA); (rename News _ _ _ _ => NA)
    refine of_UU (signs_spec (LT.g.keeps FA.keep) (NA.isList (by k_mem)) hli (by rw [hlen2]; omega) (by rw [hlen2]; omega) hpl.bd ?_) rfl (Nat.le_of_ble_eq_true rfl) (Nat.le_of_ble_eq_true rfl)
    intro tsg s7 ev7
    have F7 := FA.keeps ev7.keep
    have N7 : News h₀ L s7.heap _ := fun q hq => ⟨ev7.keep _ _ (NA q hq).1, (NA q hq).2⟩
    clear FA NA
    k_steps
    refine ⟨?_⟩
    (rename Fr _ _ _ _ => FB); (rename News _ _ _ _ => NB)
    refine of_UU (depths_spec (LT.g.keeps FB.keep) (NB.isList (.head _)) hsi hpl.size hpl.dok ?_) rfl (Nat.le_of_ble_eq_true rfl) (Nat.le_of_ble_eq_true rfl)
    intro dp pits pk s8 h81 h82 hpi ev8
    rw [hpl.dep] at hpi
    obtain ⟨F8, N8, z8⟩ := news_add FB NB ev8 h81 h82
    clear FB NB
    k_steps
    refine ⟨?_⟩
    have hnd2 := List.nodup_append.mp nd
    have hne : ∀ q ∈ lexLed w { d with t1 := t1 } (lawText xs) tx k (lnK (lawText xs) k) [] ++ ([(wd, ({ cls := .type "list", data := .seq wits.toArray wk } : Obj)), (fg, { cls := .type "list", data := .seq fits.toArray fk }), (lv, { cls := .type "list", data := .seq ll.toArray ln }), (dr, { cls := .type "list", data := .seq dits.toArray dn }), (L + 4, o4), (L + 3, o3), (L + 2, o2), (L + 1, o1), (137, tabObj ps)]), q.1 ≠ L + 5 := fun q hq => by
      rcases List.mem_append.mp hq with hq | hq
      · exact hnd2.2.2 q.1 (List.mem_map_of_mem (f := (·.1)) hq) (L + 5) (by k_mem)
      · exact led_away (l₁ := [wd, fg, lv, dr]) (l₂ := [L + 4, L + 3, L + 2, L + 1, 137]) hnd2.2.1 rfl q hq
    have hsubR : ∀ q ∈ lexLed w { d with t1 := t1 } (lawText xs) tx k (lnK (lawText xs) k) [] ++ ([(wd, ({ cls := .type "list", data := .seq wits.toArray wk } : Obj)), (fg, { cls := .type "list", data := .seq fits.toArray fk }), (lv, { cls := .type "list", data := .seq ll.toArray ln }), (dr, { cls := .type "list", data := .seq dits.toArray dn }), (L + 4, o4), (L + 3, o3), (L + 2, o2), (L + 1, o1), (137, tabObj ps)]), q ∈ RV := fun q hq => by
      rw [hRV]
      rcases List.mem_append.mp hq with hq | hq
      · exact List.mem_append_left _ hq
      · refine List.mem_append_right _ ?_
        refine mem_all (P := fun q => q ∈ _) hq ?_
        (repeat' (first | exact List.forall_mem_nil _ | refine List.forall_mem_cons.mpr ⟨?_, ?_⟩)) <;> k_mem

    have dlv : lv ≠ L + 5 := nodup_away (l₁ := [wd, fg, lv, dr]) (l₂ := [L + 4, L + 3, L + 2, L + 1, 137]) hnd2.2.1 lv (by k_mem)
    have d15 : L + 1 ≠ L + 5 := fun e => hne (L + 1, o1) (List.mem_append_right _ (by k_mem)) e
    have ddp : dp ≠ L + 5 := z8 (L + 5, c5) (by k_mem)
    have hzR : ∀ q ∈ RV, @Ne Nat dp q.1 := fun q hq => z8 q (by first | exact List.mem_of_mem_drop (i := 5) hq | exact .tail _ (.tail _ (.tail _ (.tail _ (.tail _ hq)))))
    refine store_cell (c := L + 5) (o := c5) (rest := (dp, ({ cls := .type "list", data := .seq pits.toArray pk } : Obj)) :: (lv, ({ cls := .type "list", data := .seq ll.toArray ln } : Obj)) :: (L + 1, o1) :: (lexLed w { d with t1 := t1 } (lawText xs) tx k (lnK (lawText xs) k) [] ++ ([(wd, ({ cls := .type "list", data := .seq wits.toArray wk } : Obj)), (fg, { cls := .type "list", data := .seq fits.toArray fk }), (lv, { cls := .type "list", data := .seq ll.toArray ln }), (dr, { cls := .type "list", data := .seq dits.toArray dn }), (L + 4, o4), (L + 3, o3), (L + 2, o2), (L + 1, o1), (137, tabObj ps)]))) F8 N8 (by k_mem) d5 (fun q hq => ?_) (fun h9 o5 F9 N9 ho5 => ?_)
    · rcases List.mem_cons.mp hq with rfl | hq
      · exact ⟨by k_mem, ddp⟩
      · rcases List.mem_cons.mp hq with rfl | hq
        · exact ⟨by k_mem, dlv⟩
        · rcases List.mem_cons.mp hq with rfl | hq
          · exact ⟨by k_mem, d15⟩
          · exact ⟨.tail _ (.tail _ (.tail _ (.tail _ (.tail _ (.tail _ (hsubR q hq)))))), hne q hq⟩
    clear F8 N8
    k_steps
    refine ⟨?_⟩
    (rename Fr _ _ _ _ => FC); (rename News _ _ _ _ => NC)
    refine ke_ne_ints (xs := pits) (ys := ll) (ns := levR xs) (ms := levR xs) ?zq1 ?zq2 ?zq3 ?zq4 ?zq5 ?zq6
    case zq1 => exact NC.isList (.tail _ (.head _))
    case zq2 => exact NC.isList (.tail _ (.tail _ (.head _)))
    case zq3 => exact hpi
    case zq4 => exact hli
    case zq5 => exact Nat.le_of_ble_eq_true rfl
    rw [show (!decide (levR xs = levR xs)) = false from by rw [decide_eq_true rfl]; rfl]
    k_with "execs cons" => (refine stop ?_)
    k_steps
    refine ⟨?_⟩
    (rename Fr _ _ _ _ => FD); (rename News _ _ _ _ => ND)
    refine next dp pits pk o5 _ _ _ _ hpi ?hsh ho5 FD rfl rfl (fun q hq => ND q ?_) ?_
    case hsh => exact (((hs.to.trans sm.sh).to.trans ev7.sh).to.trans ev8.sh).to
    · rcases List.mem_append.mp hq with hq | hq
      · exact .tail _ (.tail _ (.tail _ (.tail _ (List.mem_append_left _ hq))))
      · refine mem_all (P := fun q => q ∈ _) hq ?_
        (repeat' (first | exact List.forall_mem_nil _ | refine List.forall_mem_cons.mpr ⟨?_, ?_⟩)) <;> (first | exact .head _ | exact .tail _ (.head _) | exact .tail _ (.tail _ (.head _)) | exact .tail _ (.tail _ (.tail _ (.head _))) | exact .tail _ (.tail _ (.tail _ (.tail _ (List.mem_append_right _ (by k_mem))))))
    · have hm : ∀ a ∈ lexA d ++ [wd, fg, lv, dr, L + 5, L + 4, L + 3, L + 2, L + 1, 137], @Ne Nat dp a := fun a ha => by
        obtain ⟨q, hq, e⟩ := List.mem_map.mp (show a ∈ RV.map (·.1) from by rw [hRV, List.map_append]; exact ha)
        exact e ▸ hzR q hq
      exact List.nodup_append.mpr ⟨hnd2.1, List.nodup_cons.mpr ⟨fun h => hm dp (List.mem_append_right _ h) rfl, hnd2.2.1⟩, fun a ha b hb => by
        rcases List.mem_cons.mp hb with rfl | hb
        · exact Ne.symm (hm a (List.mem_append_left _ ha))
        · exact hnd2.2.2 a ha b hb⟩
end

-- part HF
section
theorem fresh_HF : True := by
  k_with_none
  exact trivial
local macro_rules | `(tactic| walk_at "call ref") => `(tactic| (refine stop ?_))
/-- the things that stand still from here on -/
structure LawTail (xs : List Int) (L : Addr) (d : LexD) (RV : List (Addr × Obj)) (lv fg wd dp : Addr) (ll fits wits pits : List Value) (ln fk wk pk : Nat) (o1 o2 o3 o4 o5 : Obj) : Prop where
  h5 : 5 ≤ xs.length
  h6 : xs.length ≤ 6
  mlv : (lv, ({ cls := .type "list", data := .seq ll.toArray ln } : Obj)) ∈ RV
  mfg : (fg, ({ cls := .type "list", data := .seq fits.toArray fk } : Obj)) ∈ RV
  mwd : (wd, ({ cls := .type "list", data := .seq wits.toArray wk } : Obj)) ∈ RV
  mdp : (dp, ({ cls := .type "list", data := .seq pits.toArray pk } : Obj)) ∈ RV
  m1 : (L + 1, o1) ∈ RV
  m2 : (L + 2, o2) ∈ RV
  m3 : (L + 3, o3) ∈ RV
  m4 : (L + 4, o4) ∈ RV
  m5 : (L + 5, o5) ∈ RV
  ho1 : o1.data = .cell (some (.ref lv))
  ho2 : o2.data = .cell (some (.ref fg))
  ho3 : o3.data = .cell (some (.ref wd))
  ho4 : o4.data = .cell (some (.ref d.ln))
  ho5 : o5.data = .cell (some (.ref dp))
  hli : IntsAre ll (levR xs)
  hfi : IntsAre fits (xs.map figF)
  hwi : StrsAre wits (wordsR xs)
  hpi : IntsAre pits (levR xs)
  off : ∀ q ∈ RV, q.1 ∉ lexA d
theorem stageE1 {w : World} {p : Program} {loose : List Str} {mean : ExcName → Option Value} {mg mb : Str → Option Value} {h₀ : Heap} {s₁ s : Shared} {L fa : Addr} {cdv : Value}
  (LT : LawTop w p loose mean mg mb h₀)
  (b : List Stmt) (sc : Scope) (e : lawFd w.params = some (b, sc))
  {xs : List Int} {RV : List (Addr × Obj)} {lv fg wd dp : Addr} {ll fits wits pits : List Value} {ln fk wk pk : Nat} {o1 o2 o3 o4 o5 : Obj} {m : Str → Option Value} {tx ty tz : Tok} {d : LexD} {k : Nat} {n : Int}
  (hok : LexOk d) (hT : LawTail xs L d RV lv fg wd dp ll fits wits pits ln fk wk pk o1 o2 o3 o4 o5) (hs : Sh s₁ s)
  (F : Fr h₀ L s.heap m) (hm2 : m (Str.ofString "size") = some (.int ((levR xs).length : Nat) tz)) (hm3 : m (Str.ofString "text") = some (.str (lawText xs) ty))
  (N : News h₀ L s.heap (lexLed w d (lawText xs) tx k n [] ++ RV))
  (next : ∀ (z : Nat) (m' : Str → Option Value) (s' : Shared), Sh s₁ s' →
    Fr h₀ L s'.heap m' → m' (Str.ofString "size") = some (.int ((levR xs).length : Nat) tz) → m' (Str.ofString "text") = some (.str (lawText xs) ty) →
    News h₀ L s'.heap (lexLed w { d with nn := z } (lawText xs) tx k n wits ++ RV) →
    wpAny (model PySem.Challenge.rw_us0006_01.row.prog w) (callerA.deeper (envOfC (Str.ofString "law") sc L fa cdv)) (execs (b.drop 12) (envOfC (Str.ofString "law") sc L fa cdv)) (LawQ h₀ s₁) (fun _ _ => False) s') :
  wpAny (model PySem.Challenge.rw_us0006_01.row.prog w) (callerA.deeper (envOfC (Str.ofString "law") sc L fa cdv)) (execs (b.drop 11) (envOfC (Str.ofString "law") sc L fa cdv)) (LawQ h₀ s₁) (fun _ _ => False) s := by
  revert next; revert e; revert b sc
  refine law_all rfl ?_
  intro next
  have X := LT.g.X
  revert X; k_fill; intro X
  have T := LT.T
  have B := LT.B
  have C := LT.C
  have hwl : (wordsR xs).length = xs.length := by unfold wordsR; rw [List.length_map, List.length_range]
  have hwits : wits.length = xs.length := by rw [hT.hwi.len_eq, hwl]
  have hx6 := hT.h6
  have F0 : Fr h₀ L s.heap (bd m [(Str.ofString "size", .int ((levR xs).length : Nat) tz), (Str.ofString "text", .str (lawText xs) ty)]) := by rw [bd_eq (List.forall_mem_cons.mpr ⟨hm2, List.forall_mem_singleton.mpr hm3⟩)]; exact F
  clear F hm2 hm3
  dsimp only [List.drop_succ_cons, List.drop_zero]
  have hm4 := hT.m4
  have ho4 := hT.ho4
  have hm3 := hT.m3
  have ho3 := hT.ho3
  have hmw := hT.mwd
  have hmap : ∀ (c : Nat × List Value), (lexLed w { d with nn := c.1 } (lawText xs) tx k n c.2).map (·.1) = lexA d := fun _ => rfl
  k_steps
  refine ⟨?_⟩
  refine for_walk (h₀ := h₀) (n := xs.length) (Pt := fun i v => wits[i]? = some v) (σ := Nat × List Value)
    (fun z => lexLed w { d with nn := z.1 } (lawText xs) tx k n z.2 ++ RV)
    (fun c => [("size", .int ((levR xs).length : Nat) tz), ("text", .str (lawText xs) ty)])
    (fun i c s' => Sh s₁ s' ∧ c.2 = wits.take i)
    (lexA d ++ RV.map (·.1)) (fun c => by rw [List.map_append]; rfl) rfl rfl (fun _ _ _ _ _ h => ⟨h.1.to, h.2⟩) ?_ ?_ ?hn1 ?_ (fun _ => rfl)
  case hn1 => intro c; simp only [List.forall_mem_cons]; decide
  · have N1 : News h₀ L s.heap ((L + 3, o3) :: (wd, ({ cls := .type "list", data := .seq wits.toArray wk } : Obj)) :: (lexLed w d (lawText xs) tx k n [] ++ RV)) := fun q hq => by
      rcases List.mem_cons.mp hq with rfl | hq
      · exact N _ (List.mem_append_right _ hm3)
      · rcases List.mem_cons.mp hq with rfl | hq
        · exact N _ (List.mem_append_right _ hmw)
        · exact N q hq
    clear N
    k_with "pyIter ref" => (refine stop ?_)
    k_steps
    refine ⟨?_⟩
    (rename Fr _ _ _ _ => F1)
    refine iter_list (d.nn, []) rfl (N1.isList (.tail _ (.head _))) (by rw [List.size_toArray]; exact hwits) (fun i v _ hv => by rw [List.getElem?_toArray] at hv; exact hv) [] (.inr (.inl ⟨_, fun c => List.mem_append_right _ hmw⟩)) (fun p hp => by cases hp) (fun _ _ _ hq => by cases hq) F1 N1 (fun p hp => .tail _ (.tail _ hp)) (by walk_at "m_all") (fun h => ⟨hs.to, rfl⟩)
  · rintro i ⟨z, ws⟩ v u s2 own hi2 hv ⟨hs2, hws⟩ F1 N1 hap
    dsimp only at hws F1 N1 hap
    subst hws
    have hown : ∀ q ∈ own, q.1 ∉ lexA d := fun q hq => not_lexA (w := w) (d := { d with nn := z }) (x := lawText xs) (t := tx) (k := k) (n := n) (ws := wits.take i) fun r hr => hap r (List.mem_append_left _ hr) q hq
    have NL : News h₀ L s2.heap (lexLed w { d with nn := z } (lawText xs) tx k n (wits.take i)) := fun q hq => N1 q (List.mem_append_left _ (List.mem_append_left _ hq))
    have N2 : News h₀ L s2.heap ((L + 4, o4) :: (lexLed w { d with nn := z } (lawText xs) tx k n (wits.take i) ++ RV ++ own)) := fun q hq => by
      rcases List.mem_cons.mp hq with rfl | hq
      · exact N1 _ (List.mem_append_left _ (List.mem_append_right _ hm4))
      · exact N1 q hq
    have N3 := N2
    unfold lexLed at N3
    dsimp only [List.cons_append, List.nil_append] at N3
    clear N2 N
    k_steps
    refine ⟨?_⟩
    (rename Fr _ _ _ _ => F3)
    refine of_UU (pt_spec (d := { d with nn := z }) (ws := wits.take i) LT.g (by exact F3.keep) ⟨hok.code, hok.qual, hok.cell, hok.nd⟩ (by rw [List.length_take]; omega) (fun q hq => ⟨(NL q hq).1, (NL q hq).2.2⟩) ?_) rfl (Nat.le_of_ble_eq_true rfl) (Nat.le_of_ble_eq_true rfl)
    intro s4 h4 ev4
    have O4 := led_out NL
    have F4 := fr_out F3 O4.1 O4.2 ev4.heap
    have N4 : News h₀ L s4.heap (lexLed w { d with nn := z + 1 } (lawText xs) tx k n (wits.take i ++ [v]) ++ RV ++ own) := by
      refine lex_news (d := { d with nn := z }) (d' := { d with nn := z + 1 }) rfl N1 NL h4 ev4.heap (fun q hq => ?_)
      rcases List.mem_append.mp hq with hq | hq
      · rcases List.mem_append.mp hq with hq | hq
        · exact .inl hq
        · exact .inr ⟨List.mem_append_left _ (List.mem_append_right _ hq), hT.off q hq⟩
      · exact .inr ⟨List.mem_append_right _ hq, hown q hq⟩
    clear N3 NL N1 F3 h4 F0
    k_steps
    (rename Fr _ _ _ _ => F5)
    refine ⟨(z + 1, wits.take (i + 1)), _, _, ⟨(hs2.to.trans ev4.sh).to, rfl⟩, F5, N4, fun q hq => ?_, fun q hq => List.mem_append_right _ hq, by walk_at "m_all"⟩
    refine List.mem_append_left _ ?_
    have et : wits.take (i + 1) = wits.take i ++ [v] := by
      obtain ⟨hlt, e⟩ := List.getElem?_eq_some_iff.mp hv
      rw [List.take_succ_eq_append_getElem hlt, e]
    rw [← et]; exact hq
  · rintro ⟨z, ws⟩ u s2 ⟨hs2, hws⟩ F1 N1
    dsimp only at hws F1 N1
    subst hws
    rw [List.take_of_length_le (by omega)] at N1
    clear N F0
    k_with "execs cons" => (refine stop ?_)
    k_steps
    refine ⟨?_⟩
    (rename Fr _ _ _ _ => F9); (rename News _ _ _ _ => N9)
    exact next z _ _ hs2.to F9 rfl rfl N9
end

-- part K6
section
section
variable {K : Type} [DecidableEq K]
theorem valueAt_cons (p : K × Value) (r : List (K × Value)) (k : K) : valueAt (p :: r) k = if p.1 = k then some p.2 else valueAt r k := by
  unfold valueAt
  rw [List.find?_cons]
  by_cases e : p.1 = k
  · simp [e]
  · simp [e]
theorem valueAt_map (kvs : List (K × Value)) (k k' : K) (v : Value) : valueAt (kvs.map (fun kv => if kv.1 = k then (kv.1, v) else kv)) k' = if k' = k ∧ (kvs.any (fun kv => kv.1 = k)) = true then some v else valueAt kvs k' := by
  induction kvs with
  | nil => simp [valueAt]
  | cons p r ih =>
    rw [List.map_cons, valueAt_cons, valueAt_cons, ih]
    by_cases e : p.1 = k
    · rw [if_pos e]
      dsimp only
      by_cases e2 : p.1 = k'
      · rw [if_pos e2, if_pos ⟨e2.symm.trans e, by rw [List.any_cons, decide_eq_true e]; rfl⟩]
      · rw [if_neg e2, if_neg (fun h => e2 (e.trans h.1.symm)), if_neg (fun h => e2 (e.trans h.1.symm)), if_neg e2]
    · rw [if_neg e]
      by_cases e2 : p.1 = k'
      · rw [if_pos e2, if_neg (fun h => e (e2.trans h.1)), if_pos e2]
      · rw [if_neg e2, if_neg e2, List.any_cons, decide_eq_false e, Bool.false_or]
theorem valueAt_app (kvs : List (K × Value)) (k k' : K) (v : Value) : valueAt (kvs ++ [(k, v)]) k' = if (kvs.any (fun kv => kv.1 = k')) = true then valueAt kvs k' else if k = k' then some v else none := by
  induction kvs with
  | nil => simp [valueAt_cons, valueAt]
  | cons p r ih =>
    rw [List.cons_append, valueAt_cons, valueAt_cons, ih]
    by_cases e : p.1 = k'
    · rw [if_pos e, if_pos e, if_pos (by rw [List.any_cons, decide_eq_true e]; rfl)]
    · rw [if_neg e, if_neg e, List.any_cons, decide_eq_false e, Bool.false_or]
theorem valueAt_none (kvs : List (K × Value)) (k : K) (h : (kvs.any (fun kv => kv.1 = k)) = false) : valueAt kvs k = none := by
  induction kvs with
  | nil => rfl
  | cons p r ih =>
    rw [List.any_cons, Bool.or_eq_false_iff] at h
    rw [valueAt_cons, if_neg (by simpa using h.1)]
    exact ih h.2
theorem valueAt_stored (kvs : List (K × Value)) (k k' : K) (v : Value) : valueAt (stored kvs k v) k' = if k' = k then some v else valueAt kvs k' := by
  unfold stored
  by_cases h : (kvs.any (fun kv => kv.1 = k)) = true
  · rw [if_pos h, valueAt_map]
    simp [h]
  · rw [if_neg h, valueAt_app]
    by_cases e : k' = k
    · subst e; rw [if_neg h]; simp
    · rw [if_neg e, if_neg (Ne.symm e)]
      by_cases h2 : (kvs.any (fun kv => kv.1 = k')) = true
      · rw [if_pos h2]
      · rw [if_neg h2]
        exact (valueAt_none _ _ (Bool.eq_false_iff.mpr h2)).symm
end
theorem storedAll_at {ks : Nat → Str} {vz : Nat → Int} {a : Int} {l : List Value} {kvs : List (Str × Value)}
    (x : StoredAll (fun v k => ∀ i t, v = Value.int (a + (i : Nat)) t → k = ks i) (fun v y => ∀ i t, v = Value.int (a + (i : Nat)) t → ∃ u, y = Value.int (vz i) u) l kvs)
    (hP : ∀ j v, l[j]? = some v → ∃ t, v = Value.int (a + (j : Nat)) t) (hinj : ∀ i j, i < l.length → j < l.length → ks i = ks j → i = j) : ∀ i, i < l.length → ∃ u, valueAt kvs (ks i) = some (.int (vz i) u) := by
  induction x with
  | nil => intro i hi; cases hi
  | snoc _ hk hy ih =>
    rename_i l kvs v k y _
    intro i hi
    rw [List.length_append, List.length_singleton] at hi
    obtain ⟨t, hv⟩ := hP l.length v (by simp)
    have ek := hk l.length t hv
    obtain ⟨u, ey⟩ := hy l.length t hv
    rw [valueAt_stored]
    by_cases e : ks i = k
    · rw [if_pos e]
      have : i = l.length := hinj i l.length (by simp; omega) (by simp) (e.trans ek)
      subst this
      exact ⟨u, by rw [ey]⟩
    · rw [if_neg e]
      have hi' : i < l.length := by
        rcases Nat.lt_or_ge i l.length with h | h
        · exact h
        · have : i = l.length := by omega
          subst this
          exact absurd ek.symm e
      exact ih (fun j v hj => hP j v (by rw [List.getElem?_append_left (List.getElem?_eq_some_iff.mp hj).1]; exact hj)) (fun i j h1 h2 => hinj i j (by simp; omega) (by simp; omega)) i hi'
section
variable {prog : Program} {w : World} {A : Around} {E : Value → Shared → Prop} {s : Shared} {h₀ : Heap} {L : Addr}
theorem comp_dict_range {env : Env} {kx vx iter : Expr} {x : Str} {px : Pos} {scope : Scope} {cl : List (Str × Addr)} {pos : Pos} {Q : Value → Shared → Prop} {a b : Int} {n : Nat} (ks : Nat → Str) (vz : Nat → Int)
    (hclos : closureFor scope env = pure cl) (hcell : ∀ y ∈ scope.names, y.2 ≠ .cell) (hkind : scope.kind = .function)
    (hnames : ∀ y ∈ scope.names, y.2 = .local → scope.names.lookup y.1 = some .local) (hx : scope.names.lookup x = some .local) (hsz : n ≤ 1000) (hh : A.handled = none)
    (hsmall : Builtin.Range.small a b 1 = true) (hn : Builtin.Range.rangeSize a b 1 = n) (hinj : ∀ i j, i < n → j < n → ks i = ks j → i = j)
    (h : wpAny (model prog w) A (eval iter env) (fun xv s₁ => Stop (∃ r tr ur vr m news, xv = .ref r ∧ Fr h₀ L s₁.heap m ∧ News h₀ L s₁.heap news ∧ IsRange s₁.heap r a b 1 tr ur vr ∧
      (∀ C (i : Nat) t s₃ m₃ E', i < n → s₃.heap.Ns C m₃ → m₃ x = some (.int (a + i) t) → News h₀ L s₃.heap news → wpAny (model prog w) A (eval kx (compEnvC scope cl C env)) (CEl (fun y => ∃ u, y = .str (ks i) u) s₃) E' s₃) ∧
      (∀ C (i : Nat) t s₃ m₃ E', i < n → s₃.heap.Ns C m₃ → m₃ x = some (.int (a + i) t) → News h₀ L s₃.heap news → wpAny (model prog w) A (eval vx (compEnvC scope cl C env)) (CEl (fun y => ∃ u, y = .int (vz i) u) s₃) E' s₃) ∧
      (∀ D h' tk (kvs : List (Str × Value)), Fr h₀ L h' m → News h₀ L h' news → h'.DictOf (strKind prog w) D kvs → (∀ q ∈ news, @Ne Nat D q.1) → D ≠ L → h₀.get? D = none → (∀ i, i < n → ∃ u, valueAt kvs (ks i) = some (.int (vz i) u)) → Q (.ref D) { s₁ with heap := h', toks := tk }))) E s)
    (hs : ∀ x, foldedSetIterable iter env x = pure x := by intro _; rfl) :
    wpAny (model prog w) A (eval (.DictComp kx vx [⟨.Name x px, iter, [], 0⟩] scope pos) env) Q E s := by
  refine wpAny_DictComp_free (strKind prog w) (fun _ => true) (fun v k => ∀ i t, v = Value.int (a + (i : Nat)) t → k = ks i) (fun v y => ∀ i t, v = Value.int (a + (i : Nat)) t → ∃ u, y = .int (vz i) u) hclos hcell hkind hnames hx (wpAny_mono h (fun xv s₁ h₁ => ?_) fun _ _ e => e) hs
  obtain ⟨⟨r, tr, ur, vr, m, news, rfl, F, N, hr, hke, hva, hfin⟩⟩ := h₁
  refine src_range hh F N hr hsmall hn fun I h' S => ?_
  obtain ⟨fp, St, W, hst, hfp⟩ := S.walks
  have inj : ∀ (i j : Nat) (t u : Tok), Value.int (a + i) t = Value.int (a + j) u → i = j := fun i j t u e => by
    injection e with e1 _
    omega
  have kI : ∀ (g : Heap), (∀ b o, b ∉ [I] → h'.get? b = some o → g.get? b = some o) → News h₀ L g news := fun g hk p hp => ⟨hk _ _ (fun hm => S.off p hp (List.mem_singleton.mp hm)) (S.ne p hp).1, (S.ne p hp).2⟩
  refine ⟨I, fp, [I], n, fun i v => i < n ∧ ∃ t, v = Value.int (a + (i : Nat)) t, St, rfl, Walks.imp W (fun i v hi hv => ⟨hi, hv⟩), Nat.le_trans hsz (by rw [sizeLine_eq]; decide), hst, hfp, ⟨fun C i v s₃ m₃ E' _ _ _ _ => wpAny_tests_nil ⟨rfl, _, _, rfl, fun _ _ e => e⟩, ?_, ?_⟩, ?_⟩
  · rintro C i v s₃ m₃ E' ⟨hi, t, rfl⟩ _ hns hm hk
    refine wpAny_mono (hke C i t s₃ m₃ E' hi hns hm (kI _ hk)) (fun y s₄ h₄ => ?_) fun _ _ e => e
    obtain ⟨⟨u, rfl⟩, hkp⟩ := h₄
    exact ⟨⟨ks i, by simp [PySem.strKind, Value.isStrOf], fun j t' e => by rw [inj i j _ _ e]⟩, hkp⟩
  · rintro C i v s₃ m₃ E' ⟨hi, t, rfl⟩ _ hns hm hk
    refine wpAny_mono (hva C i t s₃ m₃ E' hi hns hm (kI _ hk)) (fun y s₄ h₄ => ?_) fun _ _ e => e
    obtain ⟨⟨u, rfl⟩, hkp⟩ := h₄
    exact ⟨fun j t' e => ⟨u, by rw [inj i j _ _ e]⟩, hkp⟩
  · intro D h'' tk kvs vs hnew hl hlen hP hF hk
    rw [show vs.filter (fun _ => true) = vs from filter_allG vs] at hF
    have hDL : D ≠ L := fun e => by
      obtain ⟨oL, _, _, hoL, _⟩ := id S.fr.ns
      have hnew' : h'.get? D = none := hnew
      rw [← e, hnew'] at hoL; cases hoL
    have hD0 : h₀.get? D = none := by
      cases e : h₀.get? D with
      | none => rfl
      | some o => have := S.fr.keep _ _ e; have hnew' : h'.get? D = none := hnew; rw [hnew'] at this; cases this
    refine hfin D h'' tk kvs (fr_move' S.fr (fun o e => hk L o (fun hm => S.offL.symm (List.mem_singleton.mp hm)) e) (fun b o e => hk b o (fun q => by rw [List.mem_singleton.mp q, S.new] at e; cases e) (S.fr.keep b o e))) (kI _ hk) hl (fun q hq => ne_get hnew (S.ne q hq).1) hDL hD0 fun i hi => ?_
    exact storedAll_at hF (fun j v hj => (hP j v hj).2) (fun i j h1 h2 => hinj i j (by omega) (by omega)) i (by omega)
end
end

-- part HG
section
theorem fresh_HG : True := by
  k_with_none
  exact trivial
local macro_rules | `(tactic| walk_at "call ref") => `(tactic| (refine stop ?_))
local macro_rules | `(tactic| walk_at "eval DictComp") => `(tactic| (refine stop ?_))
local macro_rules | `(tactic| walk_at "subscriptTail") => `(tactic| (refine stop ?_))
/-- the second row: what is asked of the rounds -/
structure PlainG (xs : List Int) (dF : Str → Int) (M : Nat) : Prop where
  inj : ∀ i j, i < xs.length → j < xs.length → (wordsR xs).getD i Str.empty = (wordsR xs).getD j Str.empty → i = j
  dep : ∀ i, i < xs.length → dF ((wordsR xs).getD i Str.empty) = (levR xs).getD i 0
  bd : ∀ i, i < xs.length → 0 ≤ (levR xs).getD i 0 ∧ (levR xs).getD i 0 < 100
  rnd : roundsR (wordsR xs) dF = ((dueR (levR xs) (M + 2)).1, (dueR (levR xs) (M + 2)).2.map (fun k => (wordsR xs).getD k.toNat Str.empty), [])
theorem stageE2 {w : World} {p : Program} {loose : List Str} {mean : ExcName → Option Value} {mg mb : Str → Option Value} {h₀ : Heap} {s₁ s : Shared} {L fa : Addr} {cdv : Value}
  (LT : LawTop w p loose mean mg mb h₀)
  (b : List Stmt) (sc : Scope) (e : lawFd w.params = some (b, sc))
  {xs : List Int} {RV : List (Addr × Obj)} {lv fg wd dp : Addr} {ll fits wits pits : List Value} {ln fk wk pk : Nat} {o1 o2 o3 o4 o5 : Obj} {m : Str → Option Value} {tx ty tz : Tok} {d : LexD} {k : Nat} {n : Int}
  (hok : LexOk d) (hT : LawTail xs L d RV lv fg wd dp ll fits wits pits ln fk wk pk o1 o2 o3 o4 o5) (hs : Sh s₁ s)
  (F : Fr h₀ L s.heap m) (hm2 : m (Str.ofString "size") = some (.int ((levR xs).length : Nat) tz)) (hm3 : m (Str.ofString "text") = some (.str (lawText xs) ty))
  {dF : Str → Int} {M : Nat} (pg : PlainG xs dF M) (N : News h₀ L s.heap (lexLed w d (lawText xs) tx k n wits ++ RV))
  (next : ∀ (z : Nat) (gl : Addr) (gv : List Value) (gn : Nat) (m' : Str → Option Value) (tm : Tok) (s' : Shared), Sh s₁ s' →
    Fr h₀ L s'.heap m' → m' (Str.ofString "size") = some (.int ((levR xs).length : Nat) tz) → m' (Str.ofString "text") = some (.str (lawText xs) ty) → m' (Str.ofString "marks") = some (.str (dueR (levR xs) (M + 2)).1 tm) → m' (Str.ofString "gone") = some (.ref gl) →
    StrsAre gv ((dueR (levR xs) (M + 2)).2.map (fun k => (wordsR xs).getD k.toNat Str.empty)) → (∀ q ∈ RV, @Ne Nat gl q.1) → gl ∉ lexA d →
    News h₀ L s'.heap ((gl, ({ cls := .type "list", data := .seq gv.toArray gn } : Obj)) :: (lexLed w { d with nn := z } (lawText xs) tx k n [] ++ RV)) →
    wpAny (model PySem.Challenge.rw_us0006_01.row.prog w) (callerA.deeper (envOfC (Str.ofString "law") sc L fa cdv)) (execs (b.drop 13) (envOfC (Str.ofString "law") sc L fa cdv)) (LawQ h₀ s₁) (fun _ _ => False) s') :
  wpAny (model PySem.Challenge.rw_us0006_01.row.prog w) (callerA.deeper (envOfC (Str.ofString "law") sc L fa cdv)) (execs (b.drop 12) (envOfC (Str.ofString "law") sc L fa cdv)) (LawQ h₀ s₁) (fun _ _ => False) s := by
  revert next; revert e; revert b sc
  refine law_all rfl ?_
  intro next
  have X := LT.g.X
  revert X; k_fill; intro X
  have T := LT.T
  have B := LT.B
  have C := LT.C
  have hwl : (wordsR xs).length = xs.length := by unfold wordsR; rw [List.length_map, List.length_range]
  have hwits : wits.length = xs.length := by rw [hT.hwi.len_eq, hwl]
  have hx6 := hT.h6
  have F0 : Fr h₀ L s.heap (bd m [(Str.ofString "size", .int ((levR xs).length : Nat) tz), (Str.ofString "text", .str (lawText xs) ty)]) := by rw [bd_eq (List.forall_mem_cons.mpr ⟨hm2, List.forall_mem_singleton.mpr hm3⟩)]; exact F
  clear F hm2 hm3
  dsimp only [List.drop_succ_cons, List.drop_zero]
  have hlen2 : (levR xs).length = xs.length := levR_len xs (by have := hT.h5; omega)
  have hm1 := hT.m1
  have hmw := hT.mwd
  have hmp := hT.mdp
  have ho1 := hT.ho1
  have hm3 := hT.m3
  have ho3 := hT.ho3
  have hm4 := hT.m4
  have ho4 := hT.ho4
  have hm5 := hT.m5
  have ho5 := hT.ho5
  have N1 : News h₀ L s.heap ((L + 3, o3) :: (L + 4, o4) :: (L + 5, o5) :: (lexLed w d (lawText xs) tx k n wits ++ RV)) := fun q hq => by
    rcases List.mem_cons.mp hq with rfl | hq
    · exact N _ (List.mem_append_right _ hm3)
    · rcases List.mem_cons.mp hq with rfl | hq
      · exact N _ (List.mem_append_right _ hm4)
      · rcases List.mem_cons.mp hq with rfl | hq
        · exact N _ (List.mem_append_right _ hm5)
        · exact N q hq
  clear N
  k_steps
  refine ⟨?_⟩
  refine comp_dict_range (h₀ := h₀) (L := L) (a := 0) (b := ((levR xs).length : Nat)) (n := xs.length) (fun i => (wordsR xs).getD i Str.empty) (fun i => (levR xs).getD i 0) rfl (by decide) rfl (by decide) rfl (by omega) rfl (small1 (by decide) (by decide) (by omega) (by omega)) (by rw [rangeSize1 (by decide) (by omega)]; omega) pg.inj ?_ (fun _ => rfl)
  k_steps
  (rename Fr _ _ _ _ => F2); (rename News _ _ _ _ => N2); (rename IsRange _ _ _ _ _ _ _ _ => hR)
  refine ⟨⟨_, _, _, _, _, _, rfl, F2, N2, hR, ?_, ?_, ?_⟩⟩
  · intro C i t s₃ m₃ E' hi hns hm N9
    have N9w : News h₀ L s₃.heap [(L + 3, o3), (wd, ({ cls := .type "list", data := .seq wits.toArray wk } : Obj))] := fun q hq => by
      rcases List.mem_cons.mp hq with rfl | hq
      · exact N9 _ (by k_mem)
      · rw [List.mem_singleton.mp hq]
        exact N9 _ (by first | exact List.mem_of_mem_drop (i := 4) (List.mem_append_right _ hmw) | exact .tail _ (.tail _ (.tail _ (List.mem_append_right _ hmw))))
    clear N2 F2 N9
    k_with "eval Name" => (first | (refine wpAny_Name (wpAny_loadName_local rfl rfl hns hm ?_) (by decide)) | (refine nameCl N9w (.head _) ho3 ?_))
    k_steps
    refine ⟨?_⟩
    refine item_tbl (tbl := wordsR xs) N9w (.tail _ (.head _)) ?zs1 (by omega) (by rw [hwl]; omega) (by rw [hwl]; omega) (fun t3 => ?_)
    case zs1 => rw [List.toList_toArray]; exact hT.hwi
    exact ⟨⟨t3, by rw [show ((0 : Int) + (i : Nat)).toNat = i by omega]⟩, ⟨_, _, rfl, fun _ _ e => e⟩⟩
  · intro C i t s₃ m₃ E' hi hns hm N9
    have N9w : News h₀ L s₃.heap [(L + 5, o5), (dp, ({ cls := .type "list", data := .seq pits.toArray pk } : Obj))] := fun q hq => by
      rcases List.mem_cons.mp hq with rfl | hq
      · exact N9 _ (by k_mem)
      · rw [List.mem_singleton.mp hq]
        exact N9 _ (by first | exact List.mem_of_mem_drop (i := 4) (List.mem_append_right _ hmp) | exact .tail _ (.tail _ (.tail _ (List.mem_append_right _ hmp))))
    clear N2 F2 N9
    k_with "eval Name" => (first | (refine wpAny_Name (wpAny_loadName_local rfl rfl hns hm ?_) (by decide)) | (refine nameCl N9w (.head _) ho5 ?_))
    k_steps
    refine ⟨?_⟩
    refine item_intN N9w (.tail _ (.head _)) hT.hpi (by omega) (by rw [hlen2]; omega) (by rw [hlen2]; omega) (fun t3 => ?_)
    exact ⟨⟨t3, by rw [show ((0 : Int) + (i : Nat)).toNat = i by omega]⟩, ⟨_, _, rfl, fun _ _ e => e⟩⟩
  · intro D h5 tk kvs F5 N5 hdk zD zL zh hval
    clear F2 N2
    have N6 : News h₀ L h5 (lexLed w d (lawText xs) tx k n wits ++ RV) := fun q hq => N5 q (by first | exact .tail _ (.tail _ (.tail _ hq)) | exact .tail _ (.tail _ (.tail _ (.tail _ hq))))
    have zD6 : ∀ q ∈ lexLed w d (lawText xs) tx k n wits ++ RV, @Ne Nat D q.1 := fun q hq => zD q (by first | exact .tail _ (.tail _ (.tail _ hq)) | exact .tail _ (.tail _ (.tail _ (.tail _ hq))))
    clear zD
    k_steps
    refine ⟨?_⟩
    (rename Fr _ _ _ _ => F7)
    have NL : News h₀ L h5 (lexLed w d (lawText xs) tx k n wits) := fun q hq => N6 q (List.mem_append_left _ hq)
    have O := led_out NL
    have hup : ∀ b o, h₀.get? b = some o → (hideAll h5 (lexA d)).get? b = some o := fun b o e => hideAll_get _ (F7.keep b o e) fun hm => by rw [O.2 b hm] at e; cases e
    have lexmem : ∀ q ∈ lexLed w d (lawText xs) tx k n wits, q.1 ∈ lexA d := fun q hq => List.mem_map_of_mem (f := (·.1)) hq
    have hDm : D ∉ lexA d := fun hm => by
      obtain ⟨q, hq, e⟩ := List.mem_map.mp (show D ∈ (lexLed w d (lawText xs) tx k n wits).map (·.1) from hm)
      exact zD6 q (List.mem_append_left _ hq) e.symm
    have hDb : (hideAll h5 (lexA d)).DictOf (PySem.strKind PySem.Challenge.rw_us0006_01.row.prog w) D kvs := Heap.DictOf.at hdk fun o e => hideAll_get _ e hDm
    have hLb : (hideAll h5 (lexA d)).IsList wd wits.toArray := ⟨_, hideAll_get _ (N6 _ (List.mem_append_right _ hmw)).1 (hT.off _ hmw), rfl, _, rfl⟩
    have hmemw : ∀ y ∈ wordsR xs, ∃ i, i < xs.length ∧ y = (wordsR xs).getD i Str.empty := fun y hy => by
      obtain ⟨i, hi, e⟩ := List.mem_iff_getElem.mp hy
      exact ⟨i, by omega, by rw [List.getD_eq_getElem?_getD, List.getElem?_eq_getElem hi, e]; rfl⟩
    refine of_UU (rounds_spec (h₀ := hideAll h5 (lexA d)) (d := d) (dF := dF) (kvs := kvs) (ws := wits) (ns := wordsR xs) (LT.g.keeps hup) (LT.T.keeps hup) (fun b o e => of_hideAll _ e) (LT.C.keeps hup) hok hLb hT.hwi (by omega) hDb (fun y hy => ?_) (fun y hy => ?_) hT.hwi (fun q hq => ⟨(NL q hq).1, hideAll_none _ (lexmem q hq)⟩) ?_) rfl (Nat.le_of_ble_eq_true rfl) (Nat.le_of_ble_eq_true rfl)
    · obtain ⟨i, hi, rfl⟩ := hmemw y hy
      obtain ⟨u, hu⟩ := hval i hi
      exact ⟨u, by rw [hu, pg.dep i hi]⟩
    · obtain ⟨i, hi, rfl⟩ := hmemw y hy
      rw [pg.dep i hi]
      exact pg.bd i hi
    intro T9 gl tm gv gn qv qn s9 h91 h92 h93 h94 hgv hqv hled ev9
    rw [pg.rnd] at h91 hgv hqv
    dsimp only at h91 hgv hqv
    cases hqv
    have F9 := fr_out F7 O.1 O.2 ev9.heap
    have fresh : ∀ a : Addr, h5.get? a = none → a ≠ L ∧ h₀.get? a = none := fun a ha => by
      refine ⟨?_, ?_⟩
      · obtain ⟨oL, _, _, hoL, _⟩ := id F7.ns
        exact ne_get ha hoL
      · cases e : h₀.get? a with
        | none => rfl
        | some o => have := F7.keep _ _ e; rw [ha] at this; cases this
    have N9 : News h₀ L s9.heap ((T9, ({ cls := .type "tuple", data := .seq #[.str (dueR (levR xs) (M + 2)).1 tm, .ref gl] } : Obj)) :: (gl, ({ cls := .type "list", data := .seq gv.toArray gn } : Obj)) :: (lexLed w { d with nn := qn } (lawText xs) tx k n [] ++ RV)) := fun q hq => by
      rcases List.mem_cons.mp hq with rfl | hq
      · exact ⟨h91, fresh _ h93⟩
      · rcases List.mem_cons.mp hq with rfl | hq
        · exact ⟨h92, fresh _ h94⟩
        · exact lex_news (d := d) (d' := { d with nn := qn }) rfl N6 NL hled ev9.heap (fun q hq => by
            rcases List.mem_append.mp hq with hq | hq
            · exact .inl hq
            · exact .inr ⟨List.mem_append_right _ hq, hT.off q hq⟩) q hq
    have zg : ∀ q ∈ RV, @Ne Nat gl q.1 := fun q hq => ne_get h94 (N6 q (List.mem_append_right _ hq)).1
    have zl : gl ∉ lexA d := fun hm => by
      obtain ⟨q, hq, e⟩ := List.mem_map.mp (show gl ∈ (lexLed w d (lawText xs) tx k n wits).map (·.1) from hm)
      exact ne_get h94 (NL q hq).1 e.symm
    clear N6 NL F7 h91 h92 h93 h94 hdk hDb hLb hup N5
    k_with "execs cons" => (refine stop ?_)
    k_steps
    refine ⟨?_⟩
    (rename Fr _ _ _ _ => FZ); (rename News _ _ _ _ => NZ)
    exact next qn gl gv gn _ tm _ (hs.to.trans ev9.sh).to FZ rfl rfl rfl rfl hgv zg zl (fun q hq => NZ q (.tail _ hq))
end

-- part K7
section
section
variable {prog : Program} {w : World} {A : Around} {E : Value → Shared → Prop} {s : Shared} {a b : Addr} {Q : Value → Shared → Prop} {x y : Str} {n : Int} {t1 t2 t3 t4 t5 t6 : Tok}
/-- two lists of two texts and an int that are alike -/
theorem ne_three (ha : s.heap.IsList a [.str x t1, .str y t2, .int n t3].toArray) (hb : s.heap.IsList b [.str x t4, .str y t5, .int n t6].toArray) (hx : PyData.strOk x = true) (hy : PyData.strOk y = true) (hu : A.units + 64 < cLine) (h : Q (.bool false) s) :
    wpAny (model prog w) A (compareOp .NotEq (.ref a) (.ref b)) Q E s := by
  have hsh : SeqAt.shaped (.list [.str x, .str y, .int n]) = true := by
    simp [SeqAt.shaped, PyData.canLay0, PyData.depth, PyData.canLayAll0, PyData.depthAll, hx, hy]
  refine ne_dataH_same (reads_newData ha (.cons (.str _ _) (.cons (.str _ _) (.cons (.int _ _) .nil)))) (reads_newData hb (.cons (.str _ _) (.cons (.str _ _) (.cons (.int _ _) .nil)))) hsh hsh hu (by simp [SeqAt.noMix, SeqAt.noMixAll]) ?_
  rw [show PySem.Spec.same (.list [.str x, .str y, .int n]) (.list [.str x, .str y, .int n]) = true from by simp [PySem.Spec.same, PySem.Spec.sameAll]]
  exact h
end
end

-- part HI
section
theorem fresh_HI : True := by
  k_with_none
  exact trivial
local macro_rules | `(tactic| walk_at "call ref") => `(tactic| (refine stop ?_))
local macro_rules | `(tactic| walk_at "compareOp NotEq ref ref") => `(tactic| (refine stop ?_))
local macro_rules | `(tactic| walk_at "eval List") => `(tactic| (refine List_ ?_))
theorem stageF {w : World} {p : Program} {loose : List Str} {mean : ExcName → Option Value} {mg mb : Str → Option Value} {h₀ : Heap} {s₁ s : Shared} {L fa : Addr} {cdv : Value}
  (LT : LawTop w p loose mean mg mb h₀)
  (b : List Stmt) (sc : Scope) (e : lawFd w.params = some (b, sc))
  {xs : List Int} {RV : List (Addr × Obj)} {lv fg wd dp : Addr} {ll fits wits pits : List Value} {ln fk wk pk : Nat} {o1 o2 o3 o4 o5 : Obj} {m : Str → Option Value} {tx ty tz : Tok} {d : LexD} {k : Nat} {n : Int}
  (hok : LexOk d) (hT : LawTail xs L d RV lv fg wd dp ll fits wits pits ln fk wk pk o1 o2 o3 o4 o5) (hs : Sh s₁ s)
  (F : Fr h₀ L s.heap m) (hm2 : m (Str.ofString "size") = some (.int ((levR xs).length : Nat) tz)) (hm3 : m (Str.ofString "text") = some (.str (lawText xs) ty))
  {M : Nat} {rest : Nat → List Nat} (hrd : Reads6 xs rest) {gl : Addr} {gv : List Value} {gn : Nat} {tm : Tok}
  (hm4 : m (Str.ofString "marks") = some (.str (dueR (levR xs) (M + 2)).1 tm)) (hm5 : m (Str.ofString "gone") = some (.ref gl))
  (hgv : StrsAre gv ((dueR (levR xs) (M + 2)).2.map (fun k => (wordsR xs).getD k.toNat Str.empty))) (zg : ∀ q ∈ RV, @Ne Nat gl q.1) (zl : gl ∉ lexA d)
  (hdr : (lawText xs).cps.toList.drop k = rest xs.length) (hk : k ≤ (lawText xs).cps.size + 1) (htsz : (lawText xs).cps.size < 100)
  (hcnt : lnK (lawText xs) ((lawText xs).cps.size + 1) = 1 + Txt.count (lawText xs) (Str.ofString "\n"))
  (N : News h₀ L s.heap ((gl, ({ cls := .type "list", data := .seq gv.toArray gn } : Obj)) :: (lexLed w d (lawText xs) tx k (lnK (lawText xs) k) [] ++ RV)))
  (next : ∀ (d' : LexD) (k' : Nat) (n' : Int) (m' : Str → Option Value) (s' : Shared), LexOk d' → lexA d' = lexA d → Sh s₁ s' →
    Fr h₀ L s'.heap m' → m' (Str.ofString "size") = some (.int ((levR xs).length : Nat) tz) → m' (Str.ofString "text") = some (.str (lawText xs) ty) → m' (Str.ofString "marks") = some (.str (dueR (levR xs) (M + 2)).1 tm) → m' (Str.ofString "gone") = some (.ref gl) →
    News h₀ L s'.heap ((gl, ({ cls := .type "list", data := .seq gv.toArray gn } : Obj)) :: (lexLed w d' (lawText xs) tx k' n' [] ++ RV)) →
    wpAny (model PySem.Challenge.rw_us0006_01.row.prog w) (callerA.deeper (envOfC (Str.ofString "law") sc L fa cdv)) (execs (b.drop 14) (envOfC (Str.ofString "law") sc L fa cdv)) (LawQ h₀ s₁) (fun _ _ => False) s') :
  wpAny (model PySem.Challenge.rw_us0006_01.row.prog w) (callerA.deeper (envOfC (Str.ofString "law") sc L fa cdv)) (execs (b.drop 13) (envOfC (Str.ofString "law") sc L fa cdv)) (LawQ h₀ s₁) (fun _ _ => False) s := by
  revert next; revert e; revert b sc
  refine law_all rfl ?_
  intro next
  have X := LT.g.X
  revert X; k_fill; intro X
  have T := LT.T
  have B := LT.B
  have C := LT.C
  have hwl : (wordsR xs).length = xs.length := by unfold wordsR; rw [List.length_map, List.length_range]
  have hwits : wits.length = xs.length := by rw [hT.hwi.len_eq, hwl]
  have hx6 := hT.h6
  have F0 : Fr h₀ L s.heap (bd m [(Str.ofString "size", .int ((levR xs).length : Nat) tz), (Str.ofString "text", .str (lawText xs) ty), (Str.ofString "marks", .str (dueR (levR xs) (M + 2)).1 tm), (Str.ofString "gone", .ref gl)]) := by rw [bd_eq (List.forall_mem_cons.mpr ⟨hm2, List.forall_mem_cons.mpr ⟨hm3, List.forall_mem_cons.mpr ⟨hm4, List.forall_mem_singleton.mpr hm5⟩⟩⟩)]; exact F
  clear F hm2 hm3 hm4 hm5
  dsimp only [List.drop_succ_cons, List.drop_zero]
  have hlen2 : (levR xs).length = xs.length := levR_len xs (by have := hT.h5; omega)
  have hm4 := hT.m4
  have ho4 := hT.ho4
  have N1 : News h₀ L s.heap ((L + 4, o4) :: (gl, ({ cls := .type "list", data := .seq gv.toArray gn } : Obj)) :: (lexLed w d (lawText xs) tx k (lnK (lawText xs) k) [] ++ RV)) := fun q hq => by
    rcases List.mem_cons.mp hq with rfl | hq
    · exact N _ (.tail _ (List.mem_append_right _ hm4))
    · exact N q hq
  have NL : News h₀ L s.heap (lexLed w d (lawText xs) tx k (lnK (lawText xs) k) []) := fun q hq => N _ (.tail _ (List.mem_append_left _ hq))
  have O := led_out NL
  have N1f := N1
  clear N
  unfold lexLed at N1
  dsimp only [List.cons_append, List.nil_append] at N1
  k_steps
  refine ⟨?_⟩
  (rename Fr _ _ _ _ => F1)
  refine of_UU (gt_read (h₀ := h₀) (d := d) LT.g (by exact F1.keep) LT.C hok hk (by omega) (fun q hq => ⟨(NL q hq).1, (NL q hq).2.2⟩) ?_) rfl (Nat.le_of_ble_eq_true rfl) (Nat.le_of_ble_eq_true rfl)
  intro tv y k' t1' s4 hgt hk' h4 ev4 gn4
  rw [hdr, hrd.last] at hgt
  obtain ⟨hy, hrest⟩ := Prod.mk.inj hgt
  have F4 := fr_out F1 O.1 O.2 ev4.heap
  have N4 : News h₀ L s4.heap ((L + 4, o4) :: (gl, ({ cls := .type "list", data := .seq gv.toArray gn } : Obj)) :: (lexLed w { d with t1 := t1' } (lawText xs) tx k' (lnK (lawText xs) k') [] ++ RV)) := by
    refine lex_news (d := d) (d' := { d with t1 := t1' }) rfl N1f NL h4 ev4.heap (fun q hq => ?_)
    rcases List.mem_cons.mp hq with rfl | hq
    · exact .inr ⟨.head _, hT.off _ hm4⟩
    · rcases List.mem_cons.mp hq with rfl | hq
      · exact .inr ⟨.tail _ (.head _), zl⟩
      · rcases List.mem_append.mp hq with hq | hq
        · exact .inl hq
        · exact .inr ⟨.tail _ (.tail _ (List.mem_append_right _ hq)), hT.off q hq⟩
  have N4f := N4
  have NL4 : News h₀ L s4.heap (lexLed w { d with t1 := t1' } (lawText xs) tx k' (lnK (lawText xs) k') []) := fun q hq => N4 _ (.tail _ (.tail _ (List.mem_append_left _ hq)))
  unfold lexLed at N4
  dsimp only [List.cons_append, List.nil_append] at N4
  clear N1 N1f NL F1 h4
  have hS : Stop (y.cps.toList = (Str.ofString "z").cps.toList ∧ (lawText xs).cps.toList.drop k' = [] ∧ News h₀ L s4.heap ((L + 4, o4) :: (gl, ({ cls := .type "list", data := .seq gv.toArray gn } : Obj)) :: (lexLed w { d with t1 := t1' } (lawText xs) tx k' (lnK (lawText xs) k') [] ++ RV)) ∧ News h₀ L s4.heap (lexLed w { d with t1 := t1' } (lawText xs) tx k' (lnK (lawText xs) k') [])) := ⟨hy, hrest, N4f, NL4⟩
  have hcS : Stop (lnK (lawText xs) ((lawText xs).cps.size + 1) = 1 + Txt.count (lawText xs) (Str.ofString "\n")) := ⟨hcnt⟩
  clear N4f NL4 hgt hy hrest hdr hcnt gn4
  k_steps
  refine ⟨?_⟩
  obtain ⟨⟨hy, hrest, N4f, NL4⟩⟩ := hS
  (rename Fr _ _ _ _ => F5)
  have O4 := led_out NL4
  refine of_UU (gt_read (h₀ := h₀) (d := { d with t1 := t1' }) LT.g (by exact F5.keep) LT.C ⟨hok.code, hok.qual, hok.cell, hok.nd⟩ hk' (by omega) (fun q hq => ⟨(NL4 q hq).1, (NL4 q hq).2.2⟩) ?_) rfl (Nat.le_of_ble_eq_true rfl) (Nat.le_of_ble_eq_true rfl)
  intro tv2 y2 k2 t2' s5 hgt2 hk2 h5 ev5 gn5
  rw [hrest] at hgt2
  have F6 := fr_out F5 O4.1 O4.2 ev5.heap
  have N6 : News h₀ L s5.heap ((L + 4, o4) :: (gl, ({ cls := .type "list", data := .seq gv.toArray gn } : Obj)) :: (lexLed w { d with t1 := t2' } (lawText xs) tx k2 (lnK (lawText xs) k2) [] ++ RV)) := by
    refine lex_news (d := { d with t1 := t1' }) (d' := { d with t1 := t2' }) rfl N4f NL4 h5 ev5.heap (fun q hq => ?_)
    rcases List.mem_cons.mp hq with rfl | hq
    · exact .inr ⟨.head _, hT.off _ hm4⟩
    · rcases List.mem_cons.mp hq with rfl | hq
      · exact .inr ⟨.tail _ (.head _), zl⟩
      · rcases List.mem_append.mp hq with hq | hq
        · exact .inl hq
        · exact .inr ⟨.tail _ (.tail _ (List.mem_append_right _ hq)), hT.off q hq⟩
  have hS6 : Stop (y.cps.toList = (Str.ofString "z").cps.toList ∧ (y2.cps.toList, (lawText xs).cps.toList.drop k2) = gtO [] ∧ News h₀ L s5.heap ((L + 4, o4) :: (gl, ({ cls := .type "list", data := .seq gv.toArray gn } : Obj)) :: (lexLed w { d with t1 := t2' } (lawText xs) tx k2 (lnK (lawText xs) k2) [] ++ RV))) := ⟨hy, hgt2, N6⟩
  unfold lexLed at N6
  dsimp only [List.cons_append, List.nil_append] at N6
  clear N4f NL4 hgt2 hy hrest gn5 h5 N4 F5
  k_steps
  refine ⟨?_⟩
  (rename Fr _ _ _ _ => F7); (rename News _ _ _ _ => N7)
  have hy := hS6.out.1
  have hgt2 := hS6.out.2.1
  clear hS6
  obtain ⟨hcnt⟩ := hcS
  obtain ⟨hy2, hr2⟩ := Prod.mk.inj (hgt2.trans (show gtO [] = ([], []) from rfl))
  have ey : y = Str.ofString "z" := by cases y; exact congrArg Str.mk (Array.toList_inj.mp hy)
  have ey2 : y2 = Str.ofString "" := by cases y2; exact congrArg Str.mk (Array.toList_inj.mp hy2)
  have ek : lnK (lawText xs) k2 = 1 + Txt.count (lawText xs) (Str.ofString "\n") := by
    rw [← hcnt]
    unfold lnK
    have h1 : (lawText xs).cps.toList.take k2 = (lawText xs).cps.toList := by
      have := List.take_append_drop k2 (lawText xs).cps.toList
      rw [hr2, List.append_nil] at this; exact this
    rw [h1, List.take_of_length_le (by simp)]
  rw [← ek] at N7
  subst ey ey2
  have ha := N7.isList (.tail _ (.head _))
  have hb := N7.isList (.head _)
  refine ne_three ha hb ?zc3 ?zc4 ?zc5 ?zc6
  case zc3 => decide +kernel
  case zc4 => decide +kernel
  case zc5 => exact Nat.le_of_ble_eq_true rfl
  clear hgt2 hcnt ek hr2 hy hy2 ha hb
  k_with "execs cons" => (refine stop ?_)
  k_steps
  refine ⟨?_⟩
  (rename Fr _ _ _ _ => FZ); (rename News _ _ _ _ => NZ)
  exact next { d with t1 := t2' } k2 _ _ _ ⟨hok.code, hok.qual, hok.cell, hok.nd⟩ rfl ((hs.to.trans ev4.sh).to.trans ev5.sh).to FZ rfl rfl rfl rfl (fun q hq => NZ q (.tail _ (.tail _ (.tail _ hq))))
end

-- part HJ
section
theorem fresh_HJ : True := by
  k_with_none
  exact trivial
local macro_rules | `(tactic| walk_at "call ref") => `(tactic| (refine stop ?_))
theorem stageG {w : World} {p : Program} {loose : List Str} {mean : ExcName → Option Value} {mg mb : Str → Option Value} {h₀ : Heap} {s₁ s : Shared} {L fa : Addr} {cdv : Value}
  (LT : LawTop w p loose mean mg mb h₀)
  (b : List Stmt) (sc : Scope) (e : lawFd w.params = some (b, sc))
  {xs : List Int} {RV : List (Addr × Obj)} {lv fg wd dp : Addr} {ll fits wits pits : List Value} {ln fk wk pk : Nat} {o1 o2 o3 o4 o5 : Obj} {m : Str → Option Value} {tz : Tok} {d : LexD}
  (hok : LexOk d) (hT : LawTail xs L d RV lv fg wd dp ll fits wits pits ln fk wk pk o1 o2 o3 o4 o5) (hs : Sh s₁ s)
  (F : Fr h₀ L s.heap m) (hm2 : m (Str.ofString "size") = some (.int ((levR xs).length : Nat) tz))
  {M : Nat} {gl : Addr} {gv : List Value} {gn : Nat} {tm : Tok} (hM : (M : Int) ∈ levR xs) (hM2 : ∀ z ∈ levR xs, z ≤ (M : Int)) (hM3 : M < 100)
  (hm4 : m (Str.ofString "marks") = some (.str (dueR (levR xs) (M + 2)).1 tm)) (hm5 : m (Str.ofString "gone") = some (.ref gl))
  (N : News h₀ L s.heap ((gl, ({ cls := .type "list", data := .seq gv.toArray gn } : Obj)) :: RV))
  (next : ∀ (od : Addr) (ov : List Value) (on : Nat) (td : Tok) (m' : Str → Option Value) (s' : Shared), Sh s₁ s' →
    Fr h₀ L s'.heap m' → m' (Str.ofString "size") = some (.int ((levR xs).length : Nat) tz) → m' (Str.ofString "marks") = some (.str (dueR (levR xs) (M + 2)).1 tm) → m' (Str.ofString "gone") = some (.ref gl) → m' (Str.ofString "due") = some (.str (dueR (levR xs) (M + 2)).1 td) → m' (Str.ofString "order") = some (.ref od) →
    IntsAre ov (dueR (levR xs) (M + 2)).2 →
    News h₀ L s'.heap ((od, ({ cls := .type "list", data := .seq ov.toArray on } : Obj)) :: (gl, ({ cls := .type "list", data := .seq gv.toArray gn } : Obj)) :: RV) →
    wpAny (model PySem.Challenge.rw_us0006_01.row.prog w) (callerA.deeper (envOfC (Str.ofString "law") sc L fa cdv)) (execs (b.drop 15) (envOfC (Str.ofString "law") sc L fa cdv)) (LawQ h₀ s₁) (fun _ _ => False) s') :
  wpAny (model PySem.Challenge.rw_us0006_01.row.prog w) (callerA.deeper (envOfC (Str.ofString "law") sc L fa cdv)) (execs (b.drop 14) (envOfC (Str.ofString "law") sc L fa cdv)) (LawQ h₀ s₁) (fun _ _ => False) s := by
  revert next; revert e; revert b sc
  refine law_all rfl ?_
  intro next
  have X := LT.g.X
  revert X; k_fill; intro X
  have T := LT.T
  have B := LT.B
  have C := LT.C
  have hwl : (wordsR xs).length = xs.length := by unfold wordsR; rw [List.length_map, List.length_range]
  have hwits : wits.length = xs.length := by rw [hT.hwi.len_eq, hwl]
  have hx6 := hT.h6
  have F0 : Fr h₀ L s.heap (bd m [(Str.ofString "size", .int ((levR xs).length : Nat) tz), (Str.ofString "marks", .str (dueR (levR xs) (M + 2)).1 tm), (Str.ofString "gone", .ref gl)]) := by rw [bd_eq (List.forall_mem_cons.mpr ⟨hm2, List.forall_mem_cons.mpr ⟨hm4, List.forall_mem_singleton.mpr hm5⟩⟩)]; exact F
  clear F hm2 hm4 hm5
  dsimp only [List.drop_succ_cons, List.drop_zero]
  have hlen2 : (levR xs).length = xs.length := levR_len xs (by have := hT.h5; omega)
  have hx5 := hT.h5
  have hm1 := hT.m1
  have ho1 := hT.ho1
  have N1 : News h₀ L s.heap ((L + 1, o1) :: (lv, ({ cls := .type "list", data := .seq ll.toArray ln } : Obj)) :: (gl, ({ cls := .type "list", data := .seq gv.toArray gn } : Obj)) :: RV) := fun q hq => by
    rcases List.mem_cons.mp hq with rfl | hq
    · exact N _ (.tail _ hm1)
    · rcases List.mem_cons.mp hq with rfl | hq
      · exact N _ (.tail _ hT.mlv)
      · exact N q hq
  clear N
  k_steps
  refine ⟨?_⟩
  (rename Fr _ _ _ _ => F1); (rename News _ _ _ _ => N2)
  refine of_UU (due_spec (M := M) (LT.g.keeps F1.keep) (N2.isList (.tail _ (.head _))) hT.hli (by omega) (by omega) hM hM2 hM3 ?_) rfl (Nat.le_of_ble_eq_true rfl) (Nat.le_of_ble_eq_true rfl)
  intro T9 od td ws on s9 h91 h92 h93 h94 hne hwsi ev9
  obtain ⟨ov, rfl⟩ : ∃ ov : List Value, ws = ov.toArray := ⟨ws.toList, by simp⟩
  rw [List.toList_toArray] at hwsi
  obtain ⟨F3, N3, z3⟩ := news_add F1 N2 ev9 h92 h94
  have h91' : s9.heap.get? T9 = some ({ cls := .type "tuple", data := .seq #[.str (dueR (levR xs) (M + 2)).1 td, .ref od] } : Obj) := h91
  obtain ⟨F4, N4, z4⟩ := news_add F1 N2 ev9 h91' h93
  have N5 : News h₀ L s9.heap ((T9, ({ cls := .type "tuple", data := .seq #[.str (dueR (levR xs) (M + 2)).1 td, .ref od] } : Obj)) :: (od, ({ cls := .type "list", data := .seq ov.toArray on } : Obj)) :: (gl, ({ cls := .type "list", data := .seq gv.toArray gn } : Obj)) :: RV) := fun q hq => by
    rcases List.mem_cons.mp hq with rfl | hq
    · exact N4 _ (.head _)
    · rcases List.mem_cons.mp hq with rfl | hq
      · exact N3 _ (.head _)
      · exact N3 q (.tail _ (.tail _ (.tail _ hq)))
  clear N4 N3 N2 F1 F4 h91 h91' h92 h93 h94 z3 z4
  k_with "execs cons" => (refine stop ?_)
  k_steps
  refine ⟨?_⟩
  (rename Fr _ _ _ _ => FZ); (rename News _ _ _ _ => NZ)
  exact next od ov on td _ _ (hs.to.trans ev9.sh).to FZ rfl rfl rfl rfl rfl hwsi (fun q hq => NZ q (.tail _ hq))
end

-- part HK
section
theorem fresh_HK : True := by
  k_with_none
  exact trivial
local macro_rules | `(tactic| walk_at "call ref") => `(tactic| (refine stop ?_))
local macro_rules | `(tactic| walk_at "eval ListComp") => `(tactic| (refine stop ?_))
local macro_rules | `(tactic| walk_at "subscriptTail") => `(tactic| (refine stop ?_))
local macro_rules | `(tactic| walk_at "compareOp NotEq ref ref") => `(tactic| (refine stop ?_))
theorem stageH {w : World} {p : Program} {loose : List Str} {mean : ExcName → Option Value} {mg mb : Str → Option Value} {h₀ : Heap} {s₁ s : Shared} {L fa : Addr} {cdv : Value}
  (LT : LawTop w p loose mean mg mb h₀)
  (b : List Stmt) (sc : Scope) (e : lawFd w.params = some (b, sc))
  {xs : List Int} {RV : List (Addr × Obj)} {lv fg wd dp : Addr} {ll fits wits pits : List Value} {ln fk wk pk : Nat} {o1 o2 o3 o4 o5 : Obj} {m : Str → Option Value} {tz : Tok} {d : LexD}
  (hok : LexOk d) (hT : LawTail xs L d RV lv fg wd dp ll fits wits pits ln fk wk pk o1 o2 o3 o4 o5) (hs : Sh s₁ s)
  (F : Fr h₀ L s.heap m) (hm2 : m (Str.ofString "size") = some (.int ((levR xs).length : Nat) tz))
  {M : Nat} {gl : Addr} {gv : List Value} {gn : Nat} {tm td : Tok} {od : Addr} {ov : List Value} {on : Nat}
  (hgv : StrsAre gv ((dueR (levR xs) (M + 2)).2.map (fun k => (wordsR xs).getD k.toNat Str.empty))) (hov : IntsAre ov (dueR (levR xs) (M + 2)).2)
  (hod : ∀ z ∈ (dueR (levR xs) (M + 2)).2, 0 ≤ z ∧ z < (xs.length : Nat)) (hol : (dueR (levR xs) (M + 2)).2.length ≤ 100)
  (hm4 : m (Str.ofString "marks") = some (.str (dueR (levR xs) (M + 2)).1 tm)) (hm5 : m (Str.ofString "gone") = some (.ref gl)) (hm6 : m (Str.ofString "due") = some (.str (dueR (levR xs) (M + 2)).1 td)) (hm7 : m (Str.ofString "order") = some (.ref od))
  (N : News h₀ L s.heap ((od, ({ cls := .type "list", data := .seq ov.toArray on } : Obj)) :: (gl, ({ cls := .type "list", data := .seq gv.toArray gn } : Obj)) :: RV))
  (next : ∀ (m' : Str → Option Value) (s' : Shared), Sh s₁ s' →
    Fr h₀ L s'.heap m' → m' (Str.ofString "size") = some (.int ((levR xs).length : Nat) tz) → m' (Str.ofString "marks") = some (.str (dueR (levR xs) (M + 2)).1 tm) → m' (Str.ofString "order") = some (.ref od) →
    News h₀ L s'.heap ((od, ({ cls := .type "list", data := .seq ov.toArray on } : Obj)) :: RV) →
    wpAny (model PySem.Challenge.rw_us0006_01.row.prog w) (callerA.deeper (envOfC (Str.ofString "law") sc L fa cdv)) (execs (b.drop 16) (envOfC (Str.ofString "law") sc L fa cdv)) (LawQ h₀ s₁) (fun _ _ => False) s') :
  wpAny (model PySem.Challenge.rw_us0006_01.row.prog w) (callerA.deeper (envOfC (Str.ofString "law") sc L fa cdv)) (execs (b.drop 15) (envOfC (Str.ofString "law") sc L fa cdv)) (LawQ h₀ s₁) (fun _ _ => False) s := by
  revert next; revert e; revert b sc
  refine law_all rfl ?_
  intro next
  have X := LT.g.X
  revert X; k_fill; intro X
  have T := LT.T
  have B := LT.B
  have C := LT.C
  have hwl : (wordsR xs).length = xs.length := by unfold wordsR; rw [List.length_map, List.length_range]
  have hwits : wits.length = xs.length := by rw [hT.hwi.len_eq, hwl]
  have hx6 := hT.h6
  have F0 : Fr h₀ L s.heap (bd m [(Str.ofString "size", .int ((levR xs).length : Nat) tz), (Str.ofString "marks", .str (dueR (levR xs) (M + 2)).1 tm), (Str.ofString "gone", .ref gl), (Str.ofString "due", .str (dueR (levR xs) (M + 2)).1 td), (Str.ofString "order", .ref od)]) := by rw [bd_eq (List.forall_mem_cons.mpr ⟨hm2, List.forall_mem_cons.mpr ⟨hm4, List.forall_mem_cons.mpr ⟨hm5, List.forall_mem_cons.mpr ⟨hm6, List.forall_mem_singleton.mpr hm7⟩⟩⟩⟩)]; exact F
  clear F hm2 hm4 hm5 hm6 hm7
  dsimp only [List.drop_succ_cons, List.drop_zero]
  have hm3 := hT.m3
  have ho3 := hT.ho3
  have N1 : News h₀ L s.heap ((L + 3, o3) :: (wd, ({ cls := .type "list", data := .seq wits.toArray wk } : Obj)) :: (od, ({ cls := .type "list", data := .seq ov.toArray on } : Obj)) :: (gl, ({ cls := .type "list", data := .seq gv.toArray gn } : Obj)) :: RV) := fun q hq => by
    rcases List.mem_cons.mp hq with rfl | hq
    · exact N _ (.tail _ (.tail _ hm3))
    · rcases List.mem_cons.mp hq with rfl | hq
      · exact N _ (.tail _ (.tail _ hT.mwd))
      · exact N q hq
  clear N
  k_steps
  · rename_i hbad
    simp at hbad
  refine ⟨?_⟩
  refine comp_ints (h₀ := h₀) (L := L) (l := od) (its := ov) (ns := (dueR (levR xs) (M + 2)).2) (fun z y => ∃ t, y = .str ((wordsR xs).getD z.toNat Str.empty) t) rfl (by decide) rfl (by decide) rfl (by omega) hov rfl ?_ (fun _ => rfl)
  k_steps
  (rename Fr _ _ _ _ => F2); (rename News _ _ _ _ => N2)
  refine ⟨⟨_, _, rfl, F2, N2, N2.isList (by k_mem), ?_, ?_⟩⟩
  · intro C z t s₃ m₃ E' hz F9 hm N9
    have hz2 := hod z hz
    k_with "eval Name" => (first | (refine nameL F9 rfl hm ?_) | (refine nameCl N9 (by k_mem) ho3 ?_))
    k_steps
    refine ⟨?_⟩
    refine item_tbl (tbl := wordsR xs) N9 (by k_mem) ?zs1 (by omega) (by rw [hwl]; omega) (by rw [hwl]; omega) (fun t3 => ?_)
    case zs1 => rw [List.toList_toArray]; exact hT.hwi
    exact ⟨⟨t3, rfl⟩, ⟨_, _, rfl, fun _ _ e => e⟩⟩
  · intro D h5 tk ys kk F5 N5 zD hP
    clear F2 N2
    k_steps
    refine ⟨?_⟩
    (rename Fr _ _ _ _ => F6)
    have hys := paired_to_strs hP
    have hok2 : ∀ y ∈ (dueR (levR xs) (M + 2)).2.map (fun k => (wordsR xs).getD k.toNat Str.empty), PyData.strOk y = true := fun y hy => by
      obtain ⟨z, hz, rfl⟩ := List.mem_map.mp hy
      have hz2 := hod z hz
      refine wordsR_ok xs hx6 _ ?_
      rw [List.getD_eq_getElem?_getD, List.getElem?_eq_getElem (by rw [hwl]; omega)]
      exact List.getElem_mem _
    refine ne_strs (xs := gv) (ys := ys) ?zr1 ?zr2 hgv hys hok2 hok2 ?zr3 ?zr4
    case zr1 => exact N5.isList (by k_mem)
    case zr2 => exact N5.isList (.head _)
    case zr3 => exact Nat.le_of_ble_eq_true rfl
    rw [show ∀ l : List Str, (!decide (l = l)) = false from fun l => by simp]
    clear hys hP hok2
    k_with "execs cons" => (refine stop ?_)
    k_steps
    refine ⟨?_⟩
    (rename Fr _ _ _ _ => FZ); (rename News _ _ _ _ => NZ)
    exact next _ _ hs.to FZ rfl rfl rfl (fun q hq => NZ q (by
      rcases List.mem_cons.mp hq with rfl | hq
      · k_mem
      · exact .tail _ (.tail _ (.tail _ (.tail _ (.tail _ hq))))))
end

-- part HL
section
theorem fresh_HL : True := by
  k_with_none
  exact trivial
local macro_rules | `(tactic| walk_at "call ref") => `(tactic| (refine stop ?_))
theorem stageI {w : World} {p : Program} {loose : List Str} {mean : ExcName → Option Value} {mg mb : Str → Option Value} {h₀ : Heap} {s₁ s : Shared} {L fa : Addr} {cdv : Value}
  (LT : LawTop w p loose mean mg mb h₀)
  (b : List Stmt) (sc : Scope) (e : lawFd w.params = some (b, sc))
  {xs : List Int} {RV : List (Addr × Obj)} {lv fg wd dp : Addr} {ll fits wits pits : List Value} {ln fk wk pk : Nat} {o1 o2 o3 o4 o5 : Obj} {m : Str → Option Value} {tz : Tok} {d : LexD}
  (hok : LexOk d) (hT : LawTail xs L d RV lv fg wd dp ll fits wits pits ln fk wk pk o1 o2 o3 o4 o5) (hs : Sh s₁ s)
  (F : Fr h₀ L s.heap m) (hm2 : m (Str.ofString "size") = some (.int ((levR xs).length : Nat) tz))
  {mk : Str} {tm : Tok} {od : Addr} {ov : List Value} {on : Nat} (hml : mk.length ≤ 100) (hrev : ∀ u, (Txt.sliceBy mk none none (-1, u)).cps.size ≤ 500 ∧ escE (Txt.sliceBy mk none none (-1, u)).cps.toList false = false ∧ escE (stripR (Txt.sliceBy mk none none (-1, u))).cps.toList false = false ∧ checkR (Txt.sliceBy mk none none (-1, u)) = false)
  (hm4 : m (Str.ofString "marks") = some (.str mk tm)) (hm7 : m (Str.ofString "order") = some (.ref od))
  (N : News h₀ L s.heap ((od, ({ cls := .type "list", data := .seq ov.toArray on } : Obj)) :: RV))
  (next : ∀ (m' : Str → Option Value) (s' : Shared), Sh s₁ s' →
    Fr h₀ L s'.heap m' → m' (Str.ofString "size") = some (.int ((levR xs).length : Nat) tz) → m' (Str.ofString "marks") = some (.str mk tm) → m' (Str.ofString "order") = some (.ref od) →
    News h₀ L s'.heap ((od, ({ cls := .type "list", data := .seq ov.toArray on } : Obj)) :: RV) →
    wpAny (model PySem.Challenge.rw_us0006_01.row.prog w) (callerA.deeper (envOfC (Str.ofString "law") sc L fa cdv)) (execs (b.drop 17) (envOfC (Str.ofString "law") sc L fa cdv)) (LawQ h₀ s₁) (fun _ _ => False) s') :
  wpAny (model PySem.Challenge.rw_us0006_01.row.prog w) (callerA.deeper (envOfC (Str.ofString "law") sc L fa cdv)) (execs (b.drop 16) (envOfC (Str.ofString "law") sc L fa cdv)) (LawQ h₀ s₁) (fun _ _ => False) s := by
  revert next; revert e; revert b sc
  refine law_all rfl ?_
  intro next
  have X := LT.g.X
  revert X; k_fill; intro X
  have T := LT.T
  have B := LT.B
  have C := LT.C
  have hwl : (wordsR xs).length = xs.length := by unfold wordsR; rw [List.length_map, List.length_range]
  have hwits : wits.length = xs.length := by rw [hT.hwi.len_eq, hwl]
  have hx6 := hT.h6
  have F0 : Fr h₀ L s.heap (bd m [(Str.ofString "size", .int ((levR xs).length : Nat) tz), (Str.ofString "marks", .str mk tm), (Str.ofString "order", .ref od)]) := by rw [bd_eq (List.forall_mem_cons.mpr ⟨hm2, List.forall_mem_cons.mpr ⟨hm4, List.forall_mem_singleton.mpr hm7⟩⟩)]; exact F
  clear F hm2 hm4 hm7
  dsimp only [List.drop_succ_cons, List.drop_zero]
  k_steps
  refine ⟨?_⟩
  (rename Fr _ _ _ _ => F1); (rename News _ _ _ _ => N2)
  refine of_UU (check_spec (LT.g.keeps F1.keep) (hrev _).1 (hrev _).2.1 (hrev _).2.2.1 ?_) rfl (Nat.le_of_ble_eq_true rfl) (Nat.le_of_ble_eq_true rfl)
  intro s7 ev7
  rw [(hrev _).2.2.2]
  have F7 := F1.keeps ev7.keep
  have N7 : News h₀ L s7.heap _ := fun q hq => ⟨ev7.keep _ _ (N2 q hq).1, (N2 q hq).2⟩
  clear F1 N2
  k_with "execs cons" => (refine stop ?_)
  k_steps
  refine ⟨?_⟩
  (rename Fr _ _ _ _ => FZ); (rename News _ _ _ _ => NZ)
  exact next _ _ (hs.to.trans ev7.sh).to FZ rfl rfl rfl NZ
end

-- part HM
section
theorem fresh_HM : True := by
  k_with_none
  exact trivial
local macro_rules | `(tactic| walk_at "call ref") => `(tactic| (refine stop ?_))
theorem stageJ {w : World} {p : Program} {loose : List Str} {mean : ExcName → Option Value} {mg mb : Str → Option Value} {h₀ : Heap} {s₁ s : Shared} {L fa : Addr} {cdv : Value}
  (LT : LawTop w p loose mean mg mb h₀)
  (b : List Stmt) (sc : Scope) (e : lawFd w.params = some (b, sc))
  {xs : List Int} {RV : List (Addr × Obj)} {lv fg wd dp : Addr} {ll fits wits pits : List Value} {ln fk wk pk : Nat} {o1 o2 o3 o4 o5 : Obj} {m : Str → Option Value} {tz : Tok} {d : LexD}
  (hok : LexOk d) (hT : LawTail xs L d RV lv fg wd dp ll fits wits pits ln fk wk pk o1 o2 o3 o4 o5) (hs : Sh s₁ s)
  (F : Fr h₀ L s.heap m) (hm2 : m (Str.ofString "size") = some (.int ((levR xs).length : Nat) tz))
  {mk : Str} {tm : Tok} {od : Addr} {ov : List Value} {on : Nat} (hml : mk.length ≤ 100) (hmz : mk.cps.size < 100) (hdk : DepOk mk (List.replicate xs.length Str.empty))
  (hm4 : m (Str.ofString "marks") = some (.str mk tm)) (hm7 : m (Str.ofString "order") = some (.ref od))
  (N : News h₀ L s.heap ((od, ({ cls := .type "list", data := .seq ov.toArray on } : Obj)) :: RV))
  (next : ∀ (hp : Addr) (hv : List Value) (hn : Nat) (m' : Str → Option Value) (s' : Shared), Sh s₁ s' → IntsAre hv (depR mk (List.replicate xs.length Str.empty)) → m' (Str.ofString "heights") = some (.ref hp) →
    Fr h₀ L s'.heap m' → m' (Str.ofString "size") = some (.int ((levR xs).length : Nat) tz) → m' (Str.ofString "marks") = some (.str mk tm) → m' (Str.ofString "order") = some (.ref od) →
    News h₀ L s'.heap ((hp, ({ cls := .type "list", data := .seq hv.toArray hn } : Obj)) :: (od, ({ cls := .type "list", data := .seq ov.toArray on } : Obj)) :: RV) →
    wpAny (model PySem.Challenge.rw_us0006_01.row.prog w) (callerA.deeper (envOfC (Str.ofString "law") sc L fa cdv)) (execs (b.drop 18) (envOfC (Str.ofString "law") sc L fa cdv)) (LawQ h₀ s₁) (fun _ _ => False) s') :
  wpAny (model PySem.Challenge.rw_us0006_01.row.prog w) (callerA.deeper (envOfC (Str.ofString "law") sc L fa cdv)) (execs (b.drop 17) (envOfC (Str.ofString "law") sc L fa cdv)) (LawQ h₀ s₁) (fun _ _ => False) s := by
  revert next; revert e; revert b sc
  refine law_all rfl ?_
  intro next
  have X := LT.g.X
  revert X; k_fill; intro X
  have T := LT.T
  have B := LT.B
  have C := LT.C
  have hwl : (wordsR xs).length = xs.length := by unfold wordsR; rw [List.length_map, List.length_range]
  have hwits : wits.length = xs.length := by rw [hT.hwi.len_eq, hwl]
  have hx6 := hT.h6
  have F0 : Fr h₀ L s.heap (bd m [(Str.ofString "size", .int ((levR xs).length : Nat) tz), (Str.ofString "marks", .str mk tm), (Str.ofString "order", .ref od)]) := by rw [bd_eq (List.forall_mem_cons.mpr ⟨hm2, List.forall_mem_cons.mpr ⟨hm4, List.forall_mem_singleton.mpr hm7⟩⟩)]; exact F
  clear F hm2 hm4 hm7
  dsimp only [List.drop_succ_cons, List.drop_zero]
  k_steps
  (rename Fr _ _ _ _ => F1); (rename News _ _ _ _ => N2)
  have hx5 := hT.h5
  have hlen2 : (levR xs).length = xs.length := levR_len xs (by omega)
  refine KMa.mul F1 N2 (vs := [.str (Str.ofString "") _]) (N2.isList (.head _)) (by omega) (by omega) (by rw [List.length_singleton]; omega) rfl (fun D h' F3 N3 _ => ?_)
  clear F1 N2
  k_steps
  refine ⟨?_⟩
  (rename Fr _ _ _ _ => F5); (rename News _ _ _ _ => N5)
  have hrp : ∀ (n : Nat) (t : Tok), StrsAre (List.replicate n [Value.str (Str.ofString "") t]).flatten (List.replicate n Str.empty) := fun n t => by
    induction n with
    | zero => exact .nil
    | succ n ih => rw [List.replicate_succ, List.flatten_cons, List.replicate_succ]; exact .cons _ _ ih
  refine of_UU (depths_spec (ds := List.replicate xs.length Str.empty) (LT.g.keeps F5.keep) (N5.isList (.head _)) (by rw [show ((((levR xs).length : Nat) : Int)).toNat = xs.length by omega]; exact hrp _ _) hmz hdk ?_) rfl (Nat.le_of_ble_eq_true rfl) (Nat.le_of_ble_eq_true rfl)
  intro hp hv hn s8 h81 h82 hpi ev8
  obtain ⟨F8, N8, _⟩ := news_add F5 N5 ev8 h81 h82
  clear F5 N5
  k_with "execs cons" => (refine stop ?_)
  k_steps
  refine ⟨?_⟩
  (rename Fr _ _ _ _ => FZ); (rename News _ _ _ _ => NZ)
  exact next hp hv hn _ _ (hs.to.trans ev8.sh).to hpi rfl FZ rfl rfl rfl (fun q hq => NZ q (by
    rcases List.mem_cons.mp hq with rfl | hq
    · exact .head _
    · exact .tail _ (.tail _ (.tail _ hq))))
end

-- part HN
section
theorem fresh_HN : True := by
  k_with_none
  exact trivial
local macro_rules | `(tactic| walk_at "call ref") => `(tactic| (refine stop ?_))
local macro_rules | `(tactic| walk_at "call builtin:sum") => `(tactic| (refine stop ?_))
theorem numsOf_ints : ∀ {vs : List Value} {ns : List Int}, IntsAre vs ns → numsOf vs = ns := by
  intro vs ns h
  induction h with
  | nil => rfl
  | cons _ _ _ ih => exact congrArg _ ih
theorem stageK {w : World} {p : Program} {loose : List Str} {mean : ExcName → Option Value} {mg mb : Str → Option Value} {h₀ : Heap} {s₁ s : Shared} {L fa : Addr} {cdv : Value}
  (LT : LawTop w p loose mean mg mb h₀)
  (b : List Stmt) (sc : Scope) (e : lawFd w.params = some (b, sc))
  {xs : List Int} {RV : List (Addr × Obj)} {lv fg wd dp : Addr} {ll fits wits pits : List Value} {ln fk wk pk : Nat} {o1 o2 o3 o4 o5 : Obj} {m : Str → Option Value} {tz : Tok} {d : LexD}
  (hok : LexOk d) (hT : LawTail xs L d RV lv fg wd dp ll fits wits pits ln fk wk pk o1 o2 o3 o4 o5) (hs : Sh s₁ s)
  (F : Fr h₀ L s.heap m) (hm2 : m (Str.ofString "size") = some (.int ((levR xs).length : Nat) tz))
  {od hp : Addr} {ov hv : List Value} {on hn : Nat} {hh : List Int} (hhi : IntsAre hv hh) (hpr : pairsR (levR xs) = hh.sum)
  (hm4 : m (Str.ofString "heights") = some (.ref hp)) (hm7 : m (Str.ofString "order") = some (.ref od))
  (N : News h₀ L s.heap ((hp, ({ cls := .type "list", data := .seq hv.toArray hn } : Obj)) :: (od, ({ cls := .type "list", data := .seq ov.toArray on } : Obj)) :: RV))
  (next : ∀ (m' : Str → Option Value) (s' : Shared), Sh s₁ s' →
    Fr h₀ L s'.heap m' → m' (Str.ofString "size") = some (.int ((levR xs).length : Nat) tz) → m' (Str.ofString "heights") = some (.ref hp) → m' (Str.ofString "order") = some (.ref od) →
    News h₀ L s'.heap ((hp, ({ cls := .type "list", data := .seq hv.toArray hn } : Obj)) :: (od, ({ cls := .type "list", data := .seq ov.toArray on } : Obj)) :: RV) →
    wpAny (model PySem.Challenge.rw_us0006_01.row.prog w) (callerA.deeper (envOfC (Str.ofString "law") sc L fa cdv)) (execs (b.drop 19) (envOfC (Str.ofString "law") sc L fa cdv)) (LawQ h₀ s₁) (fun _ _ => False) s') :
  wpAny (model PySem.Challenge.rw_us0006_01.row.prog w) (callerA.deeper (envOfC (Str.ofString "law") sc L fa cdv)) (execs (b.drop 18) (envOfC (Str.ofString "law") sc L fa cdv)) (LawQ h₀ s₁) (fun _ _ => False) s := by
  revert next; revert e; revert b sc
  refine law_all rfl ?_
  intro next
  have X := LT.g.X
  revert X; k_fill; intro X
  have T := LT.T
  have B := LT.B
  have C := LT.C
  have hwl : (wordsR xs).length = xs.length := by unfold wordsR; rw [List.length_map, List.length_range]
  have hwits : wits.length = xs.length := by rw [hT.hwi.len_eq, hwl]
  have hx6 := hT.h6
  have F0 : Fr h₀ L s.heap (bd m [(Str.ofString "size", .int ((levR xs).length : Nat) tz), (Str.ofString "heights", .ref hp), (Str.ofString "order", .ref od)]) := by rw [bd_eq (List.forall_mem_cons.mpr ⟨hm2, List.forall_mem_cons.mpr ⟨hm4, List.forall_mem_singleton.mpr hm7⟩⟩)]; exact F
  clear F hm2 hm4 hm7
  dsimp only [List.drop_succ_cons, List.drop_zero]
  have hlen2 : (levR xs).length = xs.length := levR_len xs (by have := hT.h5; omega)
  have hm5 := hT.m5
  have ho5 := hT.ho5
  have N1 : News h₀ L s.heap ((L + 5, o5) :: (dp, ({ cls := .type "list", data := .seq pits.toArray pk } : Obj)) :: (hp, ({ cls := .type "list", data := .seq hv.toArray hn } : Obj)) :: (od, ({ cls := .type "list", data := .seq ov.toArray on } : Obj)) :: RV) := fun q hq => by
    rcases List.mem_cons.mp hq with rfl | hq
    · exact N _ (.tail _ (.tail _ hm5))
    · rcases List.mem_cons.mp hq with rfl | hq
      · exact N _ (.tail _ (.tail _ hT.mdp))
      · exact N q hq
  clear N
  k_steps
  refine ⟨?_⟩
  (rename Fr _ _ _ _ => F1); (rename News _ _ _ _ => N2)
  refine of_UU (pairs_spec (LT.g.keeps F1.keep) (N2.isList (.tail _ (.head _))) hT.hpi (by omega) ?_) rfl (Nat.le_of_ble_eq_true rfl) (Nat.le_of_ble_eq_true rfl)
  intro t7 s7 ev7
  have F7 := F1.keeps ev7.keep
  have N7 : News h₀ L s7.heap _ := fun q hq => ⟨ev7.keep _ _ (N2 q hq).1, (N2 q hq).2⟩
  clear F1 N2
  k_steps
  refine ⟨?_⟩
  (rename Fr _ _ _ _ => F8); (rename News _ _ _ _ => N8)
  have hall : AllInts hv.toArray := fun v hv' => hhi.all v (by simpa using hv')
  refine sum_pick rfl F8 N8 (.tail _ (.tail _ (.head _))) hall (fun h' tk t' F9 N9 => ?_)
  rw [show numsOf hv.toArray.toList = hh from numsOf_ints hhi, hpr]
  clear F8 N8
  k_with "execs cons" => (refine stop ?_)
  k_steps
  · exact absurd rfl (show hh.sum ≠ hh.sum by assumption)
  · refine ⟨?_⟩
    (rename Fr _ _ _ _ => FZ); (rename News _ _ _ _ => NZ)
    exact next _ _ (hs.to.trans ev7.sh).to FZ rfl rfl rfl (fun q hq => NZ q (.tail _ (.tail _ hq)))
end

-- part HO
section
theorem fresh_HO : True := by
  k_with_none
  exact trivial
local macro_rules | `(tactic| walk_at "call ref") => `(tactic| (refine stop ?_))
theorem stageL {w : World} {p : Program} {loose : List Str} {mean : ExcName → Option Value} {mg mb : Str → Option Value} {h₀ : Heap} {s₁ s : Shared} {L fa : Addr} {cdv : Value}
  (LT : LawTop w p loose mean mg mb h₀)
  (b : List Stmt) (sc : Scope) (e : lawFd w.params = some (b, sc))
  {xs : List Int} {RV : List (Addr × Obj)} {lv fg wd dp : Addr} {ll fits wits pits : List Value} {ln fk wk pk : Nat} {o1 o2 o3 o4 o5 : Obj} {m : Str → Option Value} {tz : Tok} {d : LexD}
  (hT : LawTail xs L d RV lv fg wd dp ll fits wits pits ln fk wk pk o1 o2 o3 o4 o5) (hs : Sh s₁ s)
  (F : Fr h₀ L s.heap m)
  {od hp : Addr} {ov hv : List Value} {on hn : Nat} {hh : List Int} (hhi : IntsAre hv hh) (hhl : hh.length < 100)
  (hm_size : m (Str.ofString "size") = some (.int ((levR xs).length : Nat) tz)) (hm_heights : m (Str.ofString "heights") = some (.ref hp)) (hm_order : m (Str.ofString "order") = some (.ref od))
  (N : News h₀ L s.heap ((hp, ({ cls := .type "list", data := .seq hv.toArray hn } : Obj)) :: (od, ({ cls := .type "list", data := .seq ov.toArray on } : Obj)) :: RV))
  (next : ∀ (sp : Addr) (sv : List Value) (sn : Nat) (m' : Str → Option Value) (s' : Shared), Sh s₁ s' → IntsAre sv (stopsR hh) → 
    Fr h₀ L s'.heap m' → m' (Str.ofString "size") = some (.int ((levR xs).length : Nat) tz) → m' (Str.ofString "stops") = some (.ref sp) → m' (Str.ofString "order") = some (.ref od) →
    News h₀ L s'.heap ((sp, ({ cls := .type "list", data := .seq sv.toArray sn } : Obj)) :: (od, ({ cls := .type "list", data := .seq ov.toArray on } : Obj)) :: RV) →
    wpAny (model PySem.Challenge.rw_us0006_01.row.prog w) (callerA.deeper (envOfC (Str.ofString "law") sc L fa cdv)) (execs (b.drop 20) (envOfC (Str.ofString "law") sc L fa cdv)) (LawQ h₀ s₁) (fun _ _ => False) s') :
  wpAny (model PySem.Challenge.rw_us0006_01.row.prog w) (callerA.deeper (envOfC (Str.ofString "law") sc L fa cdv)) (execs (b.drop 19) (envOfC (Str.ofString "law") sc L fa cdv)) (LawQ h₀ s₁) (fun _ _ => False) s := by
  revert next; revert e; revert b sc
  refine law_all rfl ?_
  intro next
  have X := LT.g.X
  revert X; k_fill; intro X
  have T := LT.T
  have B := LT.B
  have C := LT.C
  have hx6 := hT.h6
  have hx5 := hT.h5
  have hlen2 : (levR xs).length = xs.length := levR_len xs (by omega)
  have F0 : Fr h₀ L s.heap (bd m [(Str.ofString "size", .int ((levR xs).length : Nat) tz), (Str.ofString "heights", .ref hp), (Str.ofString "order", .ref od)]) := by rw [bd_eq (List.forall_mem_cons.mpr ⟨hm_size, List.forall_mem_cons.mpr ⟨hm_heights, List.forall_mem_singleton.mpr hm_order⟩⟩)]; exact F
  clear F hm_size hm_heights hm_order
  dsimp only [List.drop_succ_cons, List.drop_zero]
  k_steps
  refine ⟨?_⟩
  (rename Fr _ _ _ _ => F1); (rename News _ _ _ _ => N2)
  refine of_UU (stops_spec (LT.g.keeps F1.keep) (N2.isList (.head _)) hhi hhl ?_) rfl (Nat.le_of_ble_eq_true rfl) (Nat.le_of_ble_eq_true rfl)
  intro sp sv sn s8 h81 h82 hsi ev8
  obtain ⟨F8, N8, _⟩ := news_add F1 N2 ev8 h81 h82
  clear F1 N2
  k_with "execs cons" => (refine stop ?_)
  k_steps
  refine ⟨?_⟩
  (rename Fr _ _ _ _ => FZ); (rename News _ _ _ _ => NZ)
  exact next sp sv sn _ _ (hs.to.trans ev8.sh).to hsi FZ rfl rfl rfl (fun q hq => NZ q (by
    rcases List.mem_cons.mp hq with rfl | hq
    · exact .head _
    · exact .tail _ (.tail _ hq)))
end

-- part K8
section
section
variable {M : Model} {prog : Program} {w : World} {A : Around} {E : Value → Shared → Prop} {s : Shared} {h₀ : Heap} {L : Addr} {m : Str → Option Value}
noncomputable abbrev cell0 : Obj := { cls := .type "cell", data := .cell none }
/-- the surroundings of a comprehension with one cell -/
theorem compEnv_cell {scope : Scope} {globals : Addr} {cl : List (Str × Addr)} {qual : Str} {code : Value} {around : Env} {builtins : Addr} {x : Str} {Q : Env → Shared → Prop}
    (hcl : ∀ n acc, cellsFrom n scope.names acc = (x, n) :: acc) (hpu : ∀ h, pushCells h scope.names = h.push cell0)
    (hQ : ∀ h', h'.Ns s.heap.objs.size (fun _ => none) → h'.get? (s.heap.objs.size + 1) = some cell0 → (∀ b o, s.heap.get? b = some o → h'.get? b = some o) →
      Q (newEnv scope s.heap.objs.size globals ((x, s.heap.objs.size + 1) :: cl) qual none code (some around) builtins) { s with heap := h' }) :
    wpAny M A (newFunctionEnv scope globals cl [] qual none code (some around) builtins) Q E s := by
  simp only [newFunctionEnv, Option.isSome_some, if_true]
  simp only [newEnv] at hQ
  refine wpAny_bind (wpAny_alloc ?_)
  refine wpAny_bind (wpAny_layCells _ (fun name kind cells => by cases hkc : kind == NameKind.cell <;> simp) _ _ _ _ ?_)
  rw [hcl, hpu]
  have e : ({ s with heap := s.heap.push { cls := .type "dict", data := .dict #[] } } : Shared).heap.objs.size = s.heap.objs.size + 1 := Heap.size_push ..
  rw [e]
  refine wpAny_bind ?_
  rw [List.forIn_nil]
  refine wpAny_pure (wpAny_pure (hQ _ ?_ ?_ ?_))
  · exact (Heap.Ns.new s.heap (.type "dict")).keeps fun b o e => Heap.get?_push_of_some _ e
  · have := Heap.get?_push_size (s.heap.push { cls := .type "dict", data := .dict #[] }) (o := cell0) rfl
    rw [Heap.size_push] at this; exact this
  · exact fun b o e => Heap.get?_push_of_some _ (Heap.get?_push_of_some _ e)

theorem comp_cell_loop {env : Env} {elt iter : Expr} {x : Str} {px : Pos} {scope : Scope} {cl : List (Str × Addr)} {pos : Pos} {n : Nat} {P : Nat → Value → Prop} (RB : Nat → Value → Prop) {s₂ : Shared} {h₁ : Heap} {tk₀ : Nat} {I C D c : Addr} {news : List (Addr × Obj)} {m₀ : Str → Option Value} {R : Result → Shared → Prop}
    (S : Src prog w A h₀ L I m news n P s₂) (hsz : n ≤ sizeLine) (hx : ∀ cs C, (compEnvC scope cs C env).kindOf x = some .cell) (hxx : (x == x) = true) (hkind : scope.kind = .function)
    (old : ∀ b o, s₂.heap.get? b = some o → h₁.get? b = some o) (below : ∀ b, b < s₂.heap.objs.size → @Ne Nat b D ∧ @Ne Nat b C ∧ @Ne Nat b c) (hDC : D ≠ C) (hDc : D ≠ c) (hCc : C ≠ c) (hCa : h₀.objs.size ≤ C)
    (hc0 : h₀.get? c = none) (hD0 : h₀.get? D = none) (hC0 : h₀.get? C = none)
    (hD : h₁.get? D = some (LCg.lst [])) (hC : h₁.Ns C m₀) (hc : h₁.get? c = some cell0)
    (hel : ∀ i C c oc v s₃ m₃ E', i < n → P i v → oc.data = .cell (some v) → Fr h₀ C s₃.heap m₃ → News h₀ C s₃.heap ((c, oc) :: news) → wpAny (model prog w) A (eval elt (compEnvC scope ((x, c) :: cl) C env)) (CompEl (fun _ y => RB i y) v s₃) E' s₃)
    (hR : ∀ h' tk (ys : List Value) m', (∀ b o, b ≠ I → s₂.heap.get? b = some o → h'.get? b = some o) → h'.get? D = some (LCg.lst ys) → h'.Ns C m' → ys.length = n → (∀ j y, ys[j]? = some y → RB j y) → R (.ok .next) { s₂ with heap := h', toks := tk }) :
    codeAny (model prog w) A (.compLoop (.ListComp elt [⟨.Name x px, iter, [], 0⟩] scope pos) 0 (.ref I) (.ref D) (compEnvC scope ((x, c) :: cl) C env)) R { s₂ with heap := h₁, toks := tk₀ } := by
  (refine goal_cut fun Gz hGz => ?_; obtain ⟨fp, St, W, hst, hfp⟩ := S.walks; refine hGz ?_; clear hGz Gz)
  have hIf : I ∈ fp := W.sub I (List.mem_singleton.mpr rfl)
  have nf : ∀ b ∈ fp, @Ne Nat b D ∧ @Ne Nat b C ∧ @Ne Nat b c := fun b hb => below b (hfp b hb)
  have nI := nf I hIf
  have hst₁ : St 0 h₁ := W.frame _ _ _ hst fun b _ o e => old b o e
  refine codeAny_compLoop_list (fun k s' => ∃ h' tk i ys m' oc v₀, s' = { s₂ with heap := h', toks := tk } ∧ i ≤ n ∧ k = n + 1 - i ∧ ys.length = i ∧ St i h' ∧ (∀ b o, b ≠ I → s₂.heap.get? b = some o → h'.get? b = some o) ∧
      h'.get? D = some (LCg.lst ys) ∧ h'.Ns C m' ∧ h'.get? c = some oc ∧ oc.data = .cell v₀ ∧ (∀ j y, ys[j]? = some y → RB j y)) ?_ (n + 1)
    ⟨h₁, _, 0, [], _, _, _, rfl, Nat.zero_le _, rfl, rfl, hst₁, fun b o _ e => old b o e, hD, hC, hc, rfl, fun j y e => by simp at e⟩
  rintro k s' ⟨h', tk, i, ys, m', oc, v₀, rfl, hi, rfl, hyl, hst', hk', hD', hC', hc', hoc, hRB⟩
  by_cases hlt : i < n
  · refine W.item i _ _ _ hlt hst' fun v h₂ tk₂ hPv hst₂ hk₂ => ?_
    have k2 : ∀ b o, b ≠ I → h'.get? b = some o → h₂.get? b = some o := fun b o hb e => hk₂ b o (fun q => hb (List.mem_singleton.mp q)) e
    refine wpAny_assign_Name (wpAny_storeName_cell (show (compEnvC scope ((x, c) :: cl) C env).scope.kind = .function by simp [compEnvC, relabel, hkind]) (hx _ _) (show List.lookup x ((x, c) :: cl) = some c by rw [List.lookup_cons, hxx]) ⟨oc, k2 c oc (Ne.symm nI.2.2) hc', hoc⟩ fun h₃ hv₃ hs₃ => ?_)
    obtain ⟨oc₃, hc₃, hoc₃⟩ := hv₃
    have k3 : ∀ b o, b ≠ c → h₂.get? b = some o → h₃.get? b = some o := fun b o hb e => (hs₃.2 b hb).trans e
    have hst₃ : St (i + 1) h₃ := W.frame _ _ _ hst₂ fun b hb o e => k3 b o (nf b hb).2.2 e
    have all3 : ∀ b o, b ≠ I → s₂.heap.get? b = some o → h₃.get? b = some o := fun b o hb e => k3 b o (below b (Heap.lt_size e)).2.2 (k2 b o hb (hk' b o hb e))
    have hC₃ : h₃.Ns C m' := hC'.at' fun o e => k3 C o hCc (k2 C o (Ne.symm nI.2.1) e)
    have F₃ : Fr h₀ C h₃ m' := ⟨hC₃, fun b o e => all3 b o (fun q => by rw [q, S.new] at e; cases e) (S.fr.keep b o e), hCa⟩
    have N₃ : News h₀ C h₃ ((c, oc₃) :: news) := fun p hp => by
      rcases List.mem_cons.mp hp with rfl | hp
      · exact ⟨hc₃, Ne.symm hCc, hc0⟩
      · exact ⟨all3 _ _ (S.off p hp) (S.ne p hp).1, (below _ (Heap.lt_size (S.ne p hp).1)).2.1, (S.ne p hp).2.2⟩
    refine wpAny_mono (hel i C c oc₃ v _ m' _ hlt hPv hoc₃ F₃ N₃) (fun y s₄ h₄ => ?_) fun _ _ e => e
    obtain ⟨hy, h₅, tk₅, rfl, hk₅⟩ := h₄
    have hk₅ : ∀ b o, h₃.get? b = some o → h₅.get? b = some o := hk₅
    have hD₅ : h₅.get? D = some (LCg.lst ys) := hk₅ _ _ (k3 D _ hDc (k2 D _ (Ne.symm nI.1) hD'))
    refine append_at (hsz := by show ys.toArray.size ≤ sizeLine; rw [List.size_toArray, hyl]; exact Nat.le_trans hi hsz) hD₅ fun h₆ hs₆ hD₆ => ?_
    have k6 : ∀ b o, b ≠ D → h₅.get? b = some o → h₆.get? b = some o := fun b o hb e => hs₆.extBut b o hb e
    refine ⟨n + 1 - (i + 1), by omega, h₆, tk₅, i + 1, ys ++ [y], m', oc₃, some v, rfl, hlt, rfl, by rw [List.length_append, List.length_singleton, hyl], ?_, ?_, ?_, ?_, ?_, hoc₃, ?_⟩
    · exact W.frame _ _ _ hst₃ fun b hb o e => k6 b o (nf b hb).1 (hk₅ b o e)
    · exact fun b o hb e => k6 b o (below b (Heap.lt_size e)).1 (hk₅ b o (all3 b o hb e))
    · exact hD₆.trans (congrArg some (LCg.lst_snoc ys y))
    · exact hC₃.at' fun o e => k6 C o (Ne.symm hDC) (hk₅ C o e)
    · exact k6 c _ (Ne.symm hDc) (hk₅ c _ hc₃)
    · intro j z hz
      by_cases hj : j < ys.length
      · rw [List.getElem?_append_left hj] at hz; exact hRB j z hz
      · have hj2 : j = ys.length := by
          have := (List.getElem?_eq_some_iff.mp hz).1
          rw [List.length_append, List.length_singleton] at this; omega
        subst hj2
        rw [List.getElem?_append_right (Nat.le_refl _)] at hz
        simp at hz
        rw [← hz, hyl]; exact hy
  · obtain rfl : i = n := Nat.le_antisymm hi (Nat.not_lt.mp hlt)
    refine W.done _ _ _ hst' fun h₂ tk₂ hk₂ => ?_
    have k2 : ∀ b o, b ≠ I → h'.get? b = some o → h₂.get? b = some o := fun b o hb e => hk₂ b o (fun q => hb (List.mem_singleton.mp q)) e
    exact hR h₂ tk₂ ys m' (fun b o hb e => k2 b o hb (hk' b o hb e)) (k2 D _ (Ne.symm nI.1) hD') (hC'.at' fun o e => k2 C o (Ne.symm nI.2.1) e) hyl hRB

/-- a list comprehension without tests whose target is a cell, and whose element changes nothing old -/
theorem comp_cell {env : Env} {elt iter : Expr} {x : Str} {px : Pos} {scope : Scope} {cl : List (Str × Addr)} {pos : Pos} {Q : Value → Shared → Prop} {n : Nat} {P : Nat → Value → Prop} (RB : Nat → Value → Prop)
    (hclos : closureFor scope env = pure cl) (hcl : ∀ n acc, cellsFrom n scope.names acc = (x, n) :: acc) (hpu : ∀ h, pushCells h scope.names = h.push cell0) (hkind : scope.kind = .function)
    (hnames : ∀ y ∈ scope.names, y.2 = .local → scope.names.lookup y.1 = some .local) (hx : ∀ cs C, (compEnvC scope cs C env).kindOf x = some .cell) (hxx : (x == x) = true) (hsz : n ≤ sizeLine)
    (h : wpAny (model prog w) A (eval iter env) (fun xv s₁ => wpAny (model prog w) A (pyIter xv) (fun it s₂ => ∃ I m news, it = .ref I ∧ Src prog w A h₀ L I m news n P s₂ ∧
      (∀ i C c oc v s₃ m₃ E', i < n → P i v → oc.data = .cell (some v) → Fr h₀ C s₃.heap m₃ → News h₀ C s₃.heap ((c, oc) :: news) → wpAny (model prog w) A (eval elt (compEnvC scope ((x, c) :: cl) C env)) (CompEl (fun _ y => RB i y) v s₃) E' s₃) ∧
      (∀ D h' tk (ys : List Value) k, Fr h₀ L h' m → News h₀ L h' ((D, { cls := .type "list", data := .seq ys.toArray k }) :: news) → (∀ q ∈ news, @Ne Nat D q.1) → ys.length = n → (∀ j y, ys[j]? = some y → RB j y) → Q (.ref D) { s₂ with heap := h', toks := tk })) E s₁) E s)
    (hs : ∀ x, foldedSetIterable iter env x = pure x := by intro _; rfl) :
    wpAny (model prog w) A (eval (.ListComp elt [⟨.Name x px, iter, [], 0⟩] scope pos) env) Q E s := by
  rw [eval_ListComp]
  refine wpAny_comprehension_free (use := none) rfl hs hclos hkind hnames (wpAny_mono h (fun xv s₁ h₁ => wpAny_mono h₁ (fun it s₂ h₂ => ?_) fun _ _ e => e) fun _ _ e => e)
  clear h
  obtain ⟨I, m, news, rfl, S, hel, hfin⟩ := h₂
  (refine goal_cut fun Gz hGz => ?_; obtain ⟨fp, St, W, hst, hfp⟩ := S.walks; refine hGz ?_; clear hGz Gz)
  have hLlt : L < s₂.heap.objs.size := S.fr.ns.lt
  refine wpAny_newObj_type (compEnv_cell hcl hpu fun h₁ hns₁ hcell₁ hk₁ => ?_)
  dsimp only at hns₁ hcell₁ hk₁ ⊢
  generalize hH2 : s₂.heap.push { cls := .type "list", dict := none, data := .seq ([] : List Value).toArray } = H2 at hns₁ hcell₁ hk₁ ⊢
  have hC : H2.objs.size = s₂.heap.objs.size + 1 := by rw [← hH2, Heap.size_push]
  have fresh : ∀ a, s₂.heap.objs.size ≤ a → s₂.heap.get? a = none := fun a ha => by
    cases e : s₂.heap.get? a with
    | none => rfl
    | some o' => exact absurd (Heap.lt_size e) (Nat.not_lt.mpr ha)
  have fresh₀ : ∀ a, s₂.heap.objs.size ≤ a → h₀.get? a = none := fun a ha => by
    cases e : h₀.get? a with
    | none => rfl
    | some o' =>
      have hI : a ≠ I := fun q => by rw [q, S.new] at e; cases e
      have := S.fr.keep a o' e; rw [fresh a ha] at this; cases this
  have below : ∀ b, b < s₂.heap.objs.size → @Ne Nat b s₂.heap.objs.size ∧ @Ne Nat b H2.objs.size ∧ @Ne Nat b (H2.objs.size + 1) := fun b hb => by
    have hb : @LT.lt Nat _ b s₂.heap.objs.size := hb
    refine ⟨fun q => ?_, fun q => ?_, fun q => ?_⟩ <;> omega
  have old : ∀ b o, s₂.heap.get? b = some o → h₁.get? b = some o := fun b o e => hk₁ b o (hH2 ▸ Heap.get?_push_of_some _ e)
  have hD₁ : h₁.get? s₂.heap.objs.size = some (LCg.lst []) := hk₁ _ _ (hH2 ▸ Heap.get?_push_size _ rfl)
  have hDC : s₂.heap.objs.size ≠ H2.objs.size := by omega
  have hDL : s₂.heap.objs.size ≠ L := fun q => Nat.lt_irrefl _ (q ▸ hLlt)
  have hst₁ : St 0 h₁ := W.frame _ _ _ hst fun b _ o e => old b o e
  have loop : ∀ s₃ : Shared, s₃ = { s₂ with heap := h₁ } →
      codeAny (model prog w) A (.compLoop (.ListComp elt [⟨.Name x px, iter, [], 0⟩] scope pos) 0 (.ref I) (.ref s₂.heap.objs.size) (compEnvC scope ((x, H2.objs.size + 1) :: cl) H2.objs.size env))
        (compPost (model prog w) A E none Q (.ref s₂.heap.objs.size) H2.objs.size) s₃ := by
    rintro s₃ rfl
    refine comp_cell_loop RB S hsz hx hxx hkind old below hDC (fun q => by have q : @Eq Nat s₂.heap.objs.size (H2.objs.size + 1) := q; omega) (fun q => by have q : @Eq Nat H2.objs.size (H2.objs.size + 1) := q; omega) (Nat.le_trans S.fr.above (Nat.le_trans (Nat.le_of_lt hLlt) (by omega))) (fresh₀ _ (by omega)) (fresh₀ _ (Nat.le_refl _)) (fresh₀ _ (by omega)) hD₁ hns₁ hcell₁ hel ?_
    intro h' tk ys m' hk hD hC' hlen hRB
    refine ⟨m', hC', fun h'' hs'' => ?_⟩
    have kk : ∀ b o, b ≠ I → s₂.heap.get? b = some o → h''.get? b = some o := fun b o hb e => hs''.extBut b o (below b (Heap.lt_size e)).2.1 (hk b o hb e)
    exact hfin _ h'' tk ys _ (fr_move' S.fr (fun o e => kk L o S.offL.symm e) (fun b o e => kk b o (fun q => by rw [q, S.new] at e; cases e) (S.fr.keep b o e))) (fun p hp => by
      rcases List.mem_cons.mp hp with rfl | hp
      · exact ⟨hs''.extBut _ _ hDC hD, hDL, fresh₀ _ (Nat.le_refl _)⟩
      · exact ⟨kk _ _ (S.off p hp) (S.ne p hp).1, (S.ne p hp).2⟩) (fun q hq => Ne.symm (below _ (Heap.lt_size (S.ne q hq).1)).1) hlen hRB
  exact codeAny_compStart_list (loop _ rfl) (W.self 0 _ _ _ hst₁ (loop _ rfl))
end
end

-- part K9
section
section
variable {prog : Program} {w : World} {A : Around} {E : Value → Shared → Prop} {s : Shared} {h₀ : Heap} {L : Addr} {m : Str → Option Value}
theorem src_list2 {l : Addr} {items : Array Value} {n : Nat} {P : Nat → Value → Prop} {Q : Value → Shared → Prop} (hh : A.handled = none) (F : Fr h₀ L s.heap m) (N : News h₀ L s.heap news) (hl : s.heap.IsList l items) (hn : items.size = n) (hP : ∀ i v, i < n → items[i]? = some v → P i v)
    (h : ∀ I h', Src prog w A h₀ L I m news n P { s with heap := h' } → (∀ b o, s.heap.get? b = some o → b ≠ I ∧ h'.get? b = some o) → Q (.ref I) { s with heap := h' }) : wpAny (model prog w) A (pyIter (.ref l)) Q E s := by
  have hnew : s.heap.get? s.heap.objs.size = none := by
    cases e : s.heap.get? s.heap.objs.size with
    | none => rfl
    | some o => exact absurd (Heap.lt_size e) (Nat.lt_irrefl _)
  obtain ⟨o, ho, _⟩ := id hl
  have hlt := Heap.lt_size ho
  refine wpAny_pyIter_list hl (h _ _ ⟨hh, ⟨_, _, Walks.imp (hn ▸ Walks.list hh _ l (Nat.ne_of_lt hlt) items) hP, ⟨⟨_, Heap.get?_push_size _ rfl, rfl, rfl⟩, hl.push _⟩, fun b hb => ?_⟩, F.keeps fun b o e => Heap.get?_push_of_some _ e, fun p hp => ⟨Heap.get?_push_of_some _ (N p hp).1, (N p hp).2⟩, fun p hp e => ?_, fun e => ?_, ?_⟩ (fun b o e => ⟨fun q => (by rw [q, hnew] at e; cases e), Heap.get?_push_of_some _ e⟩))
  · show b < (s.heap.push _).objs.size
    rw [Heap.size_push]
    rcases List.mem_cons.mp hb with rfl | hb
    · exact Nat.lt_succ_self _
    · rw [List.mem_singleton.mp hb]; exact Nat.lt_succ_of_lt hlt
  · have := (N p hp).1; rw [e, hnew] at this; cases this
  · (refine goal_cut fun Gz hGz => ?_; obtain ⟨oL, _, _, hoL, _⟩ := id F.ns; refine hGz ?_; clear hGz Gz)
    rw [← e, hnew] at hoL; cases hoL
  · cases e : h₀.get? s.heap.objs.size with
    | none => rfl
    | some o => have := F.keep _ _ e; rw [hnew] at this; cases this

noncomputable def ptV (pt : Int → Bool) (v : Value) : Bool := match v with
  | .int z _ => pt z
  | _ => true
theorem ptV_len {pt : Int → Bool} : ∀ {its : List Value} {ns : List Int}, IntsAre its ns → (its.filter (ptV pt)).length = (ns.filter pt).length := by
  intro its ns h
  induction h with
  | nil => rfl
  | cons i t _ ih =>
    rw [List.filter_cons, List.filter_cons, show ptV pt (.int i t) = pt i from rfl]
    split
    · rw [List.length_cons, List.length_cons, ih]
    · exact ih
/-- a list comprehension with one test over a list of ints, whose element changes nothing old; its length -/
theorem comp_count {env : Env} {elt iter tst : Expr} {x : Str} {px : Pos} {scope : Scope} {cl : List (Str × Addr)} {pos : Pos} {Q : Value → Shared → Prop} {l : Addr} {its : List Value} {ns : List Int} (pt : Int → Bool)
    (hclos : closureFor scope env = pure cl) (hcell : ∀ y ∈ scope.names, y.2 ≠ .cell) (hkind : scope.kind = .function)
    (hnames : ∀ y ∈ scope.names, y.2 = .local → scope.names.lookup y.1 = some .local) (hx : scope.names.lookup x = some .local) (hsz : ns.length ≤ 1000) (hi : IntsAre its ns) (hh : A.handled = none)
    (h : wpAny (model prog w) A (eval iter env) (fun xv s₁ => Stop (∃ m news, xv = .ref l ∧ Fr h₀ L s₁.heap m ∧ News h₀ L s₁.heap news ∧ s₁.heap.IsList l its.toArray ∧
      (∀ C z t s₃ m₃ E', z ∈ ns → Fr h₀ C s₃.heap m₃ → m₃ x = some (.int z t) → News h₀ C s₃.heap news → wpAny (model prog w) A (isTrue tst (compEnvC scope cl C env) (eval tst (compEnvC scope cl C env))) (fun ok s₄ => ok = pt z ∧ Keeps s₃ s₄) E' s₃) ∧
      (∀ C z t s₃ m₃ E', z ∈ ns → Fr h₀ C s₃.heap m₃ → m₃ x = some (.int z t) → News h₀ C s₃.heap news → wpAny (model prog w) A (eval elt (compEnvC scope cl C env)) (CEl (fun _ => True) s₃) E' s₃) ∧
      (∀ D h' tk (ys : List Value) k, Fr h₀ L h' m → News h₀ L h' ((D, { cls := .type "list", data := .seq ys.toArray k }) :: news) → ys.length = (ns.filter pt).length → (∀ b o, s₁.heap.get? b = some o → h'.get? b = some o) → Q (.ref D) { s₁ with heap := h', toks := tk }))) E s)
    (hs : ∀ x, foldedSetIterable iter env x = pure x := by intro _; rfl) :
    wpAny (model prog w) A (eval (.ListComp elt [⟨.Name x px, iter, [tst], 0⟩] scope pos) env) Q E s := by
  refine wpAny_ListComp_free (ptV pt) (fun _ _ => True) hclos hcell hkind hnames hx (wpAny_mono h (fun xv s₁ h₁ => ?_) fun _ _ e => e) hs
  obtain ⟨⟨m, news, rfl, F, N, hl, htst, hel, hfin⟩⟩ := h₁
  refine src_list2 (n := its.length) (P := fun i v => its[i]? = some v) hh F N hl (by simp) (fun i v _ e => by simpa using e) fun I h' S up => ?_
  (refine goal_cut fun Gz hGz => ?_; obtain ⟨fp, St, W, hst, hfp⟩ := S.walks; refine hGz ?_; clear hGz Gz)
  have hLlt : @LT.lt Nat _ L h'.objs.size := S.fr.ns.lt
  have env3 : ∀ (C : Addr) (s₃ : Shared) (m₃ : Str → Option Value), h'.objs.size ≤ C → s₃.heap.Ns C m₃ → (∀ b o, b ∉ [I] → h'.get? b = some o → s₃.heap.get? b = some o) → Fr h₀ C s₃.heap m₃ ∧ News h₀ C s₃.heap news := fun C s₃ m₃ hC hn hk => by
    have kI : ∀ b o, b ≠ I → h'.get? b = some o → s₃.heap.get? b = some o := fun b o hb e => hk b o (fun hm => hb (List.mem_singleton.mp hm)) e
    refine ⟨⟨hn, fun b o e => kI b o (fun q => by rw [q, S.new] at e; cases e) (S.fr.keep b o e), Nat.le_trans S.fr.above (Nat.le_trans (Nat.le_of_lt hLlt) hC)⟩, fun p hp => ⟨kI _ _ (S.off p hp) (S.ne p hp).1, ?_, (S.ne p hp).2.2⟩⟩
    exact Nat.ne_of_lt (Nat.lt_of_lt_of_le (Heap.lt_size (S.ne p hp).1) hC)
  have hnum : ∀ (i : Nat) (v : Value), its[i]? = some v → ∃ (z : Int) (t : Tok), v = Value.int z t ∧ z ∈ ns := fun i v hv => by
    obtain ⟨z, t, rfl⟩ := hi.all v (List.mem_of_getElem? hv)
    have hlt : i < ns.length := by rw [← hi.length]; exact (List.getElem?_eq_some_iff.mp hv).1
    obtain ⟨t', ht'⟩ := hi.get i (ns[i]) (List.getElem?_eq_getElem hlt)
    rw [hv] at ht'
    injection ht' with e; injection e with e1 _
    exact ⟨z, t, rfl, e1 ▸ List.getElem_mem _⟩
  refine ⟨I, fp, [I], its.length, fun i v => its[i]? = some v, St, rfl, W, by rw [hi.length]; exact Nat.le_trans hsz (by rw [sizeLine_eq]; decide), hst, hfp, ⟨fun C i v s₃ m₃ E' hC hP hn hm hk _ => ?_, fun C i v s₃ m₃ E' hC hP _ hn hm hk _ => ?_⟩, ?_⟩
  · obtain ⟨z, t, rfl, hz⟩ := hnum i v hP
    obtain ⟨F₃, N₃⟩ := env3 C s₃ m₃ hC hn hk
    exact wpAny_tests_one (htst C z t s₃ m₃ E' hz F₃ hm N₃)
  · obtain ⟨z, t, rfl, hz⟩ := hnum i v hP
    obtain ⟨F₃, N₃⟩ := env3 C s₃ m₃ hC hn hk
    exact wpAny_mono (hel C z t s₃ m₃ E' hz F₃ hm N₃) (fun y s₄ h₄ => ⟨trivial, h₄.keeps⟩) fun _ _ e => e
  · intro D h'' tk ys vs hD hl2 hpl hlen hP hF hk
    have kI : ∀ b o, b ≠ I → h'.get? b = some o → h''.get? b = some o := fun b o hb e => hk b o (fun hm => hb (List.mem_singleton.mp hm)) e
    obtain ⟨kd, hpl⟩ := hpl
    have hDL : D ≠ L := fun e => by
      (refine goal_cut fun Gz hGz => ?_; obtain ⟨oL, _, _, hoL, _⟩ := id S.fr.ns; refine hGz ?_; clear hGz Gz)
      rw [← e, hD] at hoL; cases hoL
    have hD0 : h₀.get? D = none := by
      cases e : h₀.get? D with
      | none => rfl
      | some o => have := S.fr.keep _ _ e; rw [hD] at this; cases this
    have hvs : vs = its := by
      apply List.ext_getElem?
      intro j
      rcases Nat.lt_or_ge j vs.length with hj | hj
      · rw [List.getElem?_eq_getElem hj]; exact (hP j _ (List.getElem?_eq_getElem hj)).symm
      · rw [List.getElem?_eq_none hj, List.getElem?_eq_none (by rw [← hlen]; exact hj)]
    subst hvs
    refine hfin D h'' tk ys.toList kd (fr_move' S.fr (fun o e => kI L o S.offL.symm e) (fun b o e => kI b o (fun q => by rw [q, S.new] at e; cases e) (S.fr.keep b o e))) (fun p hp => ?_) (by rw [← paired_len hF, ptV_len hi]) (fun b o e => kI b o (up b o e).1 (up b o e).2)
    rcases List.mem_cons.mp hp with rfl | hp
    · exact ⟨by rw [Array.toArray_toList]; exact hpl, hDL, hD0⟩
    · exact ⟨kI _ _ (S.off p hp) (S.ne p hp).1, (S.ne p hp).2⟩
end
end

-- part HP
section
theorem fresh_HP : True := by
  k_with_none
  exact trivial
local macro_rules | `(tactic| walk_at "call ref") => `(tactic| (refine stop ?_))
local macro_rules | `(tactic| walk_at "eval ListComp") => `(tactic| (refine stop ?_))
local macro_rules | `(tactic| walk_at "compareOp NotEq ref ref") => `(tactic| (refine stop ?_))
theorem ints_of_get {n : Nat} {ys : List Value} {f : Nat → Int} (hl : ys.length = n) (h : ∀ (j : Nat) (y : Value), ys[j]? = some y → ∃ t, y = .int (f j) t) : IntsAre ys ((List.range n).map f) := by
  induction n generalizing f ys with
  | zero => rw [List.eq_nil_of_length_eq_zero hl]; exact .nil
  | succ n ih =>
    cases ys with
    | nil => cases hl
    | cons y r =>
      obtain ⟨t, rfl⟩ := h 0 y rfl
      rw [List.range_succ_eq_map, List.map_cons, List.map_map]
      exact .cons _ _ (ih (ys := r) (f := f ∘ Nat.succ) (Nat.succ.inj hl) fun j y hy => h (j + 1) y (by simpa using hy))
theorem stageM {w : World} {p : Program} {loose : List Str} {mean : ExcName → Option Value} {mg mb : Str → Option Value} {h₀ : Heap} {s₁ s : Shared} {L fa : Addr} {cdv : Value}
  (LT : LawTop w p loose mean mg mb h₀)
  (b : List Stmt) (sc : Scope) (e : lawFd w.params = some (b, sc))
  {xs : List Int} {RV : List (Addr × Obj)} {lv fg wd dp : Addr} {ll fits wits pits : List Value} {ln fk wk pk : Nat} {o1 o2 o3 o4 o5 : Obj} {m : Str → Option Value} {tz : Tok} {d : LexD}
  (hT : LawTail xs L d RV lv fg wd dp ll fits wits pits ln fk wk pk o1 o2 o3 o4 o5) (hs : Sh s₁ s)
  (F : Fr h₀ L s.heap m)
  {od sp : Addr} {ov sv : List Value} {on sn : Nat} {M : Nat} {ss : List Int} (hsi : IntsAre sv ss) (hM : (M : Int) ∈ levR xs) (hM2 : ∀ z ∈ levR xs, z ≤ (M : Int)) (hM3 : M < 100) (hss : ss = (List.range (M + 2)).map fun (k : Nat) => ((((levR xs).filter fun z => decide (z < (k : Int))).length : Nat) : Int))
  (hm_size : m (Str.ofString "size") = some (.int ((levR xs).length : Nat) tz)) (hm_stops : m (Str.ofString "stops") = some (.ref sp)) (hm_order : m (Str.ofString "order") = some (.ref od))
  (N : News h₀ L s.heap ((sp, ({ cls := .type "list", data := .seq sv.toArray sn } : Obj)) :: (od, ({ cls := .type "list", data := .seq ov.toArray on } : Obj)) :: RV))
  (next : ∀  (m' : Str → Option Value) (s' : Shared), Sh s₁ s' → 
    Fr h₀ L s'.heap m' → m' (Str.ofString "size") = some (.int ((levR xs).length : Nat) tz) → m' (Str.ofString "stops") = some (.ref sp) → m' (Str.ofString "order") = some (.ref od) →
    News h₀ L s'.heap ((sp, ({ cls := .type "list", data := .seq sv.toArray sn } : Obj)) :: (od, ({ cls := .type "list", data := .seq ov.toArray on } : Obj)) :: RV) →
    wpAny (model PySem.Challenge.rw_us0006_01.row.prog w) (callerA.deeper (envOfC (Str.ofString "law") sc L fa cdv)) (execs (b.drop 21) (envOfC (Str.ofString "law") sc L fa cdv)) (LawQ h₀ s₁) (fun _ _ => False) s') :
  wpAny (model PySem.Challenge.rw_us0006_01.row.prog w) (callerA.deeper (envOfC (Str.ofString "law") sc L fa cdv)) (execs (b.drop 20) (envOfC (Str.ofString "law") sc L fa cdv)) (LawQ h₀ s₁) (fun _ _ => False) s := by
  revert next; revert e; revert b sc
  refine law_all rfl ?_
  intro next
  have X := LT.g.X
  revert X; k_fill; intro X
  have T := LT.T
  have B := LT.B
  have C := LT.C
  have hx6 := hT.h6
  have hx5 := hT.h5
  have hlen2 : (levR xs).length = xs.length := levR_len xs (by omega)
  have F0 : Fr h₀ L s.heap (bd m [(Str.ofString "size", .int ((levR xs).length : Nat) tz), (Str.ofString "stops", .ref sp), (Str.ofString "order", .ref od)]) := by rw [bd_eq (List.forall_mem_cons.mpr ⟨hm_size, List.forall_mem_cons.mpr ⟨hm_stops, List.forall_mem_singleton.mpr hm_order⟩⟩)]; exact F
  clear F hm_size hm_stops hm_order
  dsimp only [List.drop_succ_cons, List.drop_zero]
  have hli := hT.hli
  have hll : ll.length = xs.length := by rw [hli.length, hlen2]
  have hm1 := hT.m1
  have ho1 := hT.ho1
  have N1 : News h₀ L s.heap ((L + 1, o1) :: (lv, ({ cls := .type "list", data := .seq ll.toArray ln } : Obj)) :: (sp, ({ cls := .type "list", data := .seq sv.toArray sn } : Obj)) :: (od, ({ cls := .type "list", data := .seq ov.toArray on } : Obj)) :: RV) := fun q hq => by
    rcases List.mem_cons.mp hq with rfl | hq
    · exact N _ (.tail _ (.tail _ hm1))
    · rcases List.mem_cons.mp hq with rfl | hq
      · exact N _ (.tail _ (.tail _ hT.mlv))
      · exact N q hq
  clear N
  k_steps
  refine ⟨?_⟩
  refine comp_cell (h₀ := h₀) (L := L) (n := M + 2) (P := fun i v => ∃ t, v = .int (0 + (i : Int)) t) (fun i y => ∃ t, y = .int ((((levR xs).filter fun z => decide (z < (i : Int))).length : Nat) : Int) t) rfl (fun _ _ => rfl) (fun _ => rfl) rfl (by decide) (fun _ _ => rfl) (by decide) (by rw [sizeLine_eq]; omega) ?_ (fun _ => rfl)
  k_with "pyIter ref" => (refine stop ?_)
  k_steps
  (rename (_ ∈ levR xs) => hm1'); (rename (∀ a ∈ levR xs, _ ≤ _) => hm2')
  have eM := Int.le_antisymm (hM2 _ hm1') (hm2' _ hM)
  (rename IsRange _ _ _ _ _ _ _ _ => hR)
  rw [eM] at hR
  clear hm1' hm2'
  (rename Fr _ _ _ _ => F2); (rename News _ _ _ _ => N2)
  refine ⟨?_⟩
  refine src_range rfl F2 N2 hR (small1 (by decide) (by decide) (by omega) (by omega)) (by rw [rangeSize1 (by decide) (by omega)]; omega) fun I h9 S => ⟨I, _, _, rfl, S, ?_, ?_⟩
  · rintro i C1 c oc v s₃ m₃ E' hi2 ⟨t, rfl⟩ hoc F₃ N₃
    clear F2 N2 S
    clear next hR
    k_steps
    refine ⟨?_⟩
    (rename Fr _ _ _ _ => F4); (rename News _ _ _ _ => N4)
    refine comp_count (l := lv) (h₀ := h₀) (L := C1) (its := ll) (ns := levR xs) (fun z => decide (z < (i : Int))) rfl (by decide) rfl (by decide) rfl (by omega) hli rfl ?_ (fun _ => rfl)
    k_steps
    refine ⟨_, _, rfl, F4, N4, N4.isList (.tail _ (.tail _ (.head _))), ?_, ?_, ?_⟩
    · intro C2 z t2 s5 m5 E5 hz F5 hm5 N5
      clear F4 N4
      k_with "eval Name" => (first | (refine nameL F5 rfl hm5 ?_) | (refine nameCl N5 (.head _) hoc ?_))
      k_steps
      · rw [Int.zero_add]
      · exact ⟨_, _, rfl, fun _ _ e => e⟩
    · intro C2 z t2 s5 m5 E5 hz F5 hm5 N5
      clear F4 N4
      k_steps
      exact ⟨trivial, _, _, rfl, fun _ _ e => e⟩
    · intro D h' tk ys k F6 N6 hyl hk6
      have k6 : ∀ b o, s₃.heap.get? b = some o → h'.get? b = some o := hk6
      have hyk : ys.length ≤ 6 := by rw [hyl]; exact Nat.le_trans (List.length_filter_le _ _) (by omega)
      clear F4 N4 hk6
      k_steps
      refine' PyProof.Rows.len_list (items := ys.toArray) ?zl1 ?zl2 ?_
      case zl1 => exact N6.isList (.head _)
      case zl2 => rw [List.size_toArray]; omega
      refine ⟨⟨_, by rw [← hyl, List.size_toArray]⟩, _, _, rfl, k6⟩
  · intro D h' tk ys k F6 N6 ne6 hyl hyr
    clear F2 N2 S
    k_steps
    refine ⟨?_⟩
    have hyi := ints_of_get hyl hyr
    rw [← hss] at hyi
    refine ke_ne_ints (xs := sv) (ys := ys) (ns := ss) (ms := ss) ?zq1 ?zq2 ?zq3 ?zq4 ?zq5 ?zq6
    case zq1 => exact N6.isList (.tail _ (.tail _ (.tail _ (.head _))))
    case zq2 => exact N6.isList (.head _)
    case zq3 => exact hsi
    case zq4 => exact hyi
    case zq5 => exact Nat.le_of_ble_eq_true rfl
    rw [show (!decide (ss = ss)) = false from by simp]
    k_with "execs cons" => (refine stop ?_)
    k_steps
    refine ⟨?_⟩
    (rename Fr _ _ _ _ => FZ); (rename News _ _ _ _ => NZ)
    exact next _ _ hs.to FZ rfl rfl rfl (fun q hq => NZ q (.tail _ (.tail _ (.tail _ hq))))
end

-- part HQ
section
theorem fresh_HQ : True := by
  k_with_none
  exact trivial
local macro_rules | `(tactic| walk_at "call ref") => `(tactic| (refine stop ?_))
theorem stageN {w : World} {p : Program} {loose : List Str} {mean : ExcName → Option Value} {mg mb : Str → Option Value} {h₀ : Heap} {s₁ s : Shared} {L fa : Addr} {cdv : Value}
  (LT : LawTop w p loose mean mg mb h₀)
  (b : List Stmt) (sc : Scope) (e : lawFd w.params = some (b, sc))
  {xs : List Int} {RV : List (Addr × Obj)} {lv fg wd dp : Addr} {ll fits wits pits : List Value} {ln fk wk pk : Nat} {o1 o2 o3 o4 o5 : Obj} {m : Str → Option Value} {tz : Tok} {d : LexD}
  (hT : LawTail xs L d RV lv fg wd dp ll fits wits pits ln fk wk pk o1 o2 o3 o4 o5) (hs : Sh s₁ s)
  (F : Fr h₀ L s.heap m)
  {od sp : Addr} {ov sv : List Value} {on sn : Nat} {M : Nat} (hM : (M : Int) ∈ levR xs) (hM2 : ∀ z ∈ levR xs, z ≤ (M : Int)) (hM3 : M < 100)
  (hm_size : m (Str.ofString "size") = some (.int ((levR xs).length : Nat) tz)) (hm_stops : m (Str.ofString "stops") = some (.ref sp)) (hm_order : m (Str.ofString "order") = some (.ref od))
  (N : News h₀ L s.heap ((sp, ({ cls := .type "list", data := .seq sv.toArray sn } : Obj)) :: (od, ({ cls := .type "list", data := .seq ov.toArray on } : Obj)) :: RV))
  (next : ∀ (np : Addr) (nv : List Value) (nn : Nat) (m' : Str → Option Value) (s' : Shared), Sh s₁ s' → IntsAre nv (List.replicate (M + 1) 0) → (∀ q ∈ (sp, ({ cls := .type "list", data := .seq sv.toArray sn } : Obj)) :: (od, ({ cls := .type "list", data := .seq ov.toArray on } : Obj)) :: RV, @Ne Nat np q.1) → 
    Fr h₀ L s'.heap m' → m' (Str.ofString "size") = some (.int ((levR xs).length : Nat) tz) → m' (Str.ofString "stops") = some (.ref sp) → m' (Str.ofString "order") = some (.ref od) → m' (Str.ofString "numbers") = some (.ref np) →
    News h₀ L s'.heap ((np, ({ cls := .type "list", data := .seq nv.toArray nn } : Obj)) :: (sp, ({ cls := .type "list", data := .seq sv.toArray sn } : Obj)) :: (od, ({ cls := .type "list", data := .seq ov.toArray on } : Obj)) :: RV) →
    wpAny (model PySem.Challenge.rw_us0006_01.row.prog w) (callerA.deeper (envOfC (Str.ofString "law") sc L fa cdv)) (execs (b.drop 22) (envOfC (Str.ofString "law") sc L fa cdv)) (LawQ h₀ s₁) (fun _ _ => False) s') :
  wpAny (model PySem.Challenge.rw_us0006_01.row.prog w) (callerA.deeper (envOfC (Str.ofString "law") sc L fa cdv)) (execs (b.drop 21) (envOfC (Str.ofString "law") sc L fa cdv)) (LawQ h₀ s₁) (fun _ _ => False) s := by
  revert next; revert e; revert b sc
  refine law_all rfl ?_
  intro next
  have X := LT.g.X
  revert X; k_fill; intro X
  have T := LT.T
  have B := LT.B
  have C := LT.C
  have hx6 := hT.h6
  have hx5 := hT.h5
  have hlen2 : (levR xs).length = xs.length := levR_len xs (by omega)
  have F0 : Fr h₀ L s.heap (bd m [(Str.ofString "size", .int ((levR xs).length : Nat) tz), (Str.ofString "stops", .ref sp), (Str.ofString "order", .ref od)]) := by rw [bd_eq (List.forall_mem_cons.mpr ⟨hm_size, List.forall_mem_cons.mpr ⟨hm_stops, List.forall_mem_singleton.mpr hm_order⟩⟩)]; exact F
  clear F hm_size hm_stops hm_order
  dsimp only [List.drop_succ_cons, List.drop_zero]
  have hli := hT.hli
  have hll : ll.length = xs.length := by rw [hli.length, hlen2]
  have hm1 := hT.m1
  have ho1 := hT.ho1
  have N1 : News h₀ L s.heap ((L + 1, o1) :: (lv, ({ cls := .type "list", data := .seq ll.toArray ln } : Obj)) :: (sp, ({ cls := .type "list", data := .seq sv.toArray sn } : Obj)) :: (od, ({ cls := .type "list", data := .seq ov.toArray on } : Obj)) :: RV) := fun q hq => by
    rcases List.mem_cons.mp hq with rfl | hq
    · exact N _ (.tail _ (.tail _ hm1))
    · rcases List.mem_cons.mp hq with rfl | hq
      · exact N _ (.tail _ (.tail _ hT.mlv))
      · exact N q hq
  clear N
  k_steps
  (rename (_ ∈ levR xs) => hm1'); (rename (∀ a ∈ levR xs, _ ≤ _) => hm2')
  have eM := Int.le_antisymm (hM2 _ hm1') (hm2' _ hM)
  subst eM
  clear hm1' hm2'
  (rename Fr _ _ _ _ => F1); (rename News _ _ _ _ => N2)
  refine KMa.mul F1 N2 (vs := [.int 0 _]) (N2.isList (.head _)) (by omega) (by omega) (by rw [List.length_singleton]; omega) rfl (fun np h9 F3 N3 off => ?_)
  clear F1 N2
  k_with "execs cons" => (refine stop ?_)
  k_steps
  refine ⟨?_⟩
  (rename Fr _ _ _ _ => FZ); (rename News _ _ _ _ => NZ)
  have hrp : ∀ (n : Nat) (t : Tok), IntsAre (List.replicate n [Value.int 0 t]).flatten (List.replicate n 0) := fun n t => by
    induction n with
    | zero => exact .nil
    | succ n ih => rw [List.replicate_succ, List.flatten_cons, List.replicate_succ]; exact .cons _ _ ih
  have hrp2 : ∀ t, IntsAre (List.replicate ((M : Int) + 1).toNat [Value.int 0 t]).flatten (List.replicate (M + 1) 0) := fun t => by
    rw [show ((M : Int) + 1).toNat = M + 1 by omega]; exact hrp _ _
  refine next np _ _ _ _ hs.to (hrp2 _) (fun q hq => ?_) FZ rfl rfl rfl rfl (fun q hq => NZ q (by
    rcases List.mem_cons.mp hq with rfl | hq
    · exact .head _
    · exact .tail _ (.tail _ (.tail _ (.tail _ hq)))))
  exact Ne.symm (Nat.ne_of_lt (off q (.tail _ (.tail _ (.tail _ hq)))))
end

-- part HR
section
theorem fresh_HR : True := by
  k_with_none
  exact trivial
local macro_rules | `(tactic| walk_at "call ref") => `(tactic| (refine stop ?_))
local macro_rules | `(tactic| walk_at "setItem ref int") => `(tactic| (refine stop ?_))
noncomputable def numStep (ns fs : List Int) (ms : List Int) (k : Nat) : List Int := ms.set (ns.getD k 0).toNat (64 * ms.getD (ns.getD k 0).toNat 0 + fs.getD k 0)
noncomputable def numsR (ns fs : List Int) (M : Nat) : List Int := (List.range ns.length).foldl (numStep ns fs) (List.replicate (M + 1) 0)
theorem stageO {w : World} {p : Program} {loose : List Str} {mean : ExcName → Option Value} {mg mb : Str → Option Value} {h₀ : Heap} {s₁ s : Shared} {L fa : Addr} {cdv : Value}
  (LT : LawTop w p loose mean mg mb h₀)
  (b : List Stmt) (sc : Scope) (e : lawFd w.params = some (b, sc))
  {xs : List Int} {RV : List (Addr × Obj)} {lv fg wd dp : Addr} {ll fits wits pits : List Value} {ln fk wk pk : Nat} {o1 o2 o3 o4 o5 : Obj} {m : Str → Option Value} {tz : Tok} {d : LexD}
  (hT : LawTail xs L d RV lv fg wd dp ll fits wits pits ln fk wk pk o1 o2 o3 o4 o5) (hs : Sh s₁ s)
  (F : Fr h₀ L s.heap m)
  {od sp np : Addr} {ov sv nv : List Value} {on sn nn : Nat} {M : Nat} (hM3 : M < 100) (hbd : ∀ i, i < xs.length → 0 ≤ (levR xs).getD i 0 ∧ (levR xs).getD i 0 ≤ (M : Int)) (hni : IntsAre nv (List.replicate (M + 1) 0)) (zn : ∀ q ∈ (sp, ({ cls := .type "list", data := .seq sv.toArray sn } : Obj)) :: (od, ({ cls := .type "list", data := .seq ov.toArray on } : Obj)) :: RV, @Ne Nat np q.1)
  (hm_size : m (Str.ofString "size") = some (.int ((levR xs).length : Nat) tz)) (hm_stops : m (Str.ofString "stops") = some (.ref sp)) (hm_order : m (Str.ofString "order") = some (.ref od)) (hm_numbers : m (Str.ofString "numbers") = some (.ref np))
  (N : News h₀ L s.heap ((np, ({ cls := .type "list", data := .seq nv.toArray nn } : Obj)) :: (sp, ({ cls := .type "list", data := .seq sv.toArray sn } : Obj)) :: (od, ({ cls := .type "list", data := .seq ov.toArray on } : Obj)) :: RV))
  (next : ∀ (nv : List Value) (nn : Nat) (m' : Str → Option Value) (s' : Shared), Sh s₁ s' → IntsAre nv (numsR (levR xs) (xs.map figF) M) → 
    Fr h₀ L s'.heap m' → m' (Str.ofString "size") = some (.int ((levR xs).length : Nat) tz) → m' (Str.ofString "stops") = some (.ref sp) → m' (Str.ofString "order") = some (.ref od) → m' (Str.ofString "numbers") = some (.ref np) →
    News h₀ L s'.heap ((np, ({ cls := .type "list", data := .seq nv.toArray nn } : Obj)) :: (sp, ({ cls := .type "list", data := .seq sv.toArray sn } : Obj)) :: (od, ({ cls := .type "list", data := .seq ov.toArray on } : Obj)) :: RV) →
    wpAny (model PySem.Challenge.rw_us0006_01.row.prog w) (callerA.deeper (envOfC (Str.ofString "law") sc L fa cdv)) (execs (b.drop 23) (envOfC (Str.ofString "law") sc L fa cdv)) (LawQ h₀ s₁) (fun _ _ => False) s') :
  wpAny (model PySem.Challenge.rw_us0006_01.row.prog w) (callerA.deeper (envOfC (Str.ofString "law") sc L fa cdv)) (execs (b.drop 22) (envOfC (Str.ofString "law") sc L fa cdv)) (LawQ h₀ s₁) (fun _ _ => False) s := by
  revert next; revert e; revert b sc
  refine law_all rfl ?_
  intro next
  have X := LT.g.X
  revert X; k_fill; intro X
  have T := LT.T
  have B := LT.B
  have C := LT.C
  have hx6 := hT.h6
  have hx5 := hT.h5
  have hlen2 : (levR xs).length = xs.length := levR_len xs (by omega)
  have F0 : Fr h₀ L s.heap (bd m [(Str.ofString "size", .int ((levR xs).length : Nat) tz), (Str.ofString "stops", .ref sp), (Str.ofString "order", .ref od), (Str.ofString "numbers", .ref np)]) := by rw [bd_eq (List.forall_mem_cons.mpr ⟨hm_size, List.forall_mem_cons.mpr ⟨hm_stops, List.forall_mem_cons.mpr ⟨hm_order, List.forall_mem_singleton.mpr hm_numbers⟩⟩⟩)]; exact F
  clear F hm_size hm_stops hm_order hm_numbers
  dsimp only [List.drop_succ_cons, List.drop_zero]
  have hli := hT.hli
  have hll : ll.length = xs.length := by rw [hli.length, hlen2]
  have hfi := hT.hfi
  have hfl : (xs.map figF).length = xs.length := List.length_map ..
  have hm1 := hT.m1
  have ho1 := hT.ho1
  have hm2 := hT.m2
  have ho2 := hT.ho2
  k_steps
  refine ⟨?_⟩
  refine for_walk (h₀ := h₀) (n := xs.length) (Pt := fun i v => ∃ t, v = .int (i : Int) t) (σ := List Int × List Value × Nat)
    (fun c => (np, ({ cls := .type "list", data := .seq c.2.1.toArray c.2.2 } : Obj)) :: (sp, ({ cls := .type "list", data := .seq sv.toArray sn } : Obj)) :: (od, ({ cls := .type "list", data := .seq ov.toArray on } : Obj)) :: RV)
    (fun c => [("size", .int ((levR xs).length : Nat) tz), ("stops", .ref sp), ("order", .ref od), ("numbers", .ref np)])
    (fun i c s' => Sh s₁ s' ∧ c.1 = (List.range i).foldl (numStep (levR xs) (xs.map figF)) (List.replicate (M + 1) 0) ∧ IntsAre c.2.1 c.1 ∧ c.1.length = M + 1)
    (np :: sp :: od :: RV.map (·.1)) (fun c => rfl) rfl rfl (fun _ _ _ _ _ h => ⟨h.1.to, h.2⟩) ?_ ?_ ?hn1 ?_ (fun _ => rfl)
  case hn1 => intro c; simp only [List.forall_mem_cons]; decide
  · k_with "pyIter ref" => (refine stop ?_)
    k_steps
    refine ⟨?_⟩
    (rename Fr _ _ _ _ => F1); (rename News _ _ _ _ => N1); (rename IsRange _ _ _ _ _ _ _ _ => hR)
    rw [hlen2] at hR
    refine iter_range (List.replicate (M + 1) 0, nv, nn) rfl hR (small1 (by decide) (by decide) (by omega) (by omega)) ?_ ?_ F1 N1 (fun p hp => hp) (by walk_at "m_all") (fun h => ⟨hs.to, rfl, hni, List.length_replicate⟩)
    · first | exact range0 rfl | (rw [rangeSize1 (by decide) (by omega)]; omega)
    · exact fun i t _ => ⟨t, by rw [Int.zero_add]⟩
  · rintro i ⟨ms, ws, kk⟩ v u s2 own hi2 ⟨tv, rfl⟩ ⟨hs2, hst, hI, hln⟩ F1 N1 hap
    dsimp only at F1 N1 hap hst hI hln
    have eI : ((i : Int)).toNat = i := Int.toNat_natCast i
    have hb1 : 0 ≤ (levR xs).getD ((i : Int)).toNat 0 := by rw [eI]; exact (hbd i hi2).1
    have hb2 : (levR xs).getD ((i : Int)).toNat 0 ≤ (M : Int) := by rw [eI]; exact (hbd i hi2).2
    have N2 : News h₀ L s2.heap ((np, ({ cls := .type "list", data := .seq ws.toArray kk } : Obj)) :: (L + 1, o1) :: (lv, ({ cls := .type "list", data := .seq ll.toArray ln } : Obj)) :: (L + 2, o2) :: (fg, ({ cls := .type "list", data := .seq fits.toArray fk } : Obj)) :: (sp, ({ cls := .type "list", data := .seq sv.toArray sn } : Obj)) :: (od, ({ cls := .type "list", data := .seq ov.toArray on } : Obj)) :: RV ++ own) := fun q hq => by
      rcases List.mem_cons.mp hq with rfl | hq
      · exact N1 _ (.head _)
      · rcases List.mem_cons.mp hq with rfl | hq
        · exact N1 _ (List.mem_append_left _ (.tail _ (.tail _ (.tail _ hm1))))
        · rcases List.mem_cons.mp hq with rfl | hq
          · exact N1 _ (List.mem_append_left _ (.tail _ (.tail _ (.tail _ hT.mlv))))
          · rcases List.mem_cons.mp hq with rfl | hq
            · exact N1 _ (List.mem_append_left _ (.tail _ (.tail _ (.tail _ hm2))))
            · rcases List.mem_cons.mp hq with rfl | hq
              · exact N1 _ (List.mem_append_left _ (.tail _ (.tail _ (.tail _ hT.mfg))))
              · exact N1 q (.tail _ hq)
    clear N1 F0 N
    dsimp only [List.cons_append] at N2
    have hap2 : ∀ q ∈ (L + 1, o1) :: (lv, ({ cls := .type "list", data := .seq ll.toArray ln } : Obj)) :: (L + 2, o2) :: (fg, ({ cls := .type "list", data := .seq fits.toArray fk } : Obj)) :: ((sp, ({ cls := .type "list", data := .seq sv.toArray sn } : Obj)) :: (od, ({ cls := .type "list", data := .seq ov.toArray on } : Obj)) :: RV ++ own), q.1 ≠ np := fun q hq => by
      have z1 : ∀ q ∈ RV, q.1 ≠ np := fun q hq => Ne.symm (zn q (.tail _ (.tail _ hq)))
      rcases List.mem_cons.mp hq with rfl | hq
      · exact z1 _ hm1
      · rcases List.mem_cons.mp hq with rfl | hq
        · exact z1 _ hT.mlv
        · rcases List.mem_cons.mp hq with rfl | hq
          · exact z1 _ hm2
          · rcases List.mem_cons.mp hq with rfl | hq
            · exact z1 _ hT.mfg
            · rcases List.mem_append.mp hq with hq | hq
              · exact Ne.symm (zn q hq)
              · exact hap _ (.head _) q hq
    k_steps
    refine ⟨?_⟩
    refine ksa_set F1 N2 (.head hap2) hI hb1 (by omega) (by omega) (fun h3 F3 N3 hI3 hl3 _ => ?_)
    clear F1 N2
    k_steps
    (rename Fr _ _ _ _ => F4); (rename News _ _ _ _ => N4)
    rw [eI] at hI3 hl3
    refine ⟨(numStep (levR xs) (xs.map figF) ms i, _, kk), _, _, ⟨hs2.to, by rw [List.range_succ, List.foldl_append, ← hst]; rfl, hI3, hl3.trans hln⟩, F4, N4, fun q hq => ?_, fun q hq => ?_, by walk_at "m_all"⟩
    · rcases List.mem_cons.mp hq with rfl | hq
      · exact .head _
      · exact .tail _ (.tail _ (.tail _ (.tail _ (.tail _ (List.mem_append_left _ hq)))))
    · exact .tail _ (.tail _ (.tail _ (.tail _ (.tail _ (.tail _ (.tail _ (List.mem_append_right _ hq)))))))
  · rintro ⟨ms, ws, kk⟩ u s2 ⟨hs2, hst, hI, hln⟩ F1 N1
    dsimp only at F1 N1 hst hI hln
    clear N F0
    k_with "execs cons" => (refine stop ?_)
    k_steps
    refine ⟨?_⟩
    (rename Fr _ _ _ _ => F9); (rename News _ _ _ _ => N9)
    rw [← hlen2] at hst
    subst hst
    exact next ws kk _ _ hs2.to hI F9 rfl rfl rfl rfl N9
end

-- part RA
section
theorem fresh_RA : True := by
  k_with_none
  exact trivial
section
variable {prog : Program} {w : World} {A : Around} {E : Value → Shared → Prop} {s : Shared}
theorem stop_newE {α : Type} {Q : α → Shared → Prop} (hh : A.handled = none) (hE : ∀ e h', Heap.NewExc s.heap h' e "StopIteration" → E (.ref e) { s with heap := h' }) :
    wpAny (model prog w) A (do raiseNew (← newExc (.type "StopIteration") []) : Sem α) Q E s := by
  show wpAny _ _ (newExc (.type "StopIteration") [] >>= _) _ _ _
  refine wpAny_bind ?_
  simp only [newExc, newTuple]
  refine wpAny_bind (wpAny_newObj_type ?_ (by size_fits))
  refine wpAny_bind (m := firstArgMember _ _) (wpAny_of_eq (a := Value.none) (by first | rfl | (simp only [firstArgMember]; rfl)) ?_)
  refine wpAny_newObj_type ?_ (by size_fits)
  unfold raiseNew
  refine wpAny_bind (wpAny_handled ?_)
  rw [hh]
  refine wpAny_bind (wpAny_pure (wpAny_throw ?_))
  refine hE _ _ ⟨fun b o e => Heap.get?_push_of_some _ (Heap.get?_push_of_some _ e), ?_, ⟨_, _, Heap.get?_push_size _ rfl, rfl, rfl⟩⟩
  cases e : s.heap.get? _ with
  | none => rfl
  | some o =>
    have h1 := Heap.lt_size e
    rw [Heap.size_push] at h1
    exact absurd h1 (Nat.not_lt.mpr (Nat.le_succ _))

theorem listNext_endE {l it : Addr} {items : Array Value} {Q : Fin → Shared → Prop} (hh : A.handled = none) (ho : s.heap.get? it = some (liO l items.size items.size)) (hl : s.heap.IsList l items) (hne : l ≠ it)
    (hend : ∀ h₁ e h', h₁.get? it = some (liO l items.size (items.size + 1)) → (∀ b o, b ≠ it → s.heap.get? b = some o → h₁.get? b = some o) → Heap.NewExc h₁ h' e "StopIteration" → E (.ref e) { s with heap := h' }) :
    wpAny (model prog w) A (Builtin.«list_iterator.__next__» ⟨[.ref it], []⟩) Q E s := by
  obtain ⟨ol, hol, _, nl, hdl⟩ := id hl
  rw [liO_in (Nat.le_refl _)] at ho
  show wpAny _ _ (field (.ref it) 0 >>= _) _ _ s
  refine wpAny_bind (wpAny_field ho rfl (x := .ref l) rfl ?_)
  show wpAny _ _ (if (Value.ref l == Value.none) = true then _ else _) _ _ s
  rw [if_neg (show ¬ ((Value.ref l == Value.none) = true) from Bool.false_ne_true)]
  show wpAny _ _ (field (.ref it) 1 >>= _) _ _ s
  refine wpAny_bind (wpAny_field ho rfl (x := .int items.size 0) rfl ?_)
  show wpAny _ _ (seqItems? (.ref l) >>= _) _ _ s
  refine wpAny_bind (wpAny_seqItems hol hdl ?_)
  have hx : items[items.size]? = none := Array.getElem?_eq_none (Nat.le_refl _)
  simp only [Int.toNat_natCast, hx]
  refine wpAny_bind (wpAny_rule (wpAny_bind (wpAny_setField ho rfl (by simp) ?_)))
  refine stop_newE hh fun e h' hx => ?_
  refine hend _ e h' ?_ (fun b o hb e => (Heap.get?_update_ne _ _ _ _ hb).trans e) hx
  rw [liO_end]
  refine (upd_fields ho).trans ?_
  simp
end
section
variable {prog : Program} {w : World} {p : Program} {loose : List Str} {A : Around} {s : Shared} {mg mb : Str → Option Value}
/-- a call of a def that may change what stands in own, and may raise -/
theorem enterME {name qual : Str} {params : Arguments} {body : List Stmt} {scope : Scope} {dV kV doc pm cdv ct oc : Value} {an od : Option Addr} {osl : Array (Option Value)} {f : Addr} {pos : List Value} {kw : List (Str × Value)} {binds : List (Str × Value)} {Q : Value → Shared → Prop} {E : Value → Shared → Prop}
    {h₀ : Heap} (own : List (Addr × Obj)) (g : G w p loose mg mb h₀) (hsub : ∀ b o, h₀.get? b = some o → s.heap.get? b = some o) (hown : ∀ q ∈ own, s.heap.get? q.1 = some q.2 ∧ h₀.get? q.1 = none)
    (ho : (hd.heap_1 w.params).lookup f = some ⟨oc, od, .func (fnOf name qual params body scope dV kV doc pm an cdv ct), osl⟩) (hcd : codeIn (hd.heap_1 w.params) cdv qual = true)
    (hbind : BindsTo s (fnOf name qual params body scope dV kV doc pm an cdv ct) ⟨pos, kw⟩ binds) (hloc : ∀ y ∈ binds, scope.names.lookup y.1 = some .local)
    (hcell : ∀ x ∈ scope.names, x.2 ≠ .cell)
    (h : ∀ hb L h₁, hb = hideAll s.heap (own.map (·.1)) → Fr hb L h₁ (fun y => binds.reverse.lookup y) → News hb L h₁ own → G w p loose mg mb hb → (hd.heap_1 w.params).In hb → TopRead p loose mg mb hb → hb.objs.size = s.heap.objs.size → (∀ b o, hb.get? b = some o → s.heap.get? b = some o) → (∀ b o, b ∉ own.map (·.1) → s.heap.get? b = some o → hb.get? b = some o) →
      wpAny (model prog w) (A.deeper (envOf qual scope L f cdv)) (execs body (envOf qual scope L f cdv))
        (fun fl s' => Q (match fl with | .ret v => v | _ => .none) s')
        (fun e s' => wpAny (model prog w) (A.deeper (envOf qual scope L f cdv)) (leaving (envOf qual scope L f cdv) e) (fun _ s'' => E e s'') (fun e' s'' => E e' s'') s') { s with heap := h₁, toks := s.toks + binds.length })
    (hroom : A.depth < recursionLimit)
    (hco : scope.isCoroutine = false) (hgen : scope.isGenerator = false) (hk : scope.kind = .function) :
    wpAny (model prog w) A (PySem.call (.ref f) pos kw) Q E s := by
  have gs : G w p loose mg mb s.heap := g.keeps hsub
  have gb : G w p loose mg mb (hideAll s.heap (own.map (·.1))) := g.keeps fun b o e => hideAll_get _ (hsub b o e) fun hm => by
    obtain ⟨q, hq, rfl⟩ := List.mem_map.mp hm
    rw [(hown q hq).2] at e; cases e
  refine wpAny_call (codeAny_call_def (fd := fnOf name qual params body scope dV kV doc pm an cdv ct) (body := body) (binds := binds) hroom (gs.X _ _ ho) rfl gs.T.nolimit (codeRec_of gs.X hcd) rfl hbind hcell hloc (fun h₁ hns hk₁ => ?_) hco hgen hk)
  exact h _ s.heap.objs.size h₁ rfl ⟨hns, fun b o e => hk₁ b o (of_hideAll _ e), Nat.le_of_eq (hideAll_size _ _)⟩ (fun q hq => ⟨hk₁ _ _ (hown q hq).1, Nat.ne_of_lt (Heap.lt_size (hown q hq).1), hideAll_none _ (List.mem_map_of_mem hq)⟩) gb gb.X gb.T (hideAll_size _ _) (fun b o e => of_hideAll _ e) (fun b o hm e => hideAll_get _ e hm)
end
local macro_rules | `(tactic| walk_at "call builtin:next") => `(tactic| (refine stop ?_))
theorem pv_stop {w : World} {p : Program} {loose : List Str} {mg mb : Str → Option Value} {h₀ base : Heap} {e1 e2 : Env} {outer : List Env}
  {s : Shared} {Q E : Value → Shared → Prop} {I l : Addr} {vs : List Value} {k : Nat} {rest : List (Addr × Obj)}
  (g : G w p loose mg mb h₀) (hsub : ∀ b o, h₀.get? b = some o → s.heap.get? b = some o)
  (hl : (l, ({ cls := .type "list", data := .seq vs.toArray k } : Obj)) ∈ rest) (hI : ∀ q ∈ rest, q.1 ≠ I)
  (hown : ∀ q ∈ (I, liO l vs.length vs.length) :: rest, s.heap.get? q.1 = some q.2 ∧ h₀.get? q.1 = none)
  (K : Below ((callerA.deeper e1).deeper e2) base outer (hideAll s.heap (((I, liO l vs.length vs.length) :: rest).map (·.1))))
  (hret : ∀ e s', RaisedSN base (hideAll s.heap (((I, liO l vs.length vs.length) :: rest).map (·.1))) outer e (.type "StopIteration") ((I, liO l vs.length (vs.length + 1)) :: rest) s'.heap → (hideAll s.heap (((I, liO l vs.length vs.length) :: rest).map (·.1))).UpToSlots s'.heap → Sh s s' → E (.ref e) s') :
  wpAny (model PySem.Challenge.rw_us0006_01.row.prog w) ((callerA.deeper e1).deeper e2) (call (.ref 48) [.ref I]) Q E s := by
  have X := g.X.keeps hsub
  revert X; k_fill; intro X
  refine' enterME ((I, liO l vs.length vs.length) :: rest) (pos := [.ref I]) (kw := []) (binds := [("iterator", .ref I)]) g hsub hown ?ho ?hcd ?hb ?hl ?hc ?_ ?hr ?h1 ?h2 ?h3
  walk_at "m_enter"
  intro hb L h₁ hbe F N gb X1 T1 hsz hb1 hb2
  rw [← hbe] at K hret
  k_steps
  refine ⟨?_⟩
  (rename Fr _ _ _ _ => F1); (rename News _ _ _ _ => N1)
  have z := N1 _ (.head _)
  have nIL := z.2.1
  have hk1 : h₁.IsList l vs.toArray := N1.isList (.tail _ hl)
  refine next1 (ty := "list_iterator") ⟨_, z.1, rfl⟩ slot_listiter_next entry_listiter_next args_listiter_next (listNext_endE (items := vs.toArray) rfl (by rw [List.size_toArray]; exact z.1) hk1 (hI _ hl) fun h₂ e h' hI₂ hk₂ hx => ?_)
  have F₂ : Fr hb L h₂ _ := fr_move' F1 (fun o e => hk₂ _ o (fun q => nIL q.symm) e) (fun b o e => hk₂ b o (fun q => by rw [q, z.2.2] at e; cases e) (F1.keep b o e))
  have N₂ : News hb L h₂ ((I, liO l vs.length (vs.length + 1)) :: rest) := fun q hq => by
    rcases List.mem_cons.mp hq with rfl | hq
    · rw [List.size_toArray] at hI₂; exact ⟨hI₂, z.2⟩
    · exact ⟨hk₂ _ _ (hI q hq) (N1 q (.tail _ hq)).1, (N1 q (.tail _ hq)).2⟩
  exact leave_newS K hx F₂ N₂ (fun h'' R _ up => hret e _ R up ⟨rfl, rfl, id⟩)
end

-- part RB
section
theorem fresh_RB : True := by
  k_with_none
  exact trivial
/-- what _parse_varint reads behind its first octet b, at i -/
noncomputable def vfin (zs : List Int) : Nat → Nat → Int → Int → Option (Int × Nat)
  | 0, _, _, _ => none
  | f + 1, i, b, v => if Builtin.bitAnd b 64 = 0 then some (v, i) else if 0 ≤ v ∧ v < 1000000000000 then (match zs[i]? with
    | none => none
    | some b' => vfin zs f (i + 1) b' (Builtin.bitOr (v * 64) (Builtin.bitAnd b' 63))) else none
local macro_rules | `(tactic| walk_at "call builtin:next") => `(tactic| (refine stop ?_))
theorem pv_spec {w : World} {p : Program} {loose : List Str} {mg mb : Str → Option Value} {h₀ : Heap}
  {s : Shared} {Q E : Value → Shared → Prop} {I l : Addr} {vs : List Value} {zs : List Int} {k i j f : Nat} {b v : Int} {rest : List (Addr × Obj)}
  (g : G w p loose mg mb h₀) (hsub : ∀ b o, h₀.get? b = some o → s.heap.get? b = some o)
  (hl : (l, ({ cls := .type "list", data := .seq vs.toArray k } : Obj)) ∈ rest) (hI : ∀ q ∈ rest, q.1 ≠ I) (hzi : IntsAre vs zs)
  (hown : ∀ q ∈ (I, liO l vs.length i) :: rest, s.heap.get? q.1 = some q.2 ∧ h₀.get? q.1 = none)
  (hb : zs[i]? = some b) (hv : vfin zs f (i + 1) b (Builtin.bitAnd b 63) = some (v, j))
  (hret : ∀ t s', s'.heap.get? I = some (liO l vs.length j) → Ev [I] s s' → Q (.int v t) s') :
  wpAny (model PySem.Challenge.rw_us0006_01.row.prog w) (UU 460 1600) (call (.ref 48) [.ref I]) Q E s := by
  have X := g.X.keeps hsub
  revert X; k_fill; intro X
  refine' enterM ((I, liO l vs.length i) :: rest) (pos := [.ref I]) (kw := []) (binds := [("iterator", .ref I)]) g hsub hown ?ho ?hcd ?hb ?hl ?hc ?_ ?hr ?h1 ?h2 ?h3
  walk_at "m_enter"
  intro hb' L h₁ F N gb X1 T1 hsz hb1 hb2
  have hnI : ∀ {h : Heap} {i : Nat}, News hb' L h ((I, liO l vs.length i) :: rest) → I ≠ L ∧ hb'.get? I = none := fun N => (N _ (.head _)).2
  -- a step of the tape
  have tape : ∀ {A : Around} {E : Value → Shared → Prop} {s : Shared} {m : Str → Option Value} {i : Nat} {b : Int} {Q : Value → Shared → Prop}, A.handled = none → zs[i]? = some b → Fr hb' L s.heap m → News hb' L s.heap ((I, liO l vs.length i) :: rest) →
      (∀ t h', Fr hb' L h' m → News hb' L h' ((I, liO l vs.length (i + 1)) :: rest) → Q (.int b t) { s with heap := h' }) → wpAny (model PySem.Challenge.rw_us0006_01.row.prog w) A (call (.builtin "next") [.ref I]) Q E s := by
    intro A E s m i b Q hh hz F N h
    have z := N _ (.head _)
    obtain ⟨t, hv⟩ := hzi.get i b hz
    have hlt : i < vs.length := (List.getElem?_eq_some_iff.mp hv).1
    refine next1 (ty := "list_iterator") ⟨_, z.1, rfl⟩ slot_listiter_next entry_listiter_next args_listiter_next (listNext_body (i := i) (items := vs.toArray) hh (by rw [List.size_toArray]; exact z.1) (N.isList (.tail _ hl)) (hI _ hl) (by rw [List.size_toArray]; omega) (fun v' h' hv' hI' hk' => ?_) (fun e h' hn _ _ _ => ?_))
    · rw [List.getElem?_toArray, hv] at hv'
      obtain rfl : _ = v' := Option.some.inj hv'
      refine ⟨_, rfl, h t h' (fr_move' F (fun o e => hk' _ o (fun q => z.2.1 q.symm) e) (fun b o e => hk' b o (fun q => by rw [q, z.2.2] at e; cases e) (F.keep b o e))) (fun q hq => ?_)⟩
      rcases List.mem_cons.mp hq with rfl | hq
      · rw [List.size_toArray] at hI'; exact ⟨hI', z.2⟩
      · exact ⟨hk' _ _ (hI q hq) (N q (.tail _ hq)).1, (N q (.tail _ hq)).2⟩
    · rw [List.getElem?_toArray, hv] at hn; cases hn
  k_steps
  refine ⟨?_⟩
  (rename Fr _ _ _ _ => F1); (rename News _ _ _ _ => N1)
  refine tape rfl hb F1 N1 (fun t h' F2 N2 => ?_)
  clear F1 N1
  k_with "exec While BinOp cons nil" => (refine stop ?_)
  k_steps
  refine ⟨?_⟩
  (rename Fr _ _ _ _ => F3); (rename News _ _ _ _ => N3)
  refine while_at (h₀ := hb') (L := L) (σ := Nat × Nat × Int × Int × Tok × Tok) (fun c => (I, liO l vs.length c.2.1) :: rest) (fun c => [("iterator", .ref I), ("b", .int c.2.2.1 c.2.2.2.2.1), ("val", .int c.2.2.2.1 c.2.2.2.2.2)])
      (fun c s' => Sh s s' ∧ vfin zs c.1 c.2.1 c.2.2.1 c.2.2.2.1 = some (v, j)) (fun c => c.1) ?_ ?_
  · exact ⟨(f, i + 1, b, _, _, _), At.mk _ F3 N3 (fun p hp => hp) (by walk_at "m_all") ⟨⟨rfl, rfl, id⟩, hv⟩⟩
  · rintro ⟨f', i', b', v', tb, tv⟩ u s' ⟨hs, hv'⟩ F' N'
    dsimp only at hv' F' N'
    obtain ⟨f, rfl⟩ : ∃ f, f' = f + 1 := by
      cases f' with
      | zero => cases hv'
      | succ f => exact ⟨f, rfl⟩
    rw [vfin] at hv'
    k_steps
    · rename (Builtin.bitAnd b' 64 ≠ 0) => hne
      rw [if_neg hne] at hv'
      by_cases hbd : 0 ≤ v' ∧ v' < 1000000000000
      · rw [if_pos hbd] at hv'
        cases hz : zs[i']? with
        | none => rw [hz] at hv'; cases hv'
        | some b2 =>
          rw [hz] at hv'
          dsimp only at hv'
          have hbits : Builtin.Int.intBits v' ≤ 40 := (PySem.intBits_le_iff (m := 40)).mpr (by omega)
          refine ilshift_int (by decide) (by omega) ?_
          k_steps
          refine ⟨?_⟩
          (rename Fr _ _ _ _ => F4); (rename News _ _ _ _ => N4)
          refine tape rfl hz F4 N4 (fun t4 h4 F5 N5 => ?_)
          clear F4 N4
          k_steps
          (rename Fr _ _ _ _ => F6); (rename News _ _ _ _ => N6)
          exact ⟨(f, i' + 1, b2, _, _, _), Nat.lt_succ_self _, At.mk _ F6 N6 (fun p hp => hp) (by walk_at "m_all") ⟨hs.to, hv'⟩⟩
      · rw [if_neg hbd] at hv'; cases hv'
    · rename (Builtin.bitAnd b' 64 = 0) => he
      rw [if_pos he] at hv'
      injection hv' with e
      injection e with e1 e2
      subst e1 e2
      have hq : ∀ tk, Q (.int v' tv) { s' with toks := tk } := fun tk => hret tv { s' with toks := tk } (N' _ (.head _)).1 (hs.to.ev fun b o hm e => by
        by_cases hr : b ∈ rest.map (·.1)
        · obtain ⟨q, hq, rfl⟩ := List.mem_map.mp hr
          have e3 := (hown q (.tail _ hq)).1
          rw [e] at e3; cases e3
          exact (N' q (.tail _ hq)).1
        · refine F'.keep b o (hb2 b o (fun hm2 => ?_) e)
          rw [List.map_cons] at hm2
          rcases List.mem_cons.mp hm2 with h | h
          · exact hm (List.mem_singleton.mpr h)
          · exact hr h)
      exact hq _
end

-- part RC
section
theorem fresh_RC : True := by
  k_with_none
  exact trivial
/-- what is read -/
noncomputable def octR (fs ss : List Int) (k : Nat) : Int := fs.getD k 0 + (if (ss.any fun x => x == (k : Int) + 1) = true then 0 else 64) + 128 * Int.fmod (k : Int) 2
noncomputable def octsR (fs ss : List Int) : List Int := (List.range fs.length).map (octR fs ss)
noncomputable def rdAll (zs : List Int) : Nat → Nat → Option (List Int)
  | 0, _ => none
  | f + 1, i => match zs[i]? with
    | none => some []
    | some b => match vfin zs zs.length (i + 1) b (Builtin.bitAnd b 63) with
      | none => none
      | some (v, j) => (rdAll zs f j).map (v :: ·)
theorem vfin_le {zs : List Int} : ∀ (f i : Nat) (b v v' : Int) (j : Nat), vfin zs f i b v = some (v', j) → i ≤ zs.length → j ≤ zs.length
  | 0, _, _, _, _, _, h, _ => by cases h
  | f + 1, i, b, v, v', j, h, hi => by
    rw [vfin] at h
    split at h
    · injection h with h; injection h with _ h; rw [← h]; exact hi
    · split at h
      · split at h
        · cases h
        · rename_i hz
          exact vfin_le f _ _ _ _ _ h (List.getElem?_eq_some_iff.mp hz).1
      · cases h
theorem isExc_stop : isSubtype (.type "StopIteration") (.type "BaseException") = pure true := by rw [isSubtype_type]; kernel_rfl
theorem notTuple_stop : isSubtype (.type ((Manifest.find? "StopIteration").elim "type" fun x => x.metatype)) (.type "tuple") = pure false := by
  rw [show ((Manifest.find? "StopIteration").elim "type" fun x => x.metatype) = "type" from by kernel_rfl, isSubtype_type]; kernel_rfl
theorem boot_stop : bootBuiltins "StopIteration" = some (.type "StopIteration") := by decide +kernel
theorem vfin_lt {zs : List Int} : ∀ (f i : Nat) (b v v' : Int) (j : Nat), vfin zs f (i + 1) b v = some (v', j) → i < j
  | 0, _, _, _, _, _, h => by cases h
  | f + 1, i, b, v, v', j, h => by
    rw [vfin] at h
    split at h
    · injection h with h; injection h with _ h; omega
    · split at h
      · split at h
        · cases h
        · have := vfin_lt f (i + 1) _ _ _ _ h; omega
      · cases h
theorem fr_hide {h₀ h : Heap} {L : Addr} {m : Str → Option Value} {own : List (Addr × Obj)} (F : Fr h₀ L h m) (N : ∀ q ∈ own, q.1 ≠ L ∧ h₀.get? q.1 = none) : Fr h₀ L (hideAll h (own.map (·.1))) m := by
  refine ⟨F.ns.at' fun o e => hideAll_get _ e fun hm => ?_, fun b o e => hideAll_get _ (F.keep b o e) fun hm => ?_, F.above⟩
  · obtain ⟨q, hq, he⟩ := List.mem_map.mp hm
    exact (N q hq).1 he
  · obtain ⟨q, hq, he⟩ := List.mem_map.mp hm
    rw [← he, (N q hq).2] at e; cases e
section
variable {prog : Program} {w : World} {A : Around} {s : Shared} {env : Env} {h₀ : Heap} {L : Addr} {Q : Flow → Shared → Prop} {E : Value → Shared → Prop}
theorem while_atE {σ : Type} {test : Expr} {body : List Stmt} {pos : Pos} (Led : σ → List (Addr × Obj)) (ps : σ → List (Str × Value)) (P : σ → Shared → Prop) (μ : σ → Nat) (hE : PassesOwn (model prog w) A env E)
    (h0 : ∃ c₀, At h₀ L Led ps P c₀ s)
    (turn : ∀ (c : σ) (u : Str → Option Value) (s : Shared), P c s → Fr h₀ L s.heap (bd u (ps c)) → News h₀ L s.heap (Led c) →
      wpAny (model prog w) A (isTrue test env (eval test env)) (fun b s₂ =>
        if b = true then wpAny (model prog w) A (execs body env) (Turn h₀ L Led ps P (fun c' => μ c' < μ c) Q) E s₂ else Q .next s₂) E s) :
    wpAny (model prog w) A (exec (.While test body [] pos) env) Q E s := by
  obtain ⟨c₀, h0⟩ := h0
  refine wpAny_While (codeAny_whileLoop (fun n s' => ∃ c, μ c = n ∧ At h₀ L Led ps P c s') ?_ (μ c₀) ⟨c₀, rfl, h0⟩)
  rintro n s' ⟨c, rfl, a⟩
  (refine goal_cut fun Gz hGz => ?_; obtain ⟨u, F, N, hp⟩ := a.fr; refine hGz ?_; clear hGz Gz)
  refine wpAny_passesOwn hE (wpAny_mono (turn c u s' hp F N) (fun b s₂ h₂ => ?_) (fun _ _ x => x))
  cases b with
  | false =>
    simp only [Bool.false_eq_true, if_false] at h₂ ⊢
    exact wpAny_execs_nil h₂
  | true =>
    simp only [if_true] at h₂ ⊢
    refine wpAny_passesOwn hE (wpAny_mono h₂ (fun f s₃ h₃ => ?_) (fun _ _ x => x))
    cases f with
    | ret v => exact h₃
    | brk => exact h₃
    | next => obtain ⟨c', h, a'⟩ := h₃; exact ⟨μ c', h, c', rfl, a'⟩
    | cont => obtain ⟨c', h, a'⟩ := h₃; exact ⟨μ c', h, c', rfl, a'⟩
end
local macro_rules | `(tactic| walk_at "execs cons Assign cons") => `(tactic| ((with_reducible refine wpAny_execs_cons ?_); try dsimp only))
local macro_rules | `(tactic| walk_at "call builtin:iter") => `(tactic| (refine stop ?_))
local macro_rules | `(tactic| walk_at "call ref") => `(tactic| (refine stop ?_))
theorem read_spec {w : World} {p : Program} {loose : List Str} {mean : ExcName → Option Value} {mg mb : Str → Option Value} {base : Heap} {e1 : Env} {outer : List Env}
  {s : Shared} {Q E : Value → Shared → Prop} {fl sl : Addr} {fvs svs : List Value} {fs ss ns : List Int}
  (g : G w p loose mg mb s.heap) (K : Below (callerA.deeper e1) base outer s.heap) (XB : (hd.heap_1 w.params).In base) (TB : Top p loose mean mg mb base) (D : KtsDicts (outer.filterMap (·.frame)) s.heap)
  (hfl : s.heap.IsList fl fvs.toArray) (hfi : IntsAre fvs fs) (hsl : s.heap.IsList sl svs.toArray) (hsi : IntsAre svs ss) (hlen : fs.length ≤ 6) (hls : ss.length < 100)
  (hrd : rdAll (octsR fs ss) 7 0 = some ns)
  (hret : ∀ r (its : List Value) n s' g', KtsTurn (outer.filterMap (·.frame)) s.heap g' → (∀ b o, g'.get? b = some o → s'.heap.get? b = some o) → s'.heap.get? r = some { cls := .type "list", data := .seq its.toArray n } → s.heap.get? r = none → IntsAre its ns → Sh s s' → Q (.ref r) s') :
  wpAny (model PySem.Challenge.rw_us0006_01.row.prog w) (callerA.deeper e1) (call (.ref 182) [.ref fl, .ref sl]) Q E s := by
  have X := g.X
  revert X; k_fill; intro X
  refine' enter (pos := [.ref fl, .ref sl]) (kw := []) (binds := [("figures", .ref fl), ("stops", .ref sl)]) g ?ho ?hcd ?hb ?hl ?hc ?_ ?hr ?h1 ?h2 ?h3
  walk_at "m_enter"
  intro L h₁ F N X T
  k_steps
  refine ⟨?_⟩
  (rename Fr _ _ _ _ => F0); (rename News _ _ _ _ => N0)
  obtain ⟨ofl, hofl⟩ := id hfl
  obtain ⟨osl, hosl⟩ := id hsl
  have hfvl : fvs.length = fs.length := hfi.length
  rename_i ol hb1 hb2 hb3
  refine for_walk (h₀ := s.heap) (n := fs.length) (Pt := fun i v => ∃ t, v = .int (i : Int) t) (σ := List Value × Nat) (fun c => [(ol, { cls := .type "list", data := .seq c.1.toArray c.2 })])
    (fun c => [("figures", .ref fl), ("stops", .ref sl), ("octets", .ref ol)]) (fun i c s' => Sh s s' ∧ IntsAre c.1 ((List.range i).map (octR fs ss))) [ol] (fun _ => rfl) rfl rfl (fun _ _ _ _ _ h => ⟨h.1.to, h.2⟩) ?_ ?_ ?hn1 ?_ (fun _ => rfl)
  case hn1 => intro c; simp only [List.forall_mem_cons]; decide
  · k_with "pyIter ref" => (refine stop ?_)
    k_steps
    (rename Fr _ _ _ _ => F1); (rename News _ _ _ _ => N1); (rename IsRange _ _ _ _ _ _ _ _ => hR)
    refine ⟨?_⟩
    refine iter_range ([], 0) rfl hR (small1 (by decide) (by decide) (by omega) (by omega)) ?_ ?_ F1 N1 (fun p hp => hp) (by walk_at "m_all") (fun h => ⟨⟨rfl, rfl, id⟩, .nil⟩)
    · first | exact range0 rfl | (rw [rangeSize1 (by decide) (by omega)]; omega)
    · exact fun i t _ => ⟨t, by rw [Int.zero_add]⟩
  · rintro i ⟨ws, nn⟩ v u s2 own hi2 ⟨tv, rfl⟩ ⟨hs, hI⟩ F1 N1 hap
    dsimp only [List.cons_append, List.nil_append] at F1 N1 hap hI
    rw [List.forall_mem_singleton] at hap
    have hwl := hI.length
    rw [List.length_map, List.length_range] at hwl
    have hsm : ws.toArray.size ≤ sizeLine := by rw [List.size_toArray, sizeLine_eq]; omega
    have eI : ((i : Int)).toNat = i := Int.toNat_natCast i
    k_steps
    · (rename Fr _ _ _ _ => F2); (rename News _ _ _ _ => N2); (rename ((ss.any _) = true) => hmem)
      rw [List.push_toArray, eI] at N2
      refine ⟨(ws ++ [_], nn + 1), _, _, ⟨hs.to, ?_⟩, F2, N2, fun p hp => by rw [List.mem_singleton.mp hp]; exact List.mem_cons_self .., fun p hp => List.mem_cons_of_mem _ hp, by walk_at "m_all"⟩
      rw [List.range_succ, List.map_append, List.map_singleton, show octR fs ss i = fs.getD i 0 + 0 + 128 * Int.fmod (i : Int) 2 from by unfold octR; rw [if_pos hmem]]
      exact hI.append (.cons _ _ .nil)
    · (rename Fr _ _ _ _ => F2); (rename News _ _ _ _ => N2); (rename ((ss.any _) = false) => hmem)
      rw [List.push_toArray, eI] at N2
      refine ⟨(ws ++ [_], nn + 1), _, _, ⟨hs.to, ?_⟩, F2, N2, fun p hp => by rw [List.mem_singleton.mp hp]; exact List.mem_cons_self .., fun p hp => List.mem_cons_of_mem _ hp, by walk_at "m_all"⟩
      rw [List.range_succ, List.map_append, List.map_singleton, show octR fs ss i = fs.getD i 0 + 64 + 128 * Int.fmod (i : Int) 2 from by unfold octR; rw [if_neg (by rw [hmem]; exact Bool.false_ne_true)]]
      exact hI.append (.cons _ _ .nil)
  · rintro ⟨ws, nn⟩ u s2 ⟨hs, hI⟩ F1 N1
    dsimp only at hI F1 N1
    k_with "exec Try" => (refine stop ?_)
    k_steps
    refine ⟨?_⟩
    refine iter_of_list (items := ws.toArray) (N1.isList (.head _)) (fun h5 I hI5 hI0 hk5 => ?_)
    have F5 := F1.keeps hk5
    have nL : I ≠ L := fun q => by
      (refine goal_cut fun Gz hGz => ?_; obtain ⟨oL, _, _, hoL, _⟩ := id F1.ns; refine hGz ?_; clear hGz Gz)
      have hoL : s2.heap.get? L = some oL := hoL
      rw [← q, hI0] at hoL; cases hoL
    have nB : s.heap.get? I = none := by
      cases e : s.heap.get? I with
      | none => rfl
      | some o => have := F1.keep _ _ e; rw [hI0] at this; cases this
    have nol : ol ≠ I := fun q => by
      have := (N1 _ (.head _)).1
      rw [q, hI0] at this; cases this
    have N5 : News s.heap L h5 [(I, liO ol ws.length 0), (ol, { cls := .type "list", data := .seq ws.toArray nn })] := fun q hq => by
      rcases List.mem_cons.mp hq with rfl | hq
      · rw [List.size_toArray] at hI5; exact ⟨hI5, nL, nB⟩
      · exact ⟨hk5 _ _ (N1 q hq).1, (N1 q hq).2⟩
    clear F1 N1
    k_steps
    refine ⟨?_⟩
    (rename Fr _ _ _ _ => F6); (rename News _ _ _ _ => N6)
    refine wpAny_Try_except ?_
    refine wpAny_execs_cons ?_
    have hzi : IntsAre ws (octsR fs ss) := hI
    have hzl : (octsR fs ss).length = fs.length := by unfold octsR; rw [List.length_map, List.length_range]
    have hwl : ws.length = fs.length := by rw [hzi.length, hzl]
    rename_i tl _ l1 _
    refine while_atE (h₀ := s.heap) (L := L) (σ := Nat × Nat × List Value × Nat × List Int) (fun c => [(tl, { cls := .type "list", data := .seq c.2.2.1.toArray c.2.2.2.1 }), (I, liO ol ws.length c.2.1), (ol, { cls := .type "list", data := .seq ws.toArray nn })])
      (fun c => [("figures", .ref fl), ("stops", .ref sl), ("octets", .ref ol), ("tape", .ref I), ("told", .ref tl)])
      (fun c s' => Sh s s' ∧ IntsAre c.2.2.1 c.2.2.2.2 ∧ c.2.2.2.2.length ≤ c.2.1 ∧ c.2.1 ≤ ws.length ∧ ∃ tail, rdAll (octsR fs ss) c.1 c.2.1 = some tail ∧ c.2.2.2.2 ++ tail = ns) (fun c => c.1) PassesOwn.looking ?_ ?_
    · exact ⟨(7, 0, [], 0, []), At.mk _ F6 N6 (fun p hp => hp) (by walk_at "m_all") ⟨hs.to, .nil, Nat.le_refl _, Nat.zero_le _, ns, hrd, rfl⟩⟩
    · (rintro ⟨f, i, ts, tn, done⟩ u s3 hz1 F7 N7; refine goal_cut fun Gz hGz => ?_; obtain ⟨hs3, hti, hdl, hil, tail, htl, hdn⟩ := hz1; refine hGz ?_; clear hGz Gz)
      dsimp only at hti hdl hil htl hdn F7 N7
      obtain ⟨f, rfl⟩ : ∃ f', f = f' + 1 := by
        cases f with
        | zero => cases htl
        | succ f => exact ⟨f, rfl⟩
      rw [rdAll] at htl
      have nI : ∀ q ∈ [(tl, ({ cls := .type "list", data := .seq ts.toArray tn } : Obj)), (ol, ({ cls := .type "list", data := .seq ws.toArray nn } : Obj))], q.1 ≠ I := fun q hq => by
        rcases List.mem_cons.mp hq with rfl | hq
        · exact fun e => Nat.lt_irrefl _ (e ▸ l1.1)
        · rw [List.mem_singleton.mp hq]; exact nol
      have own4 : ∀ q ∈ [(I, liO ol ws.length i), (tl, { cls := .type "list", data := .seq ts.toArray tn }), (ol, ({ cls := .type "list", data := .seq ws.toArray nn } : Obj))], s3.heap.get? q.1 = some q.2 ∧ q.1 ≠ L ∧ s.heap.get? q.1 = none := fun q hq => by
        refine N7 q ?_
        rcases List.mem_cons.mp hq with rfl | hq
        · exact .tail _ (.head _)
        · rcases List.mem_cons.mp hq with rfl | hq
          · exact .head _
          · exact .tail _ (.tail _ hq)
      have own3 : ∀ q ∈ [(I, liO ol ws.length i), (tl, { cls := .type "list", data := .seq ts.toArray tn }), (ol, ({ cls := .type "list", data := .seq ws.toArray nn } : Obj))], s3.heap.get? q.1 = some q.2 ∧ s.heap.get? q.1 = none := fun q hq => ⟨(own4 q hq).1, (own4 q hq).2.2⟩
      have hap : ∀ j, ∀ q ∈ [(I, liO ol ws.length j), (ol, ({ cls := .type "list", data := .seq ws.toArray nn } : Obj))], q.1 ≠ tl := fun j q hq => by
        rcases List.mem_cons.mp hq with rfl | hq
        · exact Nat.ne_of_lt l1.1
        · rw [List.mem_singleton.mp hq]; exact Nat.ne_of_lt l1.2
      have hsm : ts.toArray.size ≤ sizeLine := by rw [List.size_toArray, hti.length, sizeLine_eq]; omega
      k_steps
      refine ⟨?_⟩
      cases hz : (octsR fs ss)[i]? with
      | some b =>
        rw [hz] at htl
        dsimp only at htl
        cases hv : vfin (octsR fs ss) (octsR fs ss).length (i + 1) b (Builtin.bitAnd b 63) with
        | none => rw [hv] at htl; cases htl
        | some vj =>
          obtain ⟨v, j⟩ := vj
          rw [hv] at htl
          dsimp only at htl
          obtain ⟨tail', ht1, ht2⟩ := Option.map_eq_some_iff.mp htl
          clear htl
          refine of_UU (pv_spec (rest := [(tl, { cls := .type "list", data := .seq ts.toArray tn }), (ol, ({ cls := .type "list", data := .seq ws.toArray nn } : Obj))]) (k := nn) g (by exact F7.keep) (.tail _ (.head _)) nI hzi own3 hz hv (fun t s4 hI4 ev4 => ?_)) rfl (Nat.le_of_ble_eq_true rfl) (Nat.le_of_ble_eq_true rfl)
          have k4 : ∀ b o, b ≠ I → s3.heap.get? b = some o → s4.heap.get? b = some o := fun b o hb e => ev4.heap b o (fun hm => hb (List.mem_singleton.mp hm)) e
          have F8 := fr_move' F7 (fun o e => k4 _ o (fun q => nL q.symm) e) (fun b o e => k4 b o (fun q => by rw [q, nB] at e; cases e) (F7.keep b o e))
          have N8 : News s.heap L s4.heap [(tl, { cls := .type "list", data := .seq ts.toArray tn }), (I, liO ol ws.length j), (ol, ({ cls := .type "list", data := .seq ws.toArray nn } : Obj))] := fun q hq => by
            rcases List.mem_cons.mp hq with rfl | hq
            · exact ⟨k4 _ _ (nI _ (.head _)) (N7 _ (.head _)).1, (N7 _ (.head _)).2⟩
            · rcases List.mem_cons.mp hq with rfl | hq
              · exact ⟨hI4, nL, nB⟩
              · exact ⟨k4 _ _ (nI _ (.tail _ hq)) (N7 _ (.tail _ (.tail _ hq))).1, (N7 _ (.tail _ (.tail _ hq))).2⟩
          have hapj := hap j
          have hij : i < j := vfin_lt _ _ _ _ _ _ hv
          have hjl : j ≤ ws.length := by
            have := vfin_le _ _ _ _ _ _ hv (List.getElem?_eq_some_iff.mp hz).1
            omega
          clear hap N7 F7 own3 own4
          k_steps
          (rename Fr _ _ _ _ => F9); (rename News _ _ _ _ => N9)
          rw [List.push_toArray] at N9
          exact ⟨(f, j, ts ++ [_], tn + 1, done ++ [v]), Nat.lt_succ_self _, At.mk _ F9 N9 (fun p hp => hp) (by walk_at "m_all") ⟨(hs3.to.trans ev4.sh).to, hti.append (.cons _ _ .nil), by dsimp only; rw [List.length_append, List.length_singleton]; omega, hjl, tail', ht1, by rw [← hdn, ← ht2, List.append_assoc]; rfl⟩⟩
      | none =>
        rw [hz] at htl
        have htl := Option.some.inj htl
        subst htl
        have hin : i = ws.length := by
          have := List.getElem?_eq_none_iff.mp hz
          omega
        subst hin
        rw [List.append_nil] at hdn
        subst hdn
        have Fh := fr_hide F7 (own := [(I, liO ol ws.length ws.length), (tl, { cls := .type "list", data := .seq ts.toArray tn }), (ol, ({ cls := .type "list", data := .seq ws.toArray nn } : Obj))]) (fun q hq => (own4 q hq).2)
        refine pv_stop (base := base) g (by exact F7.keep) (rest := [(tl, { cls := .type "list", data := .seq ts.toArray tn }), (ol, ({ cls := .type "list", data := .seq ws.toArray nn } : Obj))]) (k := nn) (.tail _ (.head _)) nI own3 (Below.push K Fh rfl) (fun e s5 R up sh5 => ?_)
        refine caught_SN0 (KF := hd.heap_1 w.params) (T' := "StopIteration") R Fh K up XB TB D KtsTurn.refl ?zzex boot_stop (by decide) isExc_stop notTuple_stop ?zzs ?_
        case zzex => k_is
        case zzs => rw [isSubtype_type]; kernel_rfl
        intro h' g' T' F' N' K' X' P' D'
        clear F7 N7 Fh R
        k_steps
        exact hret tl ts tn _ g' T' F'.keep (N' _ (.tail _ (.head _))).1 (own4 _ (.tail _ (.head _))).2.2 hti (hs3.to.trans sh5.to).to
end

-- part HS
section
theorem fresh_HS : True := by
  k_with_none
  exact trivial
local macro_rules | `(tactic| walk_at "call ref") => `(tactic| (refine stop ?_))
local macro_rules | `(tactic| walk_at "eval ListComp") => `(tactic| (refine stop ?_))
local macro_rules | `(tactic| walk_at "compareOp Eq ref ref") => `(tactic| (refine stop ?_))
local macro_rules | `(tactic| walk_at "subscriptTail") => `(tactic| (k_dflt (first
  | (refine item_intN (by assumption) (by k_mem) (by assumption) (by omega) (by omega) (by omega) ?_; intro _))))
theorem stageP {w : World} {p : Program} {loose : List Str} {mean : ExcName → Option Value} {mg mb : Str → Option Value} {h₀ : Heap} {s₁ s : Shared} {L fa : Addr} {cdv : Value}
  (LT : LawTop w p loose mean mg mb h₀)
  (b : List Stmt) (sc : Scope) (e : lawFd w.params = some (b, sc))
  {xs : List Int} {RV : List (Addr × Obj)} {lv fg wd dp : Addr} {ll fits wits pits : List Value} {ln fk wk pk : Nat} {o1 o2 o3 o4 o5 : Obj} {m : Str → Option Value} {tz : Tok} {d : LexD}
  (hT : LawTail xs L d RV lv fg wd dp ll fits wits pits ln fk wk pk o1 o2 o3 o4 o5) (hs : Sh s₁ s)
  (F : Fr h₀ L s.heap m)
  {od sp np : Addr} {ov sv nv : List Value} {on sn nn : Nat} {M : Nat} {ss os : List Int} {tp : Array Value} (hsi : IntsAre sv ss) (hsl : ss.length < 100) (hov : IntsAre ov os) (hol : os.length ≤ 6) (hob : ∀ z ∈ os, 0 ≤ z ∧ z < (xs.length : Nat)) (hni : IntsAre nv (numsR (levR xs) (xs.map figF) M)) (htb : (137, tabObj tp) ∈ RV) (hgens : AllBare s₁.gens) (hrd : rdAll (octsR (os.map fun z => (xs.map figF).getD z.toNat 0) ss) 7 0 = some (numsR (levR xs) (xs.map figF) M))
  (hm_size : m (Str.ofString "size") = some (.int ((levR xs).length : Nat) tz)) (hm_stops : m (Str.ofString "stops") = some (.ref sp)) (hm_order : m (Str.ofString "order") = some (.ref od)) (hm_numbers : m (Str.ofString "numbers") = some (.ref np))
  (N : News h₀ L s.heap ((np, ({ cls := .type "list", data := .seq nv.toArray nn } : Obj)) :: (sp, ({ cls := .type "list", data := .seq sv.toArray sn } : Obj)) :: (od, ({ cls := .type "list", data := .seq ov.toArray on } : Obj)) :: RV)) :
  wpAny (model PySem.Challenge.rw_us0006_01.row.prog w) (callerA.deeper (envOfC (Str.ofString "law") sc L fa cdv)) (execs (b.drop 23) (envOfC (Str.ofString "law") sc L fa cdv)) (LawQ h₀ s₁) (fun _ _ => False) s := by
  revert e; revert b sc
  refine law_all rfl ?_
  have X := LT.g.X
  revert X; k_fill; intro X
  have T := LT.T
  have B := LT.B
  have C := LT.C
  have hx6 := hT.h6
  have hx5 := hT.h5
  have hlen2 : (levR xs).length = xs.length := levR_len xs (by omega)
  have F0 : Fr h₀ L s.heap (bd m [(Str.ofString "size", .int ((levR xs).length : Nat) tz), (Str.ofString "stops", .ref sp), (Str.ofString "order", .ref od), (Str.ofString "numbers", .ref np)]) := by rw [bd_eq (List.forall_mem_cons.mpr ⟨hm_size, List.forall_mem_cons.mpr ⟨hm_stops, List.forall_mem_cons.mpr ⟨hm_order, List.forall_mem_singleton.mpr hm_numbers⟩⟩⟩)]; exact F
  clear F hm_size hm_stops hm_order hm_numbers
  dsimp only [List.drop_succ_cons, List.drop_zero]
  have hli := hT.hli
  have hll : ll.length = xs.length := by rw [hli.length, hlen2]
  have hfi := hT.hfi
  have hfl : (xs.map figF).length = xs.length := List.length_map ..
  have hm2 := hT.m2
  have ho2 := hT.ho2
  have N1 : News h₀ L s.heap ((L + 2, o2) :: (fg, ({ cls := .type "list", data := .seq fits.toArray fk } : Obj)) :: (np, ({ cls := .type "list", data := .seq nv.toArray nn } : Obj)) :: (sp, ({ cls := .type "list", data := .seq sv.toArray sn } : Obj)) :: (od, ({ cls := .type "list", data := .seq ov.toArray on } : Obj)) :: RV) := fun q hq => by
    rcases List.mem_cons.mp hq with rfl | hq
    · exact N _ (.tail _ (.tail _ (.tail _ hm2)))
    · rcases List.mem_cons.mp hq with rfl | hq
      · exact N _ (.tail _ (.tail _ (.tail _ hT.mfg)))
      · exact N q hq
  clear N
  k_steps
  refine ⟨?_⟩
  refine comp_ints (h₀ := h₀) (L := L) (l := od) (its := ov) (ns := os) (fun z y => ∃ t, y = .int ((xs.map figF).getD z.toNat 0) t) rfl (by decide) rfl (by decide) rfl (by omega) hov rfl ?_ (fun _ => rfl)
  k_steps
  refine ⟨_, _, rfl, F0, N1, N1.isList (by k_mem), ?_, ?_⟩
  · intro C1 z t s₃ m₃ E' hz F₃ hm₃ N₃
    have hzb := hob z hz
    clear F0 N1
    k_with "eval Name" => (first | (refine nameL F₃ rfl hm₃ ?_) | (refine nameCl N₃ (.head _) ho2 ?_))
    k_steps
    exact ⟨⟨_, rfl⟩, _, _, rfl, fun _ _ e => e⟩
  · intro D h' tk ys k F6 N6 ne6 hyp
    clear F0 N1
    have hyi := paired_to_ints hyp
    k_steps
    refine ⟨?_⟩
    (rename Fr _ _ _ _ => F7); (rename News _ _ _ _ => N7)
    have hyl : (os.map fun z => (xs.map figF).getD z.toNat 0).length ≤ 6 := by rw [List.length_map]; exact hol
    have nL0 : h₀.get? L = none := kts_self F7
    refine read_spec (base := h₀) (outer := [_]) (LT.g.keeps F7.keep) ⟨Around.frames_deeper rfl, fun b o e => F7.keep b o e, .cons (show ScopeKind.function ≠ ScopeKind.module by decide) rfl F7.ns nL0 trivial⟩ LT.g.X LT.T ?zzD (N7.isList (.head _)) hyi (N7.isList (by k_mem)) hsi hyl hsl hrd (fun r its n s8 g8 T8 k8 h81 h82 hri sh8 => ?_)
    case zzD =>
      intro b hb
      obtain ⟨o, es, ep, ho, hd, _⟩ := F7.ns
      have e : b = L := List.mem_singleton.mp (show b ∈ [L] from hb)
      rw [e]; exact ⟨o, es, ep, ho, hd⟩
    have kk : ∀ b o, b ≠ L → h'.get? b = some o → s8.heap.get? b = some o := fun b o hb e => k8 b o (T8.other b o e (fun hm => hb (List.mem_singleton.mp (show b ∈ [L] from hm))))
    have F8 : Fr h₀ L s8.heap _ := ⟨by
      obtain ⟨o, es, ep, ho, hd, hk, hn⟩ := F7.ns
      obtain ⟨sl, hs⟩ := T8.up ho
      exact ⟨_, es, ep, k8 _ _ hs, hd, hk, hn⟩, fun b o e => kk b o (fun q => by rw [q, nL0] at e; cases e) (F7.keep b o e), F7.above⟩
    have N8 : News h₀ L s8.heap _ := fun q hq => ⟨kk _ _ (N7 q hq).2.1 (N7 q hq).1, (N7 q hq).2⟩
    clear F7 N7
    k_steps
    refine ⟨?_⟩
    have sh9 : Sh s₁ s8 := hs.to.trans sh8
    have fin : ∀ tk, LawQ h₀ s₁ (.ret (.bool true)) { s8 with toks := tk } := fun tk =>
      ⟨rfl, F8.keep, sh9.os, sh9.bare hgens, ⟨⟨tp, (N8 _ (.tail _ (.tail _ (.tail _ (.tail _ (.tail _ (.tail _ htb))))))).1⟩, trivial⟩⟩
    refine ke_eq_ints (xs := its) (ys := nv) (ns := numsR (levR xs) (xs.map figF) M) (ms := numsR (levR xs) (xs.map figF) M) ?zq1 ?zq2 ?zq3 ?zq4 ?zq5 ?zq6
    case zq1 => exact ⟨_, h81, rfl, _, rfl⟩
    case zq2 => exact N8.isList (by k_mem)
    case zq3 => exact hri
    case zq4 => exact hni
    case zq5 => exact Nat.le_of_ble_eq_true rfl
    rw [show decide (numsR (levR xs) (xs.map figF) M = numsR (levR xs) (xs.map figF) M) = true from by simp]
    clear F8 N8
    k_steps
    exact fin _
end

-- part PA
section
theorem fresh_PA : True := by
  k_with_none
  exact trivial
/-! the plain law of the rows of brackets -/
theorem ofs1 (s : String) (c : Nat) (h : s.toList.map Char.toNat = [c]) : Str.ofString s = ⟨#[c]⟩ := by rw [Str.ofString_eq_toList, h]
theorem sg_bs : Str.ofString "\\" = ⟨#[92]⟩ := ofs1 _ _ (by decide)
theorem sg_q : Str.ofString "\"" = ⟨#[34]⟩ := ofs1 _ _ (by decide)
theorem sg_op : Str.ofString "(" = ⟨#[40]⟩ := ofs1 _ _ (by decide)
theorem sg_cl : Str.ofString ")" = ⟨#[41]⟩ := ofs1 _ _ (by decide)
theorem sg_beq (c d : Nat) : (((⟨#[c]⟩ : Str) == ⟨#[d]⟩) = true) ↔ c = d := by
  rw [beq_iff_eq]
  constructor
  · intro e; injection e with e; injection e with e; injection e
  · rintro rfl; rfl
theorem sg_beq2 (c d : Nat) : ¬ (((⟨#[92]⟩ : Str) ++ (⟨#[c]⟩ : Str)) == ⟨#[d]⟩) = true := by
  rw [beq_iff_eq]
  intro e
  have := congrArg (fun z : Str => z.cps.toList) e
  rw [cps_toList_append] at this
  simp at this
/-- the pieces that a row is made of -/
noncomputable def pcs : List (List Nat) := [[], [40], [41], [92, 40], [34, 41, 34], [92, 92], [92, 34], [34, 40, 34]]
noncomputable def nqB (p : List Nat) : Bool := p.head? != some 34
theorem pcs_cases {P : List Nat → Prop} (h0 : P []) (h1 : P [40]) (h2 : P [41]) (h3 : P [92, 40]) (h4 : P [34, 41, 34]) (h5 : P [92, 92]) (h6 : P [92, 34]) (h7 : P [34, 40, 34]) {p : List Nat} (hp : p ∈ pcs) : P p := by
  simp only [pcs, List.mem_cons, List.not_mem_nil, or_false] at hp
  rcases hp with rfl | rfl | rfl | rfl | rfl | rfl | rfl | rfl
  all_goals assumption
theorem escE_pc {p : List Nat} (hp : p ∈ pcs) : ∀ r, escE (p ++ r) false = escE r false := by
  refine pcs_cases (P := fun p => ∀ r, escE (p ++ r) false = escE r false) ?_ ?_ ?_ ?_ ?_ ?_ ?_ ?_ hp
  all_goals (intro r; simp [escE, sg_bs])
theorem escE_row : ∀ ps : List (List Nat), (∀ p ∈ ps, p ∈ pcs) → escE ps.flatten false = false
  | [], _ => rfl
  | p :: r, h => by rw [List.flatten_cons, escE_pc (h p (.head _)), escE_row r fun q hq => h q (.tail _ hq)]

/-- balanced, never below -/
noncomputable def balL : List (List Nat) → Int → Bool
  | [], o => o == 0
  | p :: r, o => if p = [40] then balL r (o + 1) else if p = [41] then (if o - 1 < 0 then false else balL r (o - 1)) else balL r o
theorem escY_last (r : List Nat) (i : Nat) (a b : Int) : escY r i false a = escY r i false b := by
  cases r with
  | nil => rfl
  | cons c r => unfold escY; rfl
theorem chk_row : ∀ ps : List (List Nat), (∀ p ∈ ps, p ∈ pcs ∧ nqB p = true) → ∀ (i : Nat) (k o : Int), chkGo (escY ps.flatten i false k) o = balL ps o
  | [], _, i, k, o => rfl
  | p :: r, h, i, k, o => by
    have ih := chk_row r fun q hq => h q (.tail _ hq)
    obtain ⟨hp, hn⟩ := h p (.head _)
    rw [List.flatten_cons]
    revert hn
    refine pcs_cases (P := fun p => nqB p = true → chkGo (escY (p ++ r.flatten) i false k) o = balL (p :: r) o) ?_ ?_ ?_ ?_ ?_ ?_ ?_ ?_ hp
    all_goals intro hn
    all_goals first
      | (exfalso; revert hn; decide)
      | (simp [escY, sg_bs, chkGo, balL, sg_op, sg_cl, ih, sg_beq2, -beq_iff_eq, sg_beq]; done)
theorem balL_filter : ∀ (ps : List (List Nat)) (o : Int), balL (ps.filter nqB) o = balL ps o
  | [], _ => rfl
  | p :: r, o => by
    rw [List.filter_cons]
    cases h : nqB p with
    | true => simp only [if_true]; unfold balL; rw [balL_filter r, balL_filter r, balL_filter r]
    | false =>
      simp only [Bool.false_eq_true, if_false]
      rw [balL_filter r]
      have h1 : p ≠ [40] := fun e => by rw [e] at h; exact absurd h (by decide)
      have h2 : p ≠ [41] := fun e => by rw [e] at h; exact absurd h (by decide)
      exact ((if_neg h1).trans (if_neg h2)).symm

/-- what is stripped -/
theorem strip_fold {x : Str} : ∀ (ps : List (List Nat)), (∀ p ∈ ps, p ∈ pcs) → ∀ (pre : List Nat) (hx : x.cps.toList = pre ++ ps.flatten) (c : StS) (kept : List Nat) (k : Int) (ho : c.op = none) (h0 : 0 ≤ c.start) (h1 : c.start ≤ (pre.length : Int)) (hk : (c.res.map (·.cps.toList)).flatten ++ pre.drop c.start.toNat = kept),
    ∃ c', (escY ps.flatten pre.length false k).foldl (stStep x) c = c' ∧ 0 ≤ c'.start ∧ c'.start ≤ (x.length : Int) ∧ (c'.res.map (·.cps.toList)).flatten ++ x.cps.toList.drop c'.start.toNat = kept ++ (ps.filter nqB).flatten
  | [], _, pre, hx, c, kept, k, ho, h0, h1, hk => by
    refine ⟨c, rfl, h0, ?_, ?_⟩
    · have : x.length = pre.length := by rw [show x.length = x.cps.toList.length from (Array.length_toList).symm, hx]; simp
      rw [this]; exact h1
    · rw [hx, ← hk]; simp
  | p :: r, h, pre, hx, c, kept, k, ho, h0, h1, hk => by
    have ih := strip_fold (x := x) r fun q hq => h q (.tail _ hq)
    have hp := h p (.head _)
    have hx' : x.cps.toList = (pre ++ p) ++ r.flatten := by rw [hx, List.flatten_cons, List.append_assoc]
    have hlen : (pre ++ p).length = pre.length + p.length := List.length_append
    -- a piece that is not quoted changes nothing
    have plain : nqB p = true → (escY (p ++ r.flatten) pre.length false k).foldl (stStep x) c = (escY r.flatten (pre ++ p).length false 0).foldl (stStep x) c → ∃ c', (escY (p :: r).flatten pre.length false k).foldl (stStep x) c = c' ∧ 0 ≤ c'.start ∧ c'.start ≤ (x.length : Int) ∧ (c'.res.map (·.cps.toList)).flatten ++ x.cps.toList.drop c'.start.toNat = kept ++ ((p :: r).filter nqB).flatten := by
      intro hn e
      obtain ⟨c', e1, e2, e3, e4⟩ := ih (pre ++ p) hx' c (kept ++ p) 0 ho h0 (by rw [hlen]; omega) (by
        rw [List.drop_append_of_le_length (by omega), ← List.append_assoc, hk])
      refine ⟨c', ?_, e2, e3, ?_⟩
      · rw [List.flatten_cons, e]; exact e1
      · rw [e4, List.filter_cons, if_pos hn, List.flatten_cons, List.append_assoc]
    -- a quoted one
    have quoted : ∀ q, p = [34, q, 34] → q ≠ 34 → q ≠ 92 → ∃ c', (escY (p :: r).flatten pre.length false k).foldl (stStep x) c = c' ∧ 0 ≤ c'.start ∧ c'.start ≤ (x.length : Int) ∧ (c'.res.map (·.cps.toList)).flatten ++ x.cps.toList.drop c'.start.toNat = kept ++ ((p :: r).filter nqB).flatten := by
      intro q hq hq1 hq2
      subst hq
      have hxl : x.length = pre.length + 3 + r.flatten.length := by
        rw [show x.length = x.cps.toList.length from (Array.length_toList).symm, hx']; simp; omega
      have hsl : (Txt.slice x (some c.start) (some (pre.length : Int))).cps.toList = pre.drop c.start.toNat := by
        have e := eq_of_beq (slice_closesL (x := x) (i := c.start) (j := (pre.length : Int)) h0 h1 (by omega))
        rw [e, List.toList_toArray, hx, List.drop_append_of_le_length (by omega), List.take_append_of_le_length (by rw [List.length_drop]; exact Nat.le_of_eq (ts_sub h0)), List.take_of_length_le (by rw [List.length_drop]; exact Nat.le_of_eq (ts_sub h0).symm)]
      obtain ⟨c', e1, e2, e3, e4⟩ := ih (pre ++ [34, q, 34]) hx' ⟨(pre.length : Int) + 2 + 1, none, if c.start = (pre.length : Int) then c.res else c.res ++ [Txt.slice x (some c.start) (some (pre.length : Int))]⟩ kept 0 rfl (by show (0 : Int) ≤ (pre.length : Int) + 2 + 1; omega) (by rw [hlen]; show (pre.length : Int) + 2 + 1 ≤ ((pre.length + 3 : Nat) : Int); omega) (by
        show _ ++ List.drop ((pre.length : Int) + 2 + 1).toNat _ = _
        rw [List.drop_of_length_le (by rw [hlen]; simp; omega), List.append_nil]
        by_cases hs : c.start = (pre.length : Int)
        · rw [if_pos hs, ← hk, List.drop_of_length_le (by rw [hs]; simp), List.append_nil]
        · rw [if_neg hs, List.map_append, List.flatten_append, ← hk]; simp [hsl])
      refine ⟨c', ?_, e2, e3, ?_⟩
      · rw [← e1, List.flatten_cons, hlen]
        obtain ⟨cs, cop, cres⟩ := c
        dsimp only at ho
        subst ho
        simp [escY, sg_bs, stStep, sg_q, hq1, hq2]
        rw [escY_last _ _ _ 0]
        congr 1
      · rw [e4, List.filter_cons, if_neg (by show ¬ nqB [34, q, 34] = true; simp [nqB])]
    have hplain2 : nqB p = true → ∃ c', (escY (p :: r).flatten pre.length false k).foldl (stStep x) c = c' ∧ 0 ≤ c'.start ∧ c'.start ≤ (x.length : Int) ∧ (c'.res.map (·.cps.toList)).flatten ++ x.cps.toList.drop c'.start.toNat = kept ++ ((p :: r).filter nqB).flatten := by
      intro hn
      refine plain hn ?_
      clear plain quoted ih
      rw [hlen]
      revert hn
      refine pcs_cases (P := fun p => nqB p = true → (escY (p ++ r.flatten) pre.length false k).foldl (stStep x) c = (escY r.flatten (pre.length + p.length) false 0).foldl (stStep x) c) ?_ ?_ ?_ ?_ ?_ ?_ ?_ ?_ hp
      all_goals intro hn
      all_goals first
        | (exfalso; revert hn; decide)
        | (simp [escY, sg_bs, stStep, sg_q, sg_beq2, -beq_iff_eq, sg_beq]; rw [escY_last _ _ _ 0]; done)
        | (simp [escY, sg_bs, stStep, sg_q, sg_beq2, -beq_iff_eq, sg_beq]; rw [escY_last _ _ _ 0])
    cases hn : nqB p with
    | true => exact hplain2 hn
    | false =>
      revert hn quoted
      refine pcs_cases (P := fun p => (∀ q, p = [34, q, 34] → q ≠ 34 → q ≠ 92 → _) → nqB p = false → _) ?_ ?_ ?_ ?_ ?_ ?_ ?_ ?_ hp
      all_goals intro quoted hn
      all_goals first
        | (exfalso; revert hn; decide)
        | exact quoted _ rfl (by decide) (by decide)
end

-- part PB
section
theorem fresh_PB : True := by
  k_with_none
  exact trivial
theorem strip_row {x : Str} {ps : List (List Nat)} (hx : x.cps.toList = ps.flatten) (h : ∀ p ∈ ps, p ∈ pcs) : (stripR x).cps.toList = (ps.filter nqB).flatten := by
  unfold stripR
  rw [sg_q, empty_one]
  by_cases hm : 34 ∈ x.cps.toList
  · rw [if_neg (by simp [hm])]
    obtain ⟨c', e1, e2, e3, e4⟩ := strip_fold (x := x) ps h [] (by rw [hx]; rfl) ⟨0, none, []⟩ [] 0 rfl (Int.le_refl _) (Int.le_refl _) rfl
    have e1' : (escY x.cps.toList 0 false 0).foldl (stStep x) ⟨0, none, []⟩ = c' := by rw [hx]; exact e1
    rw [e1']
    dsimp only
    rw [List.nil_append] at e4
    rw [← e4]
    show (Txt.join (Str.ofString "") _).cps.toList = _
    rw [join_toList]
    by_cases hs : c'.start < (x.length : Int)
    · rw [if_pos hs, List.map_append, List.flatten_append]
      congr 1
      rw [List.map_singleton, List.flatten_singleton, slice_from_eq e2 e3 rfl, List.toList_toArray]
      rw [List.take_of_length_le]
      rw [List.length_drop, show x.cps.toList.length = x.length from Array.length_toList]
      exact Nat.le_of_eq (ts_sub e2).symm
    · rw [if_neg hs, List.drop_of_length_le (by rw [show x.cps.toList.length = x.length from Array.length_toList]; omega), List.append_nil]
  · rw [if_pos (by simp [hm]), hx]
    congr 1
    refine (List.filter_eq_self.mpr fun p hp => ?_).symm
    cases hn : nqB p with
    | true => rfl
    | false =>
      refine absurd ?_ hm
      rw [hx]
      refine List.mem_flatten_of_mem hp ?_
      cases p with
      | nil => cases hn
      | cons c r =>
        have : c = 34 := by simpa [nqB] using hn
        rw [this]; exact .head _
theorem checkR_row {x : Str} {ps : List (List Nat)} (hx : x.cps.toList = ps.flatten) (h : ∀ p ∈ ps, p ∈ pcs) : checkR x = balL ps 0 ∧ escE x.cps.toList false = false ∧ escE (stripR x).cps.toList false = false := by
  have hf : ∀ p ∈ ps.filter nqB, p ∈ pcs ∧ nqB p = true := fun p hp => ⟨h p (List.mem_filter.mp hp).1, (List.mem_filter.mp hp).2⟩
  refine ⟨?_, by rw [hx]; exact escE_row ps h, by rw [strip_row hx h]; exact escE_row _ fun p hp => (hf p hp).1⟩
  unfold checkR
  rw [strip_row hx h, chk_row _ hf, balL_filter]

noncomputable def okRow : List Nat → Nat → Bool
  | [], _ => true
  | c :: r, o => if c = 40 then okRow r (o + 1) else if o = 0 then false else okRow r (o - 1)
noncomputable def dpL : List Nat → Nat → List Int
  | [], _ => []
  | c :: r, o => if c = 40 then (o : Int) :: dpL r (o + 1) else dpL r (o - 1)
noncomputable def runL : List (List Nat) → Nat → Option Nat
  | [], o => some o
  | p :: r, o => if p = [40] then runL r (o + 1) else if p = [41] then (if o = 0 then none else runL r (o - 1)) else runL r o
theorem balL_app (qs : List (List Nat)) : ∀ (ps : List (List Nat)) (o o' : Nat), runL ps o = some o' → balL (ps ++ qs) (o : Int) = balL qs (o' : Int)
  | [], o, o', h => by rw [Option.some.inj h]; rfl
  | p :: r, o, o', h => by
    rw [List.cons_append, balL]
    rw [runL] at h
    by_cases h1 : p = [40]
    · rw [if_pos h1] at h ⊢
      have := balL_app qs r _ _ h
      rw [← this]; congr 1
    · rw [if_neg h1] at h ⊢
      by_cases h2 : p = [41]
      · rw [if_pos h2] at h ⊢
        cases o with
        | zero => cases h
        | succ o =>
          rw [if_neg (by omega)] at h
          rw [if_neg (by omega), ← balL_app qs r _ _ h]
          congr 1; omega
      · rw [if_neg h2] at h ⊢
        exact balL_app qs r _ _ h
theorem runL_app (qs : List (List Nat)) : ∀ (ps : List (List Nat)) (o o' : Nat), runL ps o = some o' → runL (ps ++ qs) o = runL qs o'
  | [], o, o', h => by rw [Option.some.inj h]; rfl
  | p :: r, o, o', h => by
    rw [List.cons_append, runL]
    rw [runL] at h
    by_cases h1 : p = [40]
    · rw [if_pos h1] at h ⊢; exact runL_app qs r _ _ h
    · rw [if_neg h1] at h ⊢
      by_cases h2 : p = [41]
      · rw [if_pos h2] at h ⊢
        cases o with
        | zero => cases h
        | succ o =>
          rw [if_neg (by omega)] at h ⊢
          exact runL_app qs r _ _ h
      · rw [if_neg h2] at h ⊢
        exact runL_app qs r _ _ h
theorem balL_cl : ∀ k o : Nat, balL (List.replicate k [41]) (o : Int) = decide (k = o)
  | 0, o => by
    show ((o : Int) == 0) = _
    cases o with
    | zero => rfl
    | succ o => simp; omega
  | k + 1, o => by
    rw [List.replicate_succ, balL, if_neg (by decide), if_pos rfl]
    cases o with
    | zero => rw [if_pos (by omega)]; simp
    | succ o =>
      rw [if_neg (by omega), show ((o + 1 : Nat) : Int) - 1 = (o : Int) by omega, balL_cl k o]
      simp
theorem foldl_app_toList : ∀ (l : List (Array Nat)) (b : Array Nat), (l.foldl (· ++ ·) b).toList = b.toList ++ (l.map (·.toList)).flatten
  | [], b => by simp
  | a :: r, b => by rw [List.foldl_cons, foldl_app_toList r]; simp
theorem mul_toList (x : Str) (n : Int) : (Txt.mul x n).cps.toList = (List.replicate n.toNat x.cps.toList).flatten := by
  unfold Txt.mul
  by_cases h1 : n < 1
  · rw [if_pos h1, show n.toNat = 0 by omega]; rfl
  · rw [if_neg h1]
    by_cases h2 : (n == 1 || x.length == 0) = true
    · rw [if_pos h2]
      rw [Bool.or_eq_true] at h2
      rcases h2 with h2 | h2
      · rw [eq_of_beq h2]; simp
      · have e : x.cps.toList = [] := by
          have : x.length = 0 := eq_of_beq h2
          exact List.eq_nil_of_length_eq_zero (by rw [Array.length_toList]; exact this)
        rw [e]; simp
    · rw [if_neg h2]
      dsimp only
      rw [foldl_app_toList, List.map_replicate]; rfl
/-- the front of a row -/
noncomputable def Front (x : Str) (o : Nat) : Prop := ∃ ps : List (List Nat), x.cps.toList = ps.flatten ∧ (∀ p ∈ ps, p ∈ pcs) ∧ runL ps 0 = some o
theorem closes_toList (x : Str) (k : Nat) : (closes x k).cps.toList = x.cps.toList ++ List.replicate k 41 := by
  unfold closes
  rw [cps_toList_append, mul_toList, sg_cl, Int.toNat_natCast]
  congr 1
  induction k with
  | zero => rfl
  | succ k ih => rw [List.replicate_succ, List.flatten_cons, ih]; rfl
theorem flat_cl (k : Nat) : (List.replicate k [41]).flatten = List.replicate k 41 := by
  induction k with
  | zero => rfl
  | succ k ih => rw [List.replicate_succ, List.flatten_cons, ih]; rfl
theorem front_closes {x : Str} {o : Nat} (h : Front x o) (k : Nat) : checkR (closes x k) = decide (k = o) ∧ escE (closes x k).cps.toList false = false ∧ escE (stripR (closes x k)).cps.toList false = false := by
  obtain ⟨ps, hx, hp, hr⟩ := h
  have := checkR_row (x := closes x k) (ps := ps ++ List.replicate k [41]) (by rw [closes_toList, hx, List.flatten_append, flat_cl]) (fun p hm => by
    rcases List.mem_append.mp hm with h | h
    · exact hp p h
    · rw [(List.mem_replicate.mp h).2]; decide)
  refine ⟨?_, this.2⟩
  rw [this.1, ← balL_cl]
  exact balL_app _ ps 0 o hr
theorem fnd_dec (o : Nat) : ∀ n i, i ≤ o → o < i + n → fnd (fun k => decide (k = o)) n i = some o
  | 0, i, h1, h2 => by omega
  | n + 1, i, h1, h2 => by
    rw [fnd]
    by_cases h : i = o
    · rw [if_pos (by simp [h]), h]
    · rw [if_neg (by simp [h])]
      exact fnd_dec o n (i + 1) (by omega) (by omega)
theorem front_add {x y : Str} {o o' : Nat} {qs : List (List Nat)} (h : Front x o) (hy : y.cps.toList = qs.flatten) (hq : ∀ p ∈ qs, p ∈ pcs) (hr : runL qs o = some o') : Front (x ++ y) o' := by
  obtain ⟨ps, hx, hp, h0⟩ := h
  refine ⟨ps ++ qs, by rw [cps_toList_append, hx, hy, List.flatten_append], fun p hm => ?_, by rw [runL_app _ _ _ _ h0]; exact hr⟩
  rcases List.mem_append.mp hm with h | h
  · exact hp p h
  · exact hq p h
theorem pcs_short {p : List Nat} (h : p ∈ pcs) : p.length ≤ 3 := pcs_cases (P := fun p => p.length ≤ 3) (by decide) (by decide) (by decide) (by decide) (by decide) (by decide) (by decide) (by decide) h
/-- the dress of a row -/
noncomputable def dpcs : List (List Nat) := [[], [92, 40], [34, 41, 34], [92, 92], [92, 34], [34, 40, 34]]
theorem dpcs_run {p : List Nat} (h : p ∈ dpcs) (o : Nat) : p ∈ pcs ∧ runL [p] o = some o := by
  simp only [dpcs, List.mem_cons, List.not_mem_nil, or_false] at h
  rcases h with rfl | rfl | rfl | rfl | rfl | rfl
  all_goals exact ⟨by decide, by simp [runL]⟩
theorem dress_at {ds : List Str} (hds : ∀ d ∈ ds, d.cps.toList ∈ dpcs) (j : Nat) : (ds.getD j ⟨#[]⟩).cps.toList ∈ dpcs := by
  rw [List.getD_eq_getElem?_getD]
  cases e : ds[j]? with
  | none => exact .head _
  | some d => exact hds d (List.mem_of_getElem? e)
theorem size_toList (x : Str) : x.cps.size = x.cps.toList.length := Array.length_toList.symm
theorem dep_fold {ds : List Str} {n : Nat} (hds : ∀ d ∈ ds, d.cps.toList ∈ dpcs) : ∀ (l : List Nat) (st : Str × List Int) (o : Nat), (∀ c ∈ l, c = 40 ∨ c = 41) → Front st.1 o → okRow l o = true → o + l.length ≤ n →
    (l.foldl (depStep n ds) st).2 = st.2 ++ dpL l o ∧ (∃ o', Front (l.foldl (depStep n ds) st).1 o') ∧ (l.foldl (depStep n ds) st).1.cps.size ≤ st.1.cps.size + 4 * l.length
  | [], st, o, _, hF, _, _ => ⟨by simp [dpL], ⟨o, hF⟩, by simp⟩
  | c :: r, st, o, hb, hF, hok, hn => by
    rw [List.length_cons] at hn
    rcases hb c (.head _) with rfl | rfl
    · have hfc : (fun k => checkR (closes st.1 k)) = fun k => decide (k = o) := by funext k; exact (front_closes hF k).1
      have e : depStep n ds st 40 = (st.1 ++ (Str.ofString "(" ++ ds.getD st.2.length ⟨#[]⟩), st.2 ++ [(o : Int)]) := by
        unfold depStep
        rw [if_pos (by rw [sg_op]; exact (sg_beq _ _).mpr rfl), hfc, fnd_dec o n 0 (Nat.zero_le _) (by omega)]
      have hd := dress_at hds st.2.length
      have hF' : Front (st.1 ++ (Str.ofString "(" ++ ds.getD st.2.length ⟨#[]⟩)) (o + 1) := by
        refine front_add (qs := [[40], (ds.getD st.2.length ⟨#[]⟩).cps.toList]) hF (by rw [cps_toList_append, sg_op]; simp) (fun p hp => ?_) ?_
        · rcases List.mem_cons.mp hp with rfl | hp
          · decide
          · rw [List.mem_singleton.mp hp]; exact (dpcs_run hd o).1
        · show runL [_] (o + 1) = _
          exact (dpcs_run hd (o + 1)).2
      have hok' : okRow r (o + 1) = true := by simpa [okRow] using hok
      obtain ⟨h1, h2, h3⟩ := dep_fold (n := n) hds r (st.1 ++ (Str.ofString "(" ++ ds.getD st.2.length ⟨#[]⟩), st.2 ++ [(o : Int)]) (o + 1) (fun c hc => hb c (.tail _ hc)) hF' hok' (by omega)
      rw [List.foldl_cons, e]
      refine ⟨by rw [h1]; simp [dpL], h2, Nat.le_trans h3 ?_⟩
      have hs := pcs_short (dpcs_run hd o).1
      have e2 : (st.1 ++ (Str.ofString "(" ++ ds.getD st.2.length ⟨#[]⟩)).cps.size = st.1.cps.size + (1 + (ds.getD st.2.length ⟨#[]⟩).cps.toList.length) := by
        rw [size_toList, cps_toList_append, cps_toList_append, sg_op, List.length_append, List.length_append, ← size_toList]; rfl
      rw [List.length_cons]
      dsimp only
      rw [e2]
      omega
    · have e : depStep n ds st 41 = (st.1 ++ Str.ofString ")", st.2) := by
        unfold depStep
        rw [if_neg (by rw [sg_op, sg_beq]; decide)]
      rw [List.foldl_cons, e]
      cases o with
      | zero => simp [okRow] at hok
      | succ o =>
        have hF' : Front (st.1 ++ Str.ofString ")") o := front_add (qs := [[41]]) hF (by rw [sg_cl]; rfl) (fun p hp => by rw [List.mem_singleton.mp hp]; decide) rfl
        have hok' : okRow r o = true := by simpa [okRow] using hok
        obtain ⟨h1, h2, h3⟩ := dep_fold (n := n) hds r (st.1 ++ Str.ofString ")", st.2) o (fun c hc => hb c (.tail _ hc)) hF' hok' (by omega)
        refine ⟨by rw [h1]; simp [dpL], h2, Nat.le_trans h3 ?_⟩
        have e2 : (st.1 ++ Str.ofString ")").cps.size = st.1.cps.size + 1 := by
          rw [size_toList, cps_toList_append, sg_cl, List.length_append, ← size_toList]; rfl
        rw [List.length_cons]
        dsimp only
        rw [e2]
        omega
theorem okRow_take : ∀ (l : List Nat) (o i : Nat), okRow l o = true → okRow (l.take i) o = true
  | _, _, 0, _ => rfl
  | [], _, _ + 1, _ => rfl
  | c :: r, o, i + 1, h => by
    rw [List.take_succ_cons, okRow]
    rw [okRow] at h
    by_cases hc : c = 40
    · rw [if_pos hc] at h ⊢; exact okRow_take r _ i h
    · rw [if_neg hc] at h ⊢
      cases o with
      | zero => cases h
      | succ o =>
        rw [if_neg (by omega)] at h ⊢
        exact okRow_take r _ i h
theorem dpL_len : ∀ (l : List Nat) (o : Nat), (dpL l o).length = l.count 40
  | [], _ => rfl
  | c :: r, o => by
    rw [dpL, List.count_cons]
    by_cases hc : c = 40
    · rw [if_pos hc, List.length_cons, dpL_len r, if_pos (by simp [hc])]
    · rw [if_neg hc, dpL_len r, if_neg (by simp [hc])]; rfl
theorem front_nil : Front (Str.ofString "") 0 := ⟨[], rfl, fun p h => (by cases h), rfl⟩
theorem dep_row {x : Str} {ds : List Str} (hb : ∀ c ∈ x.cps.toList, c = 40 ∨ c = 41) (hok : okRow x.cps.toList 0 = true) (hsz : x.cps.size ≤ 20) (hds : ∀ d ∈ ds, d.cps.toList ∈ dpcs) (hcnt : x.cps.toList.count 40 ≤ ds.length) :
    depR x ds = dpL x.cps.toList 0 ∧ DepOk x ds := by
  have key : ∀ i, (depSt x ds i).2 = dpL (x.cps.toList.take i) 0 ∧ (∃ o', Front (depSt x ds i).1 o') ∧ (depSt x ds i).1.cps.size ≤ 4 * x.cps.size := fun i => by
    have hl : (x.cps.toList.take i).length ≤ x.cps.size := by rw [List.length_take, size_toList]; omega
    obtain ⟨h1, h2, h3⟩ := dep_fold (n := x.cps.size) hds (x.cps.toList.take i) (Str.ofString "", []) 0 (fun c hc => hb c (List.mem_of_mem_take hc)) front_nil (okRow_take _ _ _ hok) (by omega)
    refine ⟨by rw [depSt, h1]; rfl, h2, Nat.le_trans h3 ?_⟩
    show 0 + _ ≤ _
    omega
  refine ⟨?_, ⟨fun i k hk => ?_, fun i c hc hp => ?_, fun d hd => ?_⟩⟩
  · obtain ⟨h1, _, _⟩ := dep_fold (n := x.cps.size) hds x.cps.toList (Str.ofString "", []) 0 hb front_nil hok (by rw [size_toList]; omega)
    unfold depR; rw [h1]; rfl
  · obtain ⟨h1, ⟨o, h2⟩, h3⟩ := key i
    have z := front_closes h2 k
    refine ⟨z.2.1, z.2.2, ?_⟩
    rw [size_toList, closes_toList, List.length_append, List.length_replicate, ← size_toList]; omega
  · obtain ⟨h1, _, _⟩ := key i
    rw [h1, dpL_len]
    rw [sg_op, sg_beq] at hp
    subst hp
    have hlt := (List.getElem?_eq_some_iff.mp hc).1
    have e : x.cps.toList.take (i + 1) = x.cps.toList.take i ++ [40] := by rw [List.take_succ_eq_append_getElem hlt, (List.getElem?_eq_some_iff.mp hc).2]
    have h4 : (x.cps.toList.take (i + 1)).count 40 ≤ x.cps.toList.count 40 := (List.take_sublist _ _).count_le _
    rw [e, List.count_append, show List.count 40 [40] = 1 from rfl] at h4
    omega
  · have := pcs_short (dpcs_run (hds d hd) 0).1
    show d.cps.size ≤ 10
    rw [size_toList]; omega
end

-- part PC
section
/-! the shapes of the levels -/
noncomputable def lastD (l : List Int) : Int := l.getD (l.length - 1) 0
noncomputable def extL (l : List Int) : List (List Int) := (List.range (lastD l + 2).toNat).map fun (x : Nat) => l ++ [(x : Int)]
noncomputable def shapes : Nat → List (List Int)
  | 0 => [[0]]
  | k + 1 => (shapes k).flatMap extL
theorem lastD_snoc (l : List Int) (z : Int) : lastD (l ++ [z]) = z := by
  unfold lastD
  rw [List.length_append, List.length_singleton, Nat.add_sub_cancel, List.getD_eq_getElem?_getD, List.getElem?_append_right (Nat.le_refl _), Nat.sub_self]; rfl
theorem shapes_last : ∀ (k : Nat) (l : List Int), l ∈ shapes k → 0 ≤ lastD l
  | 0, l, h => by rw [List.mem_singleton.mp h]; decide
  | k + 1, l, h => by
    obtain ⟨l', _, h2⟩ := List.mem_flatMap.mp h
    obtain ⟨x, _, rfl⟩ := List.mem_map.mp h2
    rw [lastD_snoc]; omega
theorem shapes_step {k : Nat} {l : List Int} (h : l ∈ shapes k) (x : Int) : levStep l x ∈ shapes (k + 1) := by
  have h0 := shapes_last k l h
  have hm : 0 < lastD l + 2 := by omega
  have h1 := Int.fmod_nonneg_of_pos x hm
  have h2 := Int.fmod_lt_of_pos x hm
  refine List.mem_flatMap.mpr ⟨l, h, List.mem_map.mpr ⟨(x.fmod (lastD l + 2)).toNat, List.mem_range.mpr (by omega), ?_⟩⟩
  show l ++ [(((x.fmod (lastD l + 2)).toNat : Nat) : Int)] = l ++ [x.fmod (lastD l + 2)]
  rw [Int.toNat_of_nonneg h1]
theorem shapes_fold : ∀ (xs : List Int) (k : Nat) (l : List Int), l ∈ shapes k → xs.foldl levStep l ∈ shapes (k + xs.length)
  | [], _, _, h => h
  | x :: r, k, l, h => by
    rw [List.foldl_cons, List.length_cons, show k + (r.length + 1) = (k + 1) + r.length by omega]
    exact shapes_fold r _ _ (shapes_step h x)
theorem levR_shape (xs : List Int) : levR xs ∈ shapes (xs.length - 1) := by
  unfold levR
  have := shapes_fold (xs.take (xs.length - 1)) 0 [0] (.head _)
  rw [List.length_take, Nat.zero_add, Nat.min_eq_left (Nat.sub_le _ _)] at this
  exact this

noncomputable def mxL (ns : List Int) : Nat := ns.foldl (fun m z => max m z.toNat) 0
noncomputable def sgL (ns : List Int) : List Nat := (List.range (ns.length - 1)).foldl (fun acc i => acc ++ (List.replicate (ns.getD i 0 + 1 - ns.getD (i + 1) 0).toNat 41 ++ [40])) [40] ++ List.replicate (ns.getD (ns.length - 1) 0 + 1).toNat 41
noncomputable def dueI (ns : List Int) (k : Nat) (st : List Nat × List Int) (i : Nat) : List Nat × List Int :=
  if ns.getD i 0 = (k : Int) then (st.1 ++ [40], st.2) else if ns.getD i 0 = (k : Int) - 1 then (st.1 ++ [41], st.2 ++ [(i : Int)]) else st
noncomputable def dueL (ns : List Int) (m : Nat) : List Nat × List Int := (List.range m).foldl (fun st k => (List.range ns.length).foldl (dueI ns k) st) ([], [])
theorem mul_cl (n : Int) : (Txt.mul (Str.ofString ")") n).cps.toList = List.replicate n.toNat 41 := by
  rw [mul_toList, sg_cl, ← flat_cl]
theorem sgnR_toList (ns : List Int) : (sgnR ns).cps.toList = sgL ns := by
  unfold sgnR sgL
  rw [cps_toList_append, mul_cl]
  congr 1
  refine (List.foldl_hom (fun z : Str => z.cps.toList) (g₁ := sgnStep ns) (g₂ := fun acc i => acc ++ (List.replicate (ns.getD i 0 + 1 - ns.getD (i + 1) 0).toNat 41 ++ [40])) (init := Str.ofString "(") (l := List.range (ns.length - 1)) fun x i => ?_).symm.trans ?_
  · unfold sgnStep
    rw [cps_toList_append, cps_toList_append, mul_cl, sg_op]
  · rw [sg_op]
theorem dueR_toList (ns : List Int) (m : Nat) : ((dueR ns m).1.cps.toList, (dueR ns m).2) = dueL ns m := by
  unfold dueR dueL
  refine (List.foldl_hom (fun z : Str × List Int => (z.1.cps.toList, z.2)) (g₂ := fun st k => (List.range ns.length).foldl (dueI ns k) st) (init := (Str.ofString "", [])) fun x k => ?_).symm
  refine List.foldl_hom (fun z : Str × List Int => (z.1.cps.toList, z.2)) (g₂ := dueI ns k) fun y i => ?_
  unfold dueI dueIn
  dsimp only
  split
  · rw [cps_toList_append, sg_op]
  · split
    · rw [cps_toList_append, sg_cl]
    · rfl
/-- the rounds, told on places -/
noncomputable def rnT (lv : List Int) (k : Nat) (st : List Nat × List Int × List Int) : List Nat × List Int × List Int :=
  match st.2.2 with
  | [] => st
  | y :: q => if lv.getD y.toNat 0 = (k : Int) - 1 then (st.1 ++ [41], st.2.1 ++ [y], q) else (if lv.getD y.toNat 0 = (k : Int) then st.1 ++ [40] else st.1, st.2.1, q ++ [y])
noncomputable def rnL (lv : List Int) (n : Nat) : List Nat × List Int × List Int :=
  (List.range (n + 1)).foldl (fun st k => (List.range (n - st.2.1.length)).foldl (fun st _ => rnT lv k st) st) ([], [], (List.range n).map fun (i : Nat) => (i : Int))
/-- the figures' groups, told on places -/
noncomputable def grpL (ns : List Int) (M : Nat) : List (List Int) := (List.range ns.length).foldl (fun (gs : List (List Int)) (k : Nat) => gs.set (ns.getD k 0).toNat (gs.getD (ns.getD k 0).toNat [] ++ [(k : Int)])) (List.replicate (M + 1) [])
noncomputable def rlI : List (Int × Bool) → List Int → Option (List (List Int))
  | [], acc => if acc = [] then some [] else none
  | p :: r, acc => if p.2 = true then (rlI r []).map ((acc ++ [p.1]) :: ·) else rlI r (acc ++ [p.1])
noncomputable def flagsL (os ss : List Int) : List (Int × Bool) := (List.range os.length).map fun (k : Nat) => (os.getD k 0, ss.any fun x => x == (k : Int) + 1)
noncomputable def bkB (l : List Nat) : Bool := l.all fun c => c == 40 || c == 41
/-- all that is asked of a shape -/
noncomputable def fact (ns : List Int) : Bool :=
  let M := mxL ns
  let mk := (dueL ns (M + 2)).1
  let od := (dueL ns (M + 2)).2
  let hh := dpL mk 0
  let ss := stopsR hh
  (bkB (sgL ns) && okRow (sgL ns) 0 && decide ((sgL ns).length ≤ 20) && decide ((sgL ns).count 40 ≤ ns.length) && decide (dpL (sgL ns) 0 = ns)) &&
  (bkB mk && okRow mk 0 && decide (mk.length ≤ 20) && decide (mk.count 40 ≤ ns.length)) &&
  !(balL (mk.reverse.map fun c => [c]) 0) &&
  decide (pairsR ns = hh.sum) &&
  decide (ss = (List.range (M + 2)).map fun (k : Nat) => (((ns.filter fun z => decide (z < (k : Int))).length : Nat) : Int)) &&
  (decide (od.length = ns.length) && od.all fun z => decide (0 ≤ z) && decide (z < (ns.length : Nat))) &&
  (decide ((M : Int) ∈ ns) && ns.all fun z => decide (0 ≤ z) && decide (z ≤ (M : Int)) && decide (z < 100)) &&
  decide (hh.length ≤ 20) && decide (M < 50) &&
  decide (rnL ns ns.length = (mk, od, [])) &&
  decide (rlI (flagsL od ss) [] = some (grpL ns M))
theorem fact5 : ∀ ns ∈ shapes 4, fact ns = true := by decide +kernel
theorem fact6 : ∀ ns ∈ shapes 5, fact ns = true := by decide +kernel
end

-- part PD
section
/-- what is known of a shape -/
structure Shp (ns : List Int) (M : Nat) (mk : List Nat) (od hh : List Int) : Prop where
  due : dueL ns (M + 2) = (mk, od)
  hts : hh = dpL mk 0
  sgb : ∀ c ∈ sgL ns, c = 40 ∨ c = 41
  sgo : okRow (sgL ns) 0 = true
  sgl : (sgL ns).length ≤ 20
  sgc : (sgL ns).count 40 ≤ ns.length
  sgd : dpL (sgL ns) 0 = ns
  mkb : ∀ c ∈ mk, c = 40 ∨ c = 41
  mko : okRow mk 0 = true
  mkl : mk.length ≤ 20
  mkc : mk.count 40 ≤ ns.length
  rev : balL (mk.reverse.map fun c => [c]) 0 = false
  prs : pairsR ns = hh.sum
  stp : stopsR hh = (List.range (M + 2)).map fun (k : Nat) => (((ns.filter fun z => decide (z < (k : Int))).length : Nat) : Int)
  odl : od.length = ns.length
  odb : ∀ z ∈ od, 0 ≤ z ∧ z < (ns.length : Nat)
  mem : (M : Int) ∈ ns
  top : ∀ z ∈ ns, 0 ≤ z ∧ z ≤ (M : Int) ∧ z < 100
  hhl : hh.length ≤ 20
  m100 : M < 50
  rnd : rnL ns ns.length = (mk, od, [])
  cut : rlI (flagsL od (stopsR hh)) [] = some (grpL ns M)
theorem bkB_iff {l : List Nat} (h : bkB l = true) : ∀ c ∈ l, c = 40 ∨ c = 41 := fun c hc => by
  have := List.all_eq_true.mp h c hc
  simpa using this
theorem shp_of {ns : List Int} (h : fact ns = true) : Shp ns (mxL ns) (dueL ns (mxL ns + 2)).1 (dueL ns (mxL ns + 2)).2 (dpL (dueL ns (mxL ns + 2)).1 0) := by
  unfold fact at h
  dsimp only at h
  simp only [Bool.and_eq_true, decide_eq_true_eq, Bool.not_eq_true', List.all_eq_true] at h
  obtain ⟨⟨⟨⟨⟨⟨⟨⟨⟨⟨⟨⟨⟨⟨a1, a2⟩, a3⟩, a4⟩, a5⟩, ⟨⟨b1, b2⟩, b3⟩, b4⟩, c1⟩, d1⟩, e1⟩, ⟨f1, f2⟩⟩, ⟨g1, g2⟩⟩, h1⟩, h2⟩, i1⟩, j1⟩ := h
  exact ⟨rfl, rfl, bkB_iff a1, a2, a3, a4, a5, bkB_iff b1, b2, b3, b4, c1, d1, e1, f1, f2, g1, fun z hz => ⟨(g2 z hz).1.1, (g2 z hz).1.2, (g2 z hz).2⟩, h1, h2, i1, j1⟩
theorem levR_fact {xs : List Int} (h : xs.length = 5 ∨ xs.length = 6) : fact (levR xs) = true := by
  have hs := levR_shape xs
  rcases h with h | h
  · rw [h] at hs; exact fact5 _ hs
  · rw [h] at hs; exact fact6 _ hs
theorem dresF_mem (x : Int) : (dresF x).cps.toList ∈ dpcs := by
  unfold dresF
  generalize (Int.fmod (Int.fdiv x 11520) 6).toNat = k
  rcases k with _ | _ | _ | _ | _ | _ | k
  all_goals first | decide +kernel | exact .head _
theorem getD_all {P : Int → Prop} {ns : List Int} (h0 : P 0) (h : ∀ z ∈ ns, P z) (k : Nat) : P (ns.getD k 0) := by
  rw [List.getD_eq_getElem?_getD]
  cases e : ns[k]? with
  | none => exact h0
  | some z => exact h z (List.mem_of_getElem? e)
section
variable {xs : List Int} {M : Nat} {mk : List Nat} {od hh : List Int}
theorem plainD_of (hl : xs.length = 5 ∨ xs.length = 6) (S : Shp (levR xs) M mk od hh) : PlainD xs := by
  have hlen : (levR xs).length = xs.length := levR_len xs (by omega)
  have h := dep_row (x := sgnR (levR xs)) (ds := dressR xs) (by rw [sgnR_toList]; exact S.sgb) (by rw [sgnR_toList]; exact S.sgo) (by rw [size_toList, sgnR_toList]; exact S.sgl) (fun d hd => by
    obtain ⟨x, _, rfl⟩ := List.mem_map.mp hd
    exact dresF_mem x) (by rw [sgnR_toList]; unfold dressR; rw [List.length_map]; exact hlen ▸ S.sgc)
  refine ⟨fun k => ?_, ?_, h.2, ?_⟩
  · exact getD_all (P := fun z => 0 ≤ z ∧ z < 100) (by decide) (fun z hz => ⟨(S.top z hz).1, (S.top z hz).2.2⟩) k
  · have := S.sgl
    rw [size_toList, sgnR_toList]; omega
  · rw [h.1, sgnR_toList]; exact S.sgd
theorem due_mk (S : Shp (levR xs) M mk od hh) : (dueR (levR xs) (M + 2)).1.cps.toList = mk ∧ (dueR (levR xs) (M + 2)).2 = od := by
  have := (dueR_toList (levR xs) (M + 2)).trans S.due
  exact ⟨(Prod.mk.inj this).1, (Prod.mk.inj this).2⟩
theorem dep_mk (hl : xs.length = 5 ∨ xs.length = 6) (S : Shp (levR xs) M mk od hh) : depR (dueR (levR xs) (M + 2)).1 (List.replicate xs.length Str.empty) = hh ∧ DepOk (dueR (levR xs) (M + 2)).1 (List.replicate xs.length Str.empty) := by
  have hlen : (levR xs).length = xs.length := levR_len xs (by omega)
  have e := (due_mk S).1
  have h := dep_row (x := (dueR (levR xs) (M + 2)).1) (ds := List.replicate xs.length Str.empty) (by rw [e]; exact S.mkb) (by rw [e]; exact S.mko) (by rw [size_toList, e]; exact S.mkl) (fun d hd => by
    rw [(List.mem_replicate.mp hd).2]; exact .head _) (by rw [e, List.length_replicate]; exact hlen ▸ S.mkc)
  exact ⟨by rw [h.1, e, S.hts], h.2⟩
theorem rev_toList (x : Str) (u : Tok) : (Txt.sliceBy x none none (-1, u)).cps.toList = x.cps.toList.reverse := by
  rw [step_rev_list]
  apply List.ext_getElem?
  intro k
  have hl : x.length = x.cps.toList.length := size_toList x
  rcases Nat.lt_or_ge k x.length with h | h
  · rw [List.getElem?_map, List.getElem?_range h, List.getElem?_reverse (by omega)]
    have h2 : x.length - 1 - k < x.cps.size := by show _ < x.length; omega
    rw [← hl, Array.getElem?_toList, Option.map_some]
    simp [Array.getD, h2]
  · rw [List.getElem?_eq_none (by simp; exact h), List.getElem?_eq_none (by rw [List.length_reverse]; omega)]
theorem rev_mk (S : Shp (levR xs) M mk od hh) (u : Tok) : (Txt.sliceBy (dueR (levR xs) (M + 2)).1 none none (-1, u)).cps.size ≤ 500 ∧ escE (Txt.sliceBy (dueR (levR xs) (M + 2)).1 none none (-1, u)).cps.toList false = false ∧ escE (stripR (Txt.sliceBy (dueR (levR xs) (M + 2)).1 none none (-1, u))).cps.toList false = false ∧ checkR (Txt.sliceBy (dueR (levR xs) (M + 2)).1 none none (-1, u)) = false := by
  have e := (due_mk S).1
  have e2 : (Txt.sliceBy (dueR (levR xs) (M + 2)).1 none none (-1, u)).cps.toList = (mk.reverse.map fun c => [c]).flatten := by
    rw [rev_toList, e]
    generalize mk.reverse = l
    induction l with
    | nil => rfl
    | cons c r ih => rw [List.map_cons, List.flatten_cons, ← ih]; rfl
  have h := checkR_row e2 (fun p hp => by
    obtain ⟨c, hc, rfl⟩ := List.mem_map.mp hp
    rcases S.mkb c (List.mem_reverse.mp hc) with rfl | rfl <;> decide)
  refine ⟨?_, h.2.1, h.2.2, h.1.trans S.rev⟩
  have := S.mkl
  rw [size_toList, rev_toList, List.length_reverse, e]; omega
end
end

-- part PE
section
/-! the words, the rounds -/
noncomputable def xtr : List (List Nat) := [[], [32], [34], [92], [10], [35]]
theorem tbl_mem (k : Nat) : ([Str.ofString "", Str.ofString " ", Str.ofString "\"", Str.ofString "\\", Str.ofString "\n", Str.ofString "#"].getD k Str.empty).cps.toList ∈ xtr := by
  rcases k with _ | _ | _ | _ | _ | _ | k
  all_goals first | decide +kernel | exact .head _
theorem item_abc {j : Nat} (h : j < 6) : (Txt.item (Str.ofString "abcdef") (0 + ((j : Nat) : Int))).cps.toList = [97 + j] := by
  rcases j with _ | _ | _ | _ | _ | _ | j
  all_goals first | (exfalso; omega) | decide +kernel
theorem wordF_toList (fs : List Int) {j : Nat} (h : j < 6) : ∃ e ∈ xtr, (wordF fs (0 + ((j : Nat) : Int))).cps.toList = (97 + j) :: e := by
  refine ⟨_, tbl_mem (Int.fmod (fs.getD (0 + ((j : Nat) : Int)).toNat 0) 6).toNat, ?_⟩
  unfold wordF
  rw [cps_toList_append, item_abc h]; rfl
theorem wordsR_length (xs : List Int) : (wordsR xs).length = xs.length := by unfold wordsR; rw [List.length_map, List.length_range]
theorem wordsR_getD (xs : List Int) {j : Nat} (h : j < xs.length) : (wordsR xs).getD j Str.empty = wordF (xs.map figF) (0 + ((j : Nat) : Int)) := by
  unfold wordsR
  rw [List.getD_eq_getElem?_getD, List.getElem?_map, List.getElem?_range h]; rfl
theorem words_at {xs : List Int} (h6 : xs.length ≤ 6) {j : Nat} (h : j < xs.length) : ∃ e ∈ xtr, ((wordsR xs).getD j Str.empty).cps.toList = (97 + j) :: e := by
  rw [wordsR_getD xs h]; exact wordF_toList _ (by omega)
theorem words_inj {xs : List Int} (h6 : xs.length ≤ 6) {i j : Nat} (hi : i < xs.length) (hj : j < xs.length) (e : (wordsR xs).getD i Str.empty = (wordsR xs).getD j Str.empty) : i = j := by
  obtain ⟨e1, _, h1⟩ := words_at h6 hi
  obtain ⟨e2, _, h2⟩ := words_at h6 hj
  rw [e, h2] at h1
  injection h1 with h1 _
  omega
noncomputable def dFL (xs : List Int) (y : Str) : Int := (levR xs).getD ((wordsR xs).idxOf y) 0
theorem dFL_at {xs : List Int} (hlen : (levR xs).length = xs.length) (h6 : xs.length ≤ 6) (i : Nat) : dFL xs ((wordsR xs).getD i Str.empty) = (levR xs).getD i 0 := by
  have hwl := wordsR_length xs
  unfold dFL
  by_cases hi : i < xs.length
  · have hw : (wordsR xs).getD i Str.empty ∈ wordsR xs := by
      rw [List.getD_eq_getElem?_getD, List.getElem?_eq_getElem (by omega)]; exact List.getElem_mem _
    have hlt := List.idxOf_lt_length_iff.mpr hw
    have he : (wordsR xs).getD ((wordsR xs).idxOf ((wordsR xs).getD i Str.empty)) Str.empty = (wordsR xs).getD i Str.empty := by
      rw [List.getD_eq_getElem?_getD, List.getElem?_eq_getElem hlt]
      exact List.getElem_idxOf hlt
    rw [words_inj h6 (by omega) hi he]
  · have e0 : (wordsR xs).getD i Str.empty = Str.empty := by rw [List.getD_eq_getElem?_getD, List.getElem?_eq_none (by omega)]; rfl
    have hn : Str.empty ∉ wordsR xs := fun hm => by
      obtain ⟨j, hj⟩ := List.getElem?_of_mem hm
      have hlt := (List.getElem?_eq_some_iff.mp hj).1
      obtain ⟨e, _, he⟩ := words_at h6 (j := j) (by omega)
      rw [List.getD_eq_getElem?_getD, hj] at he
      cases he
    rw [e0, List.idxOf_eq_length hn, List.getD_eq_getElem?_getD, List.getElem?_eq_none (by omega), List.getD_eq_getElem?_getD, List.getElem?_eq_none (by omega)]
/-- from places to words -/
noncomputable def toW (xs : List Int) (st : List Nat × List Int × List Int) : Str × List Str × List Str := (⟨st.1.toArray⟩, st.2.1.map (fun z => (wordsR xs).getD z.toNat Str.empty), st.2.2.map (fun z => (wordsR xs).getD z.toNat Str.empty))
theorem toW_turn {xs : List Int} (hlen : (levR xs).length = xs.length) (h6 : xs.length ≤ 6) (k : Nat) (st : List Nat × List Int × List Int) : rndTurn (dFL xs) k (toW xs st) = toW xs (rnT (levR xs) k st) := by
  obtain ⟨mk, gone, q⟩ := st
  have ap : ∀ c : Nat, (⟨mk.toArray⟩ : Str) ++ (⟨#[c]⟩ : Str) = ⟨(mk ++ [c]).toArray⟩ := fun c => by
    have : ((⟨mk.toArray⟩ : Str) ++ (⟨#[c]⟩ : Str)).cps = (mk ++ [c]).toArray := by
      apply Array.toList_inj.mp
      rw [cps_toList_append]
    show Str.mk _ = _
    exact congrArg Str.mk this
  cases q with
  | nil => rfl
  | cons y q =>
    show (if dFL xs ((wordsR xs).getD y.toNat Str.empty) = (k : Int) - 1 then ((⟨mk.toArray⟩ : Str) ++ Str.ofString ")", gone.map (fun z => (wordsR xs).getD z.toNat Str.empty) ++ [(wordsR xs).getD y.toNat Str.empty], q.map (fun z => (wordsR xs).getD z.toNat Str.empty))
      else (if dFL xs ((wordsR xs).getD y.toNat Str.empty) = (k : Int) then (⟨mk.toArray⟩ : Str) ++ Str.ofString "(" else ⟨mk.toArray⟩, gone.map (fun z => (wordsR xs).getD z.toNat Str.empty), q.map (fun z => (wordsR xs).getD z.toNat Str.empty) ++ [(wordsR xs).getD y.toNat Str.empty])) =
      toW xs (if (levR xs).getD y.toNat 0 = (k : Int) - 1 then (mk ++ [41], gone ++ [y], q) else (if (levR xs).getD y.toNat 0 = (k : Int) then mk ++ [40] else mk, gone, q ++ [y]))
    rw [dFL_at hlen h6, sg_cl, sg_op, ap, ap]
    by_cases h1 : (levR xs).getD y.toNat 0 = (k : Int) - 1
    · rw [if_pos h1, if_pos h1]
      unfold toW
      rw [List.map_append, List.map_singleton]
    · rw [if_neg h1, if_neg h1]
      unfold toW
      rw [List.map_append, List.map_singleton]
      by_cases h2 : (levR xs).getD y.toNat 0 = (k : Int)
      · rw [if_pos h2, if_pos h2]
      · rw [if_neg h2, if_neg h2]
theorem rounds_toW {xs : List Int} (hlen : (levR xs).length = xs.length) (h6 : xs.length ≤ 6) : roundsR (wordsR xs) (dFL xs) = toW xs (rnL (levR xs) xs.length) := by
  have h0 : toW xs ([], [], (List.range xs.length).map fun (i : Nat) => (i : Int)) = (Str.ofString "", [], wordsR xs) := by
    unfold toW
    dsimp only [List.map_nil]
    rw [List.map_map]
    congr 2
    apply List.ext_getElem?
    intro j
    rcases Nat.lt_or_ge j xs.length with h | h
    · rw [List.getElem?_map, List.getElem?_range h]
      show some ((wordsR xs).getD j Str.empty) = _
      rw [List.getD_eq_getElem?_getD, List.getElem?_eq_getElem (by rw [wordsR_length]; exact h)]; rfl
    · rw [List.getElem?_eq_none (by simp; exact h), List.getElem?_eq_none (by rw [wordsR_length]; exact h)]
  unfold roundsR rndSt rnL
  rw [wordsR_length, ← h0]
  refine List.foldl_hom (toW xs) (g₁ := fun st k => (List.range (xs.length - st.2.1.length)).foldl (fun st _ => rnT (levR xs) k st) st) fun st k => ?_
  unfold rndK rndJ
  rw [show (toW xs st).2.1.length = st.2.1.length from List.length_map ..]
  exact List.foldl_hom (toW xs) (g₁ := fun st _ => rnT (levR xs) k st) fun st' _ => toW_turn hlen h6 k st'
theorem plainG_of {xs : List Int} {M : Nat} {mk : List Nat} {od hh : List Int} (hl : xs.length = 5 ∨ xs.length = 6) (S : Shp (levR xs) M mk od hh) : PlainG xs (dFL xs) M := by
  have hlen : (levR xs).length = xs.length := levR_len xs (by omega)
  have h6 : xs.length ≤ 6 := by omega
  refine ⟨fun i j hi hj e => words_inj h6 hi hj e, fun i _ => dFL_at hlen h6 i, fun i _ => getD_all (P := fun z => 0 ≤ z ∧ z < 100) (by decide) (fun z hz => ⟨(S.top z hz).1, (S.top z hz).2.2⟩) i, ?_⟩
  have hr := S.rnd
  rw [hlen] at hr
  rw [rounds_toW hlen h6, hr]
  unfold toW
  dsimp only [List.map_nil]
  rw [(due_mk S).2]
  congr 1
  have := (due_mk S).1
  have e : (⟨mk.toArray⟩ : Str) = (dueR (levR xs) (M + 2)).1 := by
    rw [← this]
  exact e
end

-- part PF
section
/-! the text of the law, as get_token reads it -/
theorem inT_one (h : Str) (c : Nat) : inT h ⟨#[c]⟩ = decide (c ∈ h.cps.toList) := StrLaws.found_one h c
theorem ws_list : (Str.ofString "\n\t\r ").cps.toList = [10, 9, 13, 32] := by decide +kernel
theorem qb_list : (Str.ofString "\"\\").cps.toList = [34, 92] := by decide +kernel
theorem wsB_eq (c : Nat) : wsB c = decide (c ∈ [10, 9, 13, 32]) := by unfold wsB; rw [inT_one, ws_list]
noncomputable def escAL (c : Nat) : List Nat := if c ∈ [34, 92] then [92, c] else [c]
theorem escA_toList (c : Nat) : (escA ⟨#[c]⟩).cps.toList = escAL c := by
  unfold escA escAL
  rw [inT_one, qb_list]
  by_cases h : c ∈ [34, 92]
  · rw [if_pos (by simp only [h, decide_true]), if_pos h, cps_toList_append, sg_bs]; rfl
  · rw [if_neg (by simp only [h, decide_false]; exact Bool.false_ne_true), if_neg h]
theorem escB_toList (c : Nat) : (escB ⟨#[c]⟩).cps.toList = [92, c] := by
  unfold escB
  rw [cps_toList_append, sg_bs]; rfl
theorem join_esc (d : Str → Str) (dl : Nat → List Nat) (hd : ∀ c, (d ⟨#[c]⟩).cps.toList = dl c) (y : Str) : (Txt.join (Str.ofString "") ((signs y).map d)).cps.toList = y.cps.toList.flatMap dl := by
  rw [join_toList]
  unfold signs
  rw [List.map_map, List.map_map, List.flatMap_def]
  congr 1
  exact List.map_congr_left fun c _ => hd c
noncomputable def pieceL (m : Int) (w : List Nat) : List Nat :=
  if m = 0 then 34 :: (w.flatMap escAL ++ [34]) else if m = 1 then w.flatMap (fun c => [92, c]) else (match w with
    | [] => []
    | c :: e => c :: e.flatMap (fun c => [92, c]))
theorem pieceR_toList (m : Int) (y : Str) {c : Nat} {e : List Nat} (hy : y.cps.toList = c :: e) : (pieceR m y).cps.toList = pieceL m (c :: e) := by
  unfold pieceR pieceL
  by_cases h0 : m = 0
  · rw [if_pos h0, if_pos h0, cps_toList_append, cps_toList_append, sg_q, join_esc escA escAL escA_toList, hy]; rfl
  · rw [if_neg h0, if_neg h0]
    by_cases h1 : m = 1
    · rw [if_pos h1, if_pos h1, join_esc escB (fun c => [92, c]) escB_toList, hy]
    · rw [if_neg h1, if_neg h1, cps_toList_append, join_esc escB (fun c => [92, c]) escB_toList]
      have hlen : y.length = e.length + 1 := by rw [show y.length = y.cps.toList.length from size_toList y, hy]; rfl
      have h2 : (Txt.slice y (some 1) none).cps.toList = e := by
        rw [slice_from_eq (i := 1) (b := (y.length : Int)) (by decide) (by omega) rfl, List.toList_toArray, hy]
        show List.take ((y.length : Int) - 1).toNat e = e
        rw [List.take_of_length_le (by omega)]
      have h3 : (Txt.item y 0).cps.toList = [c] := by
        unfold Txt.item Txt.charAt
        have hs : seqIndex? 0 y.length = some 0 := by unfold seqIndex?; simp; omega
        rw [hs]
        have hc : y.cps[0]? = some c := by rw [← Array.getElem?_toList, hy]; rfl
        simp [hc]
      rw [h2, h3]; rfl
theorem gtB_end {s : Nat} (h : wsB s = true) (T tok : List Nat) : gtB (s :: T) tok = (tok, T) := by
  cases T with
  | nil => unfold gtB; rw [if_pos h]
  | cons a T => unfold gtB; rw [if_pos h]
/-- a word is read back -/
theorem gt_piece {c s : Nat} {e T : List Nat} (m : Int) (hc1 : wsB c = false) (hc2 : c ≠ 34) (hc3 : c ≠ 92) (hs : wsB s = true) (he : e ∈ xtr) :
    gtO (pieceL m (c :: e) ++ s :: T) = (c :: e, if m = 0 then s :: T else T) := by
  have w34 : wsB 34 = false := by rw [wsB_eq]; decide
  have w92 : wsB 92 = false := by rw [wsB_eq]; decide
  unfold pieceL
  simp only [xtr, List.mem_cons, List.not_mem_nil, or_false] at he
  by_cases h0 : m = 0
  · rw [if_pos h0, if_pos h0]
    rcases he with rfl | rfl | rfl | rfl | rfl | rfl
    all_goals simp [escAL, gtO, gtQ, w34, hc2, hc3]
  · rw [if_neg h0, if_neg h0]
    by_cases h1 : m = 1
    · rw [if_pos h1]
      rcases he with rfl | rfl | rfl | rfl | rfl | rfl
      all_goals simp [gtO, gtB, w92, gtB_end hs]
    · rw [if_neg h1]
      rcases he with rfl | rfl | rfl | rfl | rfl | rfl
      all_goals simp [gtO, gtB, w92, hc1, hc2, hc3, gtB_end hs]
noncomputable def sepL (i : Nat) : Nat := [32, 10, 9, 13].getD (i % 4) 0
theorem sep_at {i : Nat} (h : i < 6) : (Txt.item (Str.ofString " \n\t\r") (Int.fmod (i : Int) 4)).cps.toList = [sepL i] ∧ wsB (sepL i) = true := by
  rw [wsB_eq]
  rcases i with _ | _ | _ | _ | _ | _ | i
  all_goals first | (exfalso; omega) | (constructor <;> decide +kernel)
noncomputable def blkL (xs : List Int) (i : Nat) : List Nat := pieceL ((xs.map manF).getD i 0) ((wordsR xs).getD i Str.empty).cps.toList ++ [sepL i]
noncomputable def tailL (xs : List Int) (j : Nat) : List Nat := ((List.range (xs.length - j)).flatMap fun k => blkL xs (j + k)) ++ [122]
theorem tailL_step {xs : List Int} {j : Nat} (h : j < xs.length) : tailL xs j = blkL xs j ++ tailL xs (j + 1) := by
  unfold tailL
  rw [sub_step (by assumption : j < xs.length), List.range_succ_eq_map, List.flatMap_cons, List.flatMap_map, Nat.add_zero, List.append_assoc]
  congr 2
  have : (fun a => blkL xs (j + Nat.succ a)) = fun k => blkL xs (j + 1 + k) := by funext k; congr 1; omega
  rw [this]
theorem tailL_end (xs : List Int) : tailL xs xs.length = [122] := by unfold tailL; rw [Nat.sub_self]; rfl
theorem textR_toList {xs : List Int} (h6 : xs.length ≤ 6) : ∀ n, n ≤ xs.length → ((List.range n).foldl (txStep (wordsR xs) (xs.map manF)) (Str.ofString "")).cps.toList = (List.range n).flatMap (blkL xs)
  | 0, _ => rfl
  | n + 1, h => by
    rw [List.range_succ, List.foldl_append, List.flatMap_append, ← textR_toList h6 n (by omega)]
    show (txStep (wordsR xs) (xs.map manF) _ n).cps.toList = _ ++ List.flatMap (blkL xs) [n]
    obtain ⟨e, _, hw⟩ := words_at h6 (j := n) (by omega)
    unfold txStep
    rw [cps_toList_append, cps_toList_append, (sep_at (by omega)).1, pieceR_toList _ _ hw, List.append_assoc, List.flatMap_singleton]
    unfold blkL
    rw [hw]
theorem lawText_toList {xs : List Int} (h6 : xs.length ≤ 6) : (lawText xs).cps.toList = tailL xs 0 := by
  unfold lawText textR tailL
  rw [cps_toList_append, wordsR_length, textR_toList h6 _ (Nat.le_refl _), Nat.sub_zero]
  congr 1
  exact congrArg (fun f => List.flatMap f (List.range xs.length)) (by funext k; rw [Nat.zero_add])
noncomputable def restL (xs : List Int) (i : Nat) : List Nat := (if i = 0 then [] else if (xs.map manF).getD (i - 1) 0 = 0 then [sepL (i - 1)] else []) ++ tailL xs i
theorem gtO_rest {xs : List Int} {i : Nat} (h : i ≤ 6) : gtO (restL xs i) = gtO (tailL xs i) := by
  unfold restL
  by_cases h0 : i = 0
  · rw [if_pos h0]; rfl
  · rw [if_neg h0]
    by_cases h1 : (xs.map manF).getD (i - 1) 0 = 0
    · rw [if_pos h1]
      exact gtO_ws (sep_at (i := i - 1) (by omega)).2
    · rw [if_neg h1]; rfl
theorem reads6_of {xs : List Int} (h6 : xs.length ≤ 6) : Reads6 xs (restL xs) := by
  refine ⟨?_, fun i hi => ?_, ?_⟩
  · rw [lawText_toList h6]; rfl
  · rw [gtO_rest (by omega), tailL_step hi]
    obtain ⟨e, he, hw⟩ := words_at h6 hi
    unfold blkL
    rw [hw, List.append_assoc]
    have hc : ∀ d ∈ [10, 9, 13, 32, 34, 92], 97 + i ≠ d := fun d hd => by
      simp only [List.mem_cons, List.not_mem_nil, or_false] at hd
      omega
    rw [List.singleton_append, gt_piece _ (by
      rw [wsB_eq]
      refine decide_eq_false fun hm => ?_
      simp only [List.mem_cons, List.not_mem_nil, or_false] at hm
      omega) (by omega) (by omega) (sep_at (by omega)).2 he]
    congr 1
    unfold restL
    rw [if_neg (Nat.succ_ne_zero i), Nat.add_sub_cancel]
    by_cases hm : (xs.map manF).getD i 0 = 0
    · rw [if_pos hm, if_pos hm]; rfl
    · rw [if_neg hm, if_neg hm]; rfl
  · rw [gtO_rest (by omega), tailL_end]
    decide +kernel
theorem lawText_size {xs : List Int} (h6 : xs.length ≤ 6) : (lawText xs).cps.size < 100 := by
  have h := textR_len (wordsR xs) (xs.map manF) (wordsR_len xs)
  rw [wordsR_length] at h
  have e : (lawText xs).length = (textR (wordsR xs) (xs.map manF)).length + 1 := by unfold lawText; rw [str_len_append]; rfl
  show (lawText xs).length < 100
  omega
theorem cnt_count (c : Nat) : ∀ l : List Nat, cnt c l = (l.count c : Nat)
  | [] => rfl
  | n :: r => by
    rw [cnt_cons, cnt_count c r, List.count_cons]
    by_cases h : n = c
    · rw [if_pos h, if_pos (by simp [h])]; omega
    · rw [if_neg h, if_neg (by simp [h])]; omega
theorem lawText_count (x : Str) : lnK x (x.cps.size + 1) = 1 + Txt.count x (Str.ofString "\n") := by
  unfold lnK
  rw [ofs1 "\n" 10 (by decide), count_cnt, cnt_count, List.take_of_length_le (by rw [← size_toList]; omega)]
end

-- part PG
section
/-! the read -/
noncomputable def valF (fs : List Int) (g : List Int) : Int := g.foldl (fun a z => 64 * a + fs.getD z.toNat 0) 0
theorem valF_snoc (fs g : List Int) (z : Int) : valF fs (g ++ [z]) = 64 * valF fs g + fs.getD z.toNat 0 := by unfold valF; rw [List.foldl_append]; rfl
theorem nums_grp (ns fs : List Int) (M : Nat) : numsR ns fs M = (grpL ns M).map (valF fs) := by
  unfold numsR grpL
  have h0 : List.replicate (M + 1) (0 : Int) = (List.replicate (M + 1) ([] : List Int)).map (valF fs) := by rw [List.map_replicate]; rfl
  rw [h0]
  refine List.foldl_hom (List.map (valF fs)) (g₁ := fun (gs : List (List Int)) (k : Nat) => gs.set (ns.getD k 0).toNat (gs.getD (ns.getD k 0).toNat [] ++ [(k : Int)])) fun gs k => ?_
  unfold numStep
  rw [List.map_set, valF_snoc, Int.toNat_natCast]
  congr 3
  generalize (ns.getD k 0).toNat = j
  rw [List.getD_eq_getElem?_getD, List.getD_eq_getElem?_getD, List.getElem?_map]
  cases gs[j]? <;> rfl
noncomputable def rlV : List (Int × Bool) → Option Int → Option (List Int)
  | [], none => some []
  | [], some _ => none
  | p :: r, acc => if p.2 = true then (rlV r none).map ((acc.getD 0 * 64 + p.1) :: ·) else rlV r (some (acc.getD 0 * 64 + p.1))
noncomputable def accV (fs acc : List Int) : Option Int := if acc = [] then none else some (valF fs acc)
theorem rl_map (fs : List Int) : ∀ (l : List (Int × Bool)) (acc : List Int), rlV (l.map fun p => (fs.getD p.1.toNat 0, p.2)) (accV fs acc) = (rlI l acc).map (List.map (valF fs))
  | [], acc => by
    unfold accV rlI
    by_cases h : acc = []
    · rw [if_pos h, if_pos h]; rfl
    · rw [if_neg h, if_neg h]; rfl
  | p :: r, acc => by
    have hv : (accV fs acc).getD 0 * 64 + fs.getD p.1.toNat 0 = valF fs (acc ++ [p.1]) := by
      rw [valF_snoc]
      unfold accV
      by_cases h : acc = []
      · rw [if_pos h, h]; show (0 : Int) * 64 + _ = 64 * 0 + _; omega
      · rw [if_neg h]; show valF fs acc * 64 + _ = _; omega
    have hne : acc ++ [p.1] ≠ [] := by simp
    rw [List.map_cons, rlV, rlI]
    dsimp only
    rw [hv]
    by_cases hb : p.2 = true
    · rw [if_pos hb, if_pos hb]
      have ih := rl_map fs r []
      rw [show accV fs [] = none from rfl] at ih
      rw [ih]
      cases rlI r [] <;> rfl
    · rw [if_neg hb, if_neg hb]
      have ih := rl_map fs r (acc ++ [p.1])
      rw [show accV fs (acc ++ [p.1]) = some (valF fs (acc ++ [p.1])) from if_neg hne] at ih
      exact ih
theorem and_disj (a b : Nat) (hb : b < 64) : (a * 64) &&& b = 0 := by
  have h1 : b = b &&& 63 := by rw [show (63 : Nat) = 2 ^ 6 - 1 from rfl, Nat.and_two_pow_sub_one_eq_mod, Nat.mod_eq_of_lt hb]
  have h2 : (a * 64) &&& 63 = 0 := by rw [show (63 : Nat) = 2 ^ 6 - 1 from rfl, Nat.and_two_pow_sub_one_eq_mod, show (2 : Nat) ^ 6 = 64 from rfl, Nat.mul_mod_left]
  rw [h1, Nat.and_comm b 63, ← Nat.and_assoc, h2, Nat.zero_and]
theorem or_disj {v f : Int} (hv : 0 ≤ v) (h0 : 0 ≤ f) (h1 : f < 64) : Builtin.bitOr (v * 64) f = v * 64 + f := by
  have e := bitXor_and (v * 64) f
  have e2 : Builtin.bitAnd (v * 64) f = 0 := by
    unfold Builtin.bitAnd
    rw [decide_eq_true (by omega : 0 ≤ v * 64), decide_eq_true h0]
    show (((v * 64).toNat &&& f.toNat : Nat) : Int) = 0
    obtain ⟨n, rfl⟩ := Int.eq_ofNat_of_zero_le hv
    exact congrArg Int.ofNat (and_disj n f.toNat ((Int.toNat_lt h0).mpr h1))
  unfold Builtin.bitXor at e
  omega
structure Tape (zs : List Int) (ps : List (Int × Bool)) : Prop where
  len : zs.length = ps.length
  few : ps.length ≤ 6
  at_ : ∀ (k : Nat) (p : Int × Bool), ps[k]? = some p → 0 ≤ p.1 ∧ p.1 < 64 ∧ ∃ z, zs[k]? = some z ∧ Builtin.bitAnd z 63 = p.1 ∧ (Builtin.bitAnd z 64 = 0 ↔ p.2 = true)
theorem pow_small {i : Nat} (h : i < 6) : (64 : Int) ^ (i + 1) ≤ 68719476736 := by
  rcases i with _ | _ | _ | _ | _ | _ | i
  all_goals first | (exfalso; omega) | decide
theorem sl1 {a i F : Nat} (h : a - i ≤ F + 1) : a - (i + 1) ≤ F := by rw [Nat.sub_add_eq]; exact Nat.sub_le_of_le_add h
theorem sl2 {a i j F : Nat} (h : a - i < F + 1) (h2 : i < j) (h3 : j ≤ a) : a - j < F := by omega
theorem vfin_rl {zs : List Int} {ps : List (Int × Bool)} (T : Tape zs ps) : ∀ (F i : Nat) (v z : Int) (p : Int × Bool) (out : List Int), ps[i]? = some p → zs[i]? = some z → 0 ≤ v → v < 64 ^ (i + 1) → ps.length - i ≤ F →
    (if p.2 = true then (rlV (ps.drop (i + 1)) none).map (v :: ·) else rlV (ps.drop (i + 1)) (some v)) = some out →
    ∃ w j tail, vfin zs F (i + 1) z v = some (w, j) ∧ i < j ∧ j ≤ ps.length ∧ out = w :: tail ∧ rlV (ps.drop j) none = some tail
  | 0, i, v, z, p, out, hp, _, _, _, hF, _ => by
    have := (List.getElem?_eq_some_iff.mp hp).1
    omega
  | F + 1, i, v, z, p, out, hp, hz, h0, h1, hF, h => by
    have hlt := (List.getElem?_eq_some_iff.mp hp).1
    obtain ⟨_, _, z', hz', h63, h64⟩ := T.at_ i p hp
    rw [hz] at hz'
    obtain rfl := Option.some.inj hz'
    rw [vfin]
    by_cases hb : p.2 = true
    · rw [if_pos hb] at h
      rw [if_pos (h64.mpr hb)]
      obtain ⟨tail, ht, rfl⟩ := Option.map_eq_some_iff.mp h
      exact ⟨v, i + 1, tail, rfl, Nat.lt_succ_self _, hlt, rfl, ht⟩
    · rw [if_neg hb] at h
      rw [if_neg (fun e => hb (h64.mp e))]
      have hs := pow_small (i := i) (by have := T.few; omega)
      rw [if_pos ⟨h0, by omega⟩]
      cases hp2 : ps[i + 1]? with
      | none =>
        rw [List.drop_of_length_le (List.getElem?_eq_none_iff.mp hp2)] at h
        cases h
      | some p2 =>
        obtain ⟨f0, f1, z2, hz2, g63, _⟩ := T.at_ (i + 1) p2 hp2
        have hlt2 := (List.getElem?_eq_some_iff.mp hp2).1
        rw [hz2]
        dsimp only
        rw [g63, or_disj h0 f0 f1]
        have hd : ps.drop (i + 1) = p2 :: ps.drop (i + 2) := by rw [List.drop_eq_getElem_cons hlt2, (List.getElem?_eq_some_iff.mp hp2).2]
        rw [hd, rlV] at h
        have hpw : (64 : Int) ^ (i + 1 + 1) = 64 ^ (i + 1) * 64 := Int.pow_succ ..
        obtain ⟨w, j, tail, r1, r2, r3, r4, r5⟩ := vfin_rl T F (i + 1) (v * 64 + p2.1) z2 p2 out hp2 hz2 (by omega) (by rw [hpw]; omega) (sl1 hF) h
        exact ⟨w, j, tail, r1, Nat.lt_of_succ_lt r2, r3, r4, r5⟩
theorem rdAll_rl {zs : List Int} {ps : List (Int × Bool)} (T : Tape zs ps) : ∀ (F i : Nat) (out : List Int), ps.length - i < F → i ≤ ps.length → rlV (ps.drop i) none = some out → rdAll zs F i = some out
  | 0, i, out, hF, _, _ => by omega
  | F + 1, i, out, hF, hi, h => by
    rw [rdAll]
    cases hp : ps[i]? with
    | none =>
      have hge := List.getElem?_eq_none_iff.mp hp
      rw [List.getElem?_eq_none (by rw [T.len]; exact hge)]
      rw [List.drop_of_length_le hge] at h
      exact h
    | some p =>
      have hlt := (List.getElem?_eq_some_iff.mp hp).1
      obtain ⟨f0, f1, z, hz, g63, _⟩ := T.at_ i p hp
      have hd : ps.drop i = p :: ps.drop (i + 1) := by rw [List.drop_eq_getElem_cons hlt, (List.getElem?_eq_some_iff.mp hp).2]
      rw [hd, rlV, show (none : Option Int).getD 0 * 64 + p.1 = p.1 by show (0 : Int) * 64 + p.1 = p.1; omega] at h
      have hp1 : p.1 < 64 ^ (i + 1) := by
        have : (1 : Int) ≤ 64 ^ i := by
          have := Int.pow_pos (n := 64) (m := i) (by decide)
          omega
        rw [Int.pow_succ]; omega
      obtain ⟨w, j, tail, r1, r2, r3, r4, r5⟩ := vfin_rl T zs.length i p.1 z p out hp hz f0 hp1 (by rw [T.len]; omega) h
      rw [hz]
      dsimp only
      rw [g63, r1]
      dsimp only
      rw [rdAll_rl T F j tail (sl2 hF r2 r3) r3 r5, r4]; rfl
theorem and64 : ∀ n : Fin 256, (Builtin.bitAnd ((n.val : Nat) : Int) 64 = 0) ↔ (n.val / 64 % 2 = 0) := by decide +kernel
theorem oct_bits {f : Int} {b : Bool} {k : Nat} (h0 : 0 ≤ f) (h1 : f < 64) : Builtin.bitAnd (f + (if b = true then 0 else 64) + 128 * Int.fmod (k : Int) 2) 63 = f ∧ (Builtin.bitAnd (f + (if b = true then 0 else 64) + 128 * Int.fmod (k : Int) 2) 64 = 0 ↔ b = true) := by
  have hk : 0 ≤ Int.fmod (k : Int) 2 ∧ Int.fmod (k : Int) 2 < 2 := by
    rw [Int.fmod_eq_emod_of_nonneg _ (by decide)]; omega
  generalize Int.fmod (k : Int) 2 = r at hk
  refine ⟨?_, ?_⟩
  · rw [bitAnd_m6]
    cases b
    · simp only [Bool.false_eq_true, if_false]; omega
    · simp only [if_true]; omega
  · have key : ∀ z : Int, 0 ≤ z → z < 256 → (Builtin.bitAnd z 64 = 0 ↔ z / 64 % 2 = 0) := fun z z0 z1 => by
      obtain ⟨n, rfl⟩ := Int.eq_ofNat_of_zero_le z0
      exact (and64 ⟨n, Int.ofNat_lt.mp z1⟩).trans (Int.natCast_eq_zero (n := n / 64 % 2)).symm
    cases b
    · simp only [Bool.false_eq_true, if_false, iff_false]
      rw [key _ (by omega) (by omega)]; omega
    · simp only [if_true, iff_true]
      rw [key _ (by omega) (by omega)]; omega
theorem read_of {xs : List Int} {M : Nat} {mk : List Nat} {od hh : List Int} (hl : xs.length = 5 ∨ xs.length = 6) (hx : ∀ x ∈ xs, 0 ≤ x ∧ x < 69120) (S : Shp (levR xs) M mk od hh) :
    rdAll (octsR (od.map fun z => (xs.map figF).getD z.toNat 0) (stopsR hh)) 7 0 = some (numsR (levR xs) (xs.map figF) M) := by
  have hlen : (levR xs).length = xs.length := levR_len xs (by omega)
  have hol : od.length = xs.length := by rw [S.odl, hlen]
  have hfl : (flagsL od (stopsR hh)).length = od.length := by unfold flagsL; rw [List.length_map, List.length_range]
  have T : Tape (octsR (od.map fun z => (xs.map figF).getD z.toNat 0) (stopsR hh)) ((flagsL od (stopsR hh)).map fun p => ((xs.map figF).getD p.1.toNat 0, p.2)) := by
    refine ⟨?_, ?_, fun k p hp => ?_⟩
    · rw [List.length_map, hfl]; unfold octsR; rw [List.length_map, List.length_range, List.length_map]
    · rw [List.length_map, hfl]; omega
    · have hlt : k < od.length := by
        have := (List.getElem?_eq_some_iff.mp hp).1
        rw [List.length_map, hfl] at this; exact this
      unfold flagsL at hp
      rw [List.map_map, List.getElem?_map, List.getElem?_range hlt] at hp
      obtain rfl := Option.some.inj hp
      have hb := figF_bd hx (od.getD k 0).toNat
      refine ⟨hb.1, hb.2, octR (od.map fun z => (xs.map figF).getD z.toNat 0) (stopsR hh) k, ?_, ?_⟩
      · unfold octsR
        rw [List.getElem?_map, List.getElem?_range (by rw [List.length_map]; exact hlt)]; rfl
      · have e : (od.map fun z => (xs.map figF).getD z.toNat 0).getD k 0 = (xs.map figF).getD (od.getD k 0).toNat 0 := by
          rw [List.getD_eq_getElem?_getD, List.getElem?_map, List.getD_eq_getElem?_getD (l := od), List.getElem?_eq_getElem hlt]; rfl
        unfold octR
        rw [e]
        exact oct_bits hb.1 hb.2
  refine rdAll_rl T 7 0 _ ?_ (Nat.zero_le _) ?_
  · rw [List.length_map, hfl]; omega
  · have h := rl_map (xs.map figF) (flagsL od (stopsR hh)) []
    rw [S.cut] at h
    rw [List.drop_zero, nums_grp]
    exact h
end

-- part ZA
section
theorem fresh_ZA : True := by
  k_with_none
  exact trivial
theorem law_body {w : World} {p : Program} {loose : List Str} {mean : ExcName → Option Value} {mg mb : Str → Option Value} {h₀ : Heap} {s₁ s : Shared} {a L fa : Addr} {cdv : Value} {vs : List Value} {ns : List Int} {c1 c2 c3 c4 c5 : Obj} {m : Str → Option Value}
  (LT : LawTop w p loose mean mg mb h₀) (hs : Sh s₁ s) (hg : AllBare s₁.gens) (hl : h₀.IsList a vs.toArray) (hi : IntsAre vs ns) (hlen : ns.length ≤ 63)
  (F : Fr h₀ L s.heap m) (hm : m (Str.ofString "script") = some (.ref a)) (N : News h₀ L s.heap [(L + 5, c5), (L + 4, c4), (L + 3, c3), (L + 2, c2), (L + 1, c1), (137, tabObj #[])]) (l0 : Nat.lt 137 L)
  (d1 : c1.data = .cell none) (d2 : c2.data = .cell none) (d3 : c3.data = .cell none) (d4 : c4.data = .cell none) (d5 : c5.data = .cell none)
  (b : List Stmt) (sc : Scope) (e : lawFd w.params = some (b, sc)) :
  wpAny (model PySem.Challenge.rw_us0006_01.row.prog w) (callerA.deeper (envOfC (Str.ofString "law") sc L fa cdv)) (execs b (envOfC (Str.ofString "law") sc L fa cdv)) (LawQ h₀ s₁) (fun _ _ => False) s := by
  refine stageA LT hs hl hi hlen F hm N l0 d1 d2 d3 d4 d5 b sc e (fun xs dr lv fg dits ll fits dn ln fk o1 o2 m tz s hxl hxb hxi hli hfi hs F h1 h2 ho1 ho2 N nd => ?_)
  have h6 : xs.length ≤ 6 := by omega
  have hlen2 : (levR xs).length = xs.length := levR_len xs (by omega)
  obtain ⟨M, mk, od, hh, S⟩ : ∃ M mk od hh, Shp (levR xs) M mk od hh := ⟨_, _, _, _, shp_of (levR_fact hxl)⟩
  have hrd := reads6_of h6
  refine stageB1 LT l0 d3 d4 d5 b sc e hxl hxb hxi hli hfi hs F h1 h2 ho1 ho2 N nd (fun wd wits wk o3 m tz s hwi hs F h1 h2 ho3 N nd => ?_)
  refine stageB2 LT l0 d4 d5 b sc e hxl hxb hxi hli hfi hwi hs F h1 h2 ho1 ho2 ho3 N nd (fun d ps o4 m tx ty tz s hok hs F h1 h2 h3 ho4 N nd => ?_)
  refine stageC LT l0 d5 b sc e hrd hxl hxb hxi hli hfi hwi hok hs F h1 h2 h3 ho1 ho2 ho3 ho4 N nd (fun k t1 m ty tz s hk hdr hs F h1 h2 h3 N => ?_)
  refine stageD LT l0 d5 b sc e hxl hxb hxi hli hfi hwi hok (plainD_of hxl S) hs F h1 h2 h3 ho1 ho2 ho3 ho4 N nd (fun dp pits pk o5 m ty tz s hpi hs ho5 F h2 h3 N nd => ?_)
  obtain ⟨RV, hRV⟩ : ∃ RV, RV = (dp, ({ cls := .type "list", data := .seq pits.toArray pk } : Obj)) :: [(wd, ({ cls := .type "list", data := .seq wits.toArray wk } : Obj)), (fg, { cls := .type "list", data := .seq fits.toArray fk }), (lv, { cls := .type "list", data := .seq ll.toArray ln }), (dr, { cls := .type "list", data := .seq dits.toArray dn }), (L + 5, o5), (L + 4, o4), (L + 3, o3), (L + 2, o2), (L + 1, o1), (137, tabObj ps)] := ⟨_, rfl⟩
  rw [← hRV] at N
  obtain ⟨d', hd', hok', ho4'⟩ : ∃ d' : LexD, d' = { d with t1 := t1 } ∧ LexOk d' ∧ o4.data = .cell (some (.ref d'.ln)) := ⟨_, rfl, ⟨hok.code, hok.qual, hok.cell, hok.nd⟩, ho4⟩
  rw [← hd'] at N
  have hla : lexA d' = lexA d := by rw [hd']; rfl
  have htb : (137, tabObj ps) ∈ RV := by rw [hRV]; k_mem
  have hT : LawTail xs L d' RV lv fg wd dp ll fits wits pits ln fk wk pk o1 o2 o3 o4 o5 := by
    refine ⟨by omega, h6, by rw [hRV]; k_mem, by rw [hRV]; k_mem, by rw [hRV]; k_mem, by rw [hRV]; k_mem, by rw [hRV]; k_mem, by rw [hRV]; k_mem, by rw [hRV]; k_mem, by rw [hRV]; k_mem, by rw [hRV]; k_mem, ho1, ho2, ho3, ho4', ho5, hli, hfi, hwi, hpi, fun q hq => ?_⟩
    have hm : q.1 ∈ RV.map (·.1) := List.mem_map_of_mem hq
    rw [hRV] at hm
    rw [hla]
    exact fun h => (List.nodup_append.mp nd).2.2 q.1 h q.1 hm rfl
  clear nd d1 d2 d3 d4 d5
  refine stageE1 LT b sc e hok' hT hs F h2 h3 N (fun z m s hs F h2 h3 N => ?_)
  refine stageE2 (d := { d' with nn := z }) LT b sc e ⟨hok'.code, hok'.qual, hok'.cell, hok'.nd⟩ ⟨hT.h5, hT.h6, hT.mlv, hT.mfg, hT.mwd, hT.mdp, hT.m1, hT.m2, hT.m3, hT.m4, hT.m5, hT.ho1, hT.ho2, hT.ho3, hT.ho4, hT.ho5, hT.hli, hT.hfi, hT.hwi, hT.hpi, hT.off⟩ hs F h2 h3 (plainG_of hxl S) N (fun z gl gv gn m tm s hs F h2 h3 h4 h5 hgv zg zl N => ?_)
  refine stageF (n := 0) (d := { d' with nn := z }) LT b sc e ⟨hok'.code, hok'.qual, hok'.cell, hok'.nd⟩ ⟨hT.h5, hT.h6, hT.mlv, hT.mfg, hT.mwd, hT.mdp, hT.m1, hT.m2, hT.m3, hT.m4, hT.m5, hT.ho1, hT.ho2, hT.ho3, hT.ho4, hT.ho5, hT.hli, hT.hfi, hT.hwi, hT.hpi, hT.off⟩ hs F h2 h3 hrd h4 h5 hgv zg zl hdr hk (lawText_size h6) (lawText_count _) N (fun d2 k' n' m s hok2 hla2 hs F h2 h3 h4 h5 N => ?_)
  have N := (fun q hq => N q (by
    rcases List.mem_cons.mp hq with rfl | hq
    · exact .head _
    · exact .tail _ (List.mem_append_right _ hq)) : News h₀ L s.heap ((gl, ({ cls := .type "list", data := .seq gv.toArray gn } : Obj)) :: RV))
  refine stageG LT b sc e hok' hT hs F h2 S.mem (fun z hz => (S.top z hz).2.1) (Nat.lt_trans S.m100 (by decide)) h4 h5 N (fun op ov on td m s hs F h2 h4 h5 h6' h7 hov N => ?_)
  have hmk := due_mk S
  have hdep := dep_mk hxl S
  have hsz : (dueR (levR xs) (M + 2)).1.cps.size ≤ 20 := by rw [size_toList, hmk.1]; exact S.mkl
  refine stageH LT b sc e hok' hT hs F h2 hgv hov (by rw [hmk.2]; intro z hz; have := S.odb z hz; rw [hlen2] at this; exact this) (by rw [hmk.2, S.odl]; omega) h4 h5 h6' h7 N (fun m s hs F h2 h4 h7 N => ?_)
  refine stageI LT b sc e hok' hT hs F h2 (Nat.le_trans (show (dueR (levR xs) (M + 2)).1.length ≤ 20 from hsz) (by decide)) (rev_mk S) h4 h7 N (fun m s hs F h2 h4 h7 N => ?_)
  refine stageJ LT b sc e hok' hT hs F h2 (Nat.le_trans (show (dueR (levR xs) (M + 2)).1.length ≤ 20 from hsz) (by decide)) (by omega) hdep.2 h4 h7 N (fun hp hv hn m s hs hhv h8 F h2 h4 h7 N => ?_)
  rw [hdep.1] at hhv
  refine stageK LT b sc e hok' hT hs F h2 hhv S.prs h8 h7 N (fun m s hs F h2 h8 h7 N => ?_)
  refine stageL LT b sc e hT hs F hhv (by have := S.hhl; omega) h2 h8 h7 N (fun sp sv sn m s hs hsi F h2 h9 h7 N => ?_)
  refine stageM LT b sc e hT hs F hsi S.mem (fun z hz => (S.top z hz).2.1) (Nat.lt_trans S.m100 (by decide)) S.stp h2 h9 h7 N (fun m s hs F h2 h9 h7 N => ?_)
  refine stageN LT b sc e hT hs F S.mem (fun z hz => (S.top z hz).2.1) (Nat.lt_trans S.m100 (by decide)) h2 h9 h7 N (fun np nv nn m s hs hni zn F h2 h9 h7 h10 N => ?_)
  refine stageO LT b sc e hT hs F (Nat.lt_trans S.m100 (by decide)) (fun i _ => getD_all (P := fun z => 0 ≤ z ∧ z ≤ (M : Int)) ⟨by decide, by omega⟩ (fun z hz => ⟨(S.top z hz).1, (S.top z hz).2.1⟩) i) hni zn h2 h9 h7 h10 N (fun nv nn m s hs hni F h2 h9 h7 h10 N => ?_)
  have hsl : (stopsR hh).length < 100 := by rw [S.stp, List.length_map, List.length_range]; have := S.m100; omega
  rw [hmk.2] at hov
  exact stageP LT b sc e hT hs F hsi hsl hov (by rw [S.odl]; omega) (by intro z hz; have := S.odb z hz; rw [hlen2] at this; exact this) hni htb hg (read_of hxl hxb S) h2 h9 h7 h10 N
end

-- part ZB
section
theorem fresh_ZB : True := by
  k_with_none
  exact trivial
set_option pp.deepTerms false
theorem ghost_list {h : Heap} {a : Addr} {items : Array Value} (hT : TabsAt [(141, 137)] h) (hL : h.IsList a items) : (ghostOf h [(141, 137)]).IsList a items := by
  obtain ⟨o', ho', hc', n', hd'⟩ := hL
  refine ⟨o', ghost_get hT ho' (fun q => ?_), hc', n', hd'⟩
  rw [q] at hc'
  cases hc'
theorem tt1 : PySem.Challenge.rw_us0006_01.Holds := holds_law Mine.well fun _ => Mine.hd (by
  k_fill
  intro w s₀ s₁ mg mb G Y fa o pm cd doc dV kV ho hd hcd hD hmg hg args vals as hpre hlay hrd hwl hlo
  have KX := km_in_of Y
  km_tabs Y
  have X := (Ground.X G).1
  have V := (Ground.X G).2
  refine Ground.open G ?_
  intro T B D TE TW
  try (refine guard_noD D (by decide +kernel) ?_; clear D)
  km_lay T hmg ho hd cd
  clear hmg
  wrow_args hpre hlay hrd hwl hlo
  first | refine callC_kw (enter_call ?_) | refine enter_call ?_
  w_top on
  refine post_fin hT9 (fun _ => rfl) ?zzpost ?_
  case zzpost => exact law_post _
  w_call any ho hd hcd hD T F
  clear hd
  kn_ghosts F T
  k_drop
  clear Y G hD B TE TW V X
  clear ho lifted
  (rename IntsAre _ _ => hI); (rename Heap.IsList _ _ _ => hL); (rename (¬ (_ : Int) < _) => hcond)
  (rename Fr _ _ _ _ => F5); (rename News _ _ _ _ => N5); (rename Below _ _ _ _ => K5); (rename Top _ _ _ _ _ (ghostOf _ _) => T5); (rename Frag.In _ (ghostOf _ _) => X5)
  rename_i h1 tk1 w5 w4 w3 w2 w1 e5 e4 e3 e2 e1 _ l0
  have LT5 : LawTop w _ _ _ _ _ _ := ⟨⟨X5, topRead_of T5⟩, T5, codeHd, K5⟩
  refine wpAny_mono (Q := LawQ (ghostOf s₁.heap [(141, 137)]) s₁) (E := fun _ _ => False) ?zk ?zq ?ze
  case ze => exact fun _ _ h => h.elim
  case zq => exact fun _ _ h => h
  case zk =>
    refine law_body (w := w) (h₀ := ghostOf s₁.heap [(141, 137)]) (s₁ := s₁) (s := { s₁ with heap := h1, toks := tk1 }) (L := s₁.heap.objs.size) (fa := fa) (cdv := cd) LT5 ⟨rfl, rfl, id⟩ (AllBare.of_eq hg) (ghost_list hT9 hL) hI (by omega) F5 rfl N5 l0 e1 e2 e3 e4 e5 _ _ ?zl
    case zl => rfl)
end
end Mine

theorem PySem.Challenge.cw_us0006_01_holds : PySem.Challenge.rw_us0006_01.Holds := by
  exact Mine.tt1
