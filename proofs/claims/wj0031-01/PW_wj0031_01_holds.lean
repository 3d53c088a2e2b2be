import PyProof.Rows.All
import Wide.All
import OpenK.AllK
import Wide.FinOn
import PySem.Challenge.RW_wj0031_01
open PySem PySem.W PyProof.Rows PySem.Calls PyProof.V
set_option Elab.async false
set_option maxRecDepth 100000
namespace Mine
noncomputable def topT (p : Program) (w : World) (n₀ : Nat) (ann : Option Value) : Nat → SharedT → Thread → Option SharedT
  | 0, _, _ => none
  | n + 1, s, t => match through t with
    | true => some s
    | false => match PySem.W.Fast.tw6613529449190102663 n₀ ann t with
      | false => none
      | true => match PySem.W.Fast.tw10156331382660048174 (PySem.W.Fast.tw11892475500146522536 treeTable) p w s t with
        | some (s', t') => topT p w n₀ ann n s' t'
        | none => none
theorem topT_of {p : Program} {w : World} {n₀ : Nat} {ann : Option Value} (n : Nat) : ∀ {s s' : SharedT} {t : Thread}, topT p w n₀ ann n s t = some s' → topRun treeTable p w n₀ ann n s.abs t = some s'.abs := by
  induction n with
  | zero => intro s s' t h; simp [topT] at h
  | succ n ih =>
    intro s s' t h
    rw [topT, ← PySem.W.Fast.te6613529449190102663, ← PySem.W.Fast.te10156331382660048174, ← PySem.W.Fast.te11892475500146522536] at h
    rw [topRun]
    generalize through t = a at h ⊢
    generalize stepOk n₀ ann t = b at h ⊢
    cases a
    · cases b
      · simp at h
      · rcases q : stepT (denote treeTable) p w s t with _ | ⟨s₂, t₂⟩
        · simp [q] at h
        · rw [stepT_spec q]
          exact ih (by simpa [q] using h)
    · simpa using congrArg (Option.map SharedT.abs) h
noncomputable def boot_tree (P : Params) : BT :=
  .node (boot_o_0 P) (.node (boot_o_1 P) (.node (boot_o_3 P) (.node (boot_o_7 P) .nil .nil) .nil) (.node (boot_o_5 P) (.node (boot_o_9 P) .nil .nil) .nil))
    (.node (boot_o_2 P) (.node (boot_o_4 P) (.node (boot_o_8 P) .nil .nil) .nil) (.node (boot_o_6 P) (.node (boot_o_10 P) .nil .nil) .nil))
theorem boot_is (P : Params) : boot_heap P = absHeap (boot_tree P) 11 (boot_heap P).life := by kernel_rfl
theorem boot_has (P : Params) : ((boot_heap P).isNs mainGlobals && (Array.mk ([] : List GenState)).size == 0, (boot_heap P).objs.size, (boot_heap P).nsMap mainGlobals "__annotations__") = (true, 11, some (.ref 6)) := by kernel_rfl
theorem left_quick {p q : Program} {loose : List Str} {Xt : Shared → Bool} {α : Type} {Yf : Shared → α} {Ya : World → α} {N : Nat} {g0 : Bool} (row : String)
    (e : opening p = plainProg p.main.scope.names) (hN : Nat.ble 600 N = true) (f : ∀ s, fenceModules? p s = some s)
    (h : ∀ (b : Bool) (w : World) (os : OsState), (topT p (w.withFollow row b) 11 (some (.ref 6)) N ⟨boot_tree w.params, 11, (boot_heap w.params).life, Array.mk [], boot_drawn, boot_toks, os⟩ (topStub p)).map (fun s =>
        (staticsOk (importedModules p.main.body) (boot_heap w.params) s.abs.heap && namesBound p s.abs.heap && gensDone s.abs && laidKept (boot_heap w.params) s.abs.heap,
          openSeen q loose (importedModules p.main.body) Xt g0 s.abs, Yf s.abs)) = some (true, openGood q loose, Ya (w.withFollow row b))) : LeftO p q loose Xt Yf Ya N g0 := fun w => by
  have hb := boot_open e hN f w
  generalize hq : fencedOpening treeTable p w N = r at hb
  cases r with
  | none => cases hb
  | some s₀ =>
    obtain ⟨hh, gs, d, k, os⟩ := s₀
    simp only [Option.map_some, Option.some.injEq, Prod.mk.injEq] at hb
    obtain ⟨rfl, rfl, rfl, rfl⟩ := hb
    have hs := boot_has w.params
    simp only [Prod.mk.injEq] at hs
    have hr := h (w.params.followText row) w os
    rw [World.withFollow_self] at hr
    generalize hT : topT p w 11 (some (.ref 6)) N _ _ = o at hr
    cases o with
    | none => cases hr
    | some s =>
      simp only [Option.map_some, Option.some.injEq, Prod.mk.injEq] at hr
      have run := topT_of N hT
      simp only [SharedT.abs, ← boot_is] at run
      have top : topFrom treeTable p w N ⟨boot_heap w.params, Array.mk [], boot_drawn, boot_toks, os⟩ = some s.abs := by
        have g := hr.1
        simp only [SharedT.abs] at g
        simp only [topFrom, hs.1, hs.2.1, hs.2.2, run, Option.bind_some, g, SharedT.abs]
      simp only [openEnds, hq, Option.bind_some, top, Option.map_some]
      exact congrArg some (Prod.ext hr.2.1 hr.2.2)
theorem cutIn {P Q : Prop} (_ : Q) (h : P) : P := h
theorem bothRows {P : Bool → World → OsState → Prop} (hf : ∀ w os, P false w os) (ht : ∀ w os, P true w os) : ∀ b w os, P b w os
  | false => hf
  | true => ht
set_option maxHeartbeats 0
def hd := fun (rowF : _) (rowT : _) (walk : _) => (show PySem.Challenge.rw_wj0031_01.Holds from by
  w_on
  o_law
  refine' cutIn ?hl (cutIn ?hc ?go)
  case go =>
    k_head
    case hw => w_witness2
  case hc => exact walk
  case hl => exact left_quick "special-get-raises" (by kernel_rfl) (by decide) (fun _ => by kernel_rfl) (bothRows rowF rowT))
def hdF := fun (rowT : _) (walk : _) => hd (fun w os => by kernel_rfl) rowT walk
def hdT := fun (walk : _) => hdF (fun w os => by kernel_rfl) walk
end Mine

namespace Mine

noncomputable def TurnEnd (h₀ : Heap) (L : Addr) (J : (Str → Option Value) → List (Addr × Obj) → Prop) (I : Addr) (oI : Obj) (s₁ s₂ : Shared) : Prop :=
  ∃ h' tk m' nx, s₂ = { s₁ with heap := h', toks := tk } ∧ Fr h₀ L h' m' ∧ News h₀ L h' ((I, oI) :: nx) ∧ (∀ p ∈ nx, p.1 ≠ I) ∧ J m' nx
noncomputable def TurnPost (h₀ : Heap) (L : Addr) (J : (Str → Option Value) → List (Addr × Obj) → Prop) (I : Addr) (oI : Obj) (s s₁ : Shared) (Q : Flow → Shared → Prop) (f : Flow) (s₂ : Shared) : Prop :=
  match f with
  | .ret v => ∃ h' tk, s₂ = { s₁ with heap := h', toks := tk } ∧ Q (.ret v) { s with heap := h', toks := tk }
  | .brk => ∃ h' tk, s₂ = { s₁ with heap := h', toks := tk } ∧ Q .next { s with heap := h', toks := tk }
  | _ => TurnEnd h₀ L J I oI s₁ s₂
theorem TurnEnd.intro {h₀ h' : Heap} {L : Addr} {J : (Str → Option Value) → List (Addr × Obj) → Prop} {I : Addr} {oI : Obj} {s₁ : Shared} {m' : Str → Option Value} {nx : List (Addr × Obj)} {tk : Nat}
    (F : Fr h₀ L h' m') (N : News h₀ L h' ((I, oI) :: nx)) (ha : ∀ p ∈ nx, p.1 ≠ I) (hj : J m' nx) : TurnEnd h₀ L J I oI s₁ { s₁ with heap := h', toks := tk } := ⟨h', tk, m', nx, rfl, F, N, ha, hj⟩

theorem frCongr {h₀ h : Heap} {L : Addr} {m m' : Str → Option Value} (F : Fr h₀ L h m) (e : ∀ y, m y = m' y) : Fr h₀ L h m' := (funext e : m = m') ▸ F
theorem pin {h₀ h : Heap} {L : Addr} {m : Str → Option Value} {a : Str} {u : Value} (F : Fr h₀ L h m) (e : m a = some u) : Fr h₀ L h (fun y => if y = a then some u else m y) :=
  frCongr F fun y => by
    by_cases q : y = a
    · rw [if_pos q, q, e]
    · rw [if_neg q]
theorem pinX {h₀ h : Heap} {L : Addr} {m₁ : Str → Option Value} {x a : Str} {v u : Value} (F : Fr h₀ L h (fun y => if y = x then some v else m₁ y)) (e : m₁ a = some u) (n : a ≠ x) : Fr h₀ L h (fun y => if y = x then some v else if y = a then some u else m₁ y) :=
  frCongr F fun y => by
    by_cases q : y = a
    · rw [q, if_neg n, if_neg n, if_pos rfl, e]
    · rw [if_neg q]
theorem pinX2 {h₀ h : Heap} {L : Addr} {m₁ : Str → Option Value} {x a b : Str} {v u u2 : Value} (F : Fr h₀ L h (fun y => if y = x then some v else m₁ y)) (e : m₁ a = some u) (e2 : m₁ b = some u2) (n : a ≠ x) (n2 : b ≠ x) :
    Fr h₀ L h (fun y => if y = x then some v else if y = a then some u else if y = b then some u2 else m₁ y) :=
  frCongr F fun y => by
    by_cases q : y = x
    · rw [if_pos q, if_pos q]
    · rw [if_neg q, if_neg q]
      by_cases q1 : y = a
      · rw [if_pos q1, q1, e]
      · rw [if_neg q1]
        by_cases q2 : y = b
        · rw [if_pos q2, q2, e2]
        · rw [if_neg q2]
theorem allLt_ne {d : Addr} : ∀ {l : List (Addr × Obj)}, AllLt d l → ∀ p ∈ l, p.1 ≠ d
  | [], _ => fun _ h => nomatch h
  | _ :: _, h => fun p hp => by
    rcases List.mem_cons.mp hp with rfl | hp
    · exact Nat.ne_of_lt h.1
    · exact allLt_ne h.2 p hp
theorem lt_ne {d : Addr} {l : List (Addr × Obj)} (h : ∀ p ∈ l, p.1 < d) : ∀ p ∈ l, p.1 ≠ d := fun p hp => Nat.ne_of_lt (h p hp)
noncomputable def AllNe (d : Addr) : List (Addr × Obj) → Prop
  | [] => True
  | p :: r => @Ne Nat d p.1 ∧ AllNe d r
theorem allNe_of {d : Addr} : ∀ {l : List (Addr × Obj)}, (∀ p ∈ l, p.1 ≠ d) → AllNe d l
  | [], _ => trivial
  | p :: _, h => ⟨Ne.symm (h p (.head _)), allNe_of fun q hq => h q (.tail _ hq)⟩
theorem allNe_to {d : Addr} : ∀ {l : List (Addr × Obj)}, AllNe d l → ∀ p ∈ l, p.1 ≠ d
  | [], _ => fun _ h => nomatch h
  | _ :: _, h => fun p hp => by
    rcases List.mem_cons.mp hp with rfl | hp
    · exact Ne.symm h.1
    · exact allNe_to h.2 p hp
theorem allNe_mem {d a : Addr} {o : Obj} : ∀ {l : List (Addr × Obj)}, AllNe d l → (a, o) ∈ l → @Ne Nat d a
  | [], _, h => nomatch h
  | _ :: _, x, h => by
    rcases List.mem_cons.mp h with rfl | h
    · exact x.1
    · exact allNe_mem x.2 h
theorem allLt_mem {d a : Addr} {o : Obj} : ∀ {l : List (Addr × Obj)}, AllLt d l → (a, o) ∈ l → @LT.lt Nat _ a d
  | [], _, h => nomatch h
  | _ :: _, x, h => by
    rcases List.mem_cons.mp h with rfl | h
    · exact x.1
    · exact allLt_mem x.2 h
theorem allLt_trans {D d : Addr} (h : @LT.lt Nat _ D d) : ∀ {l : List (Addr × Obj)}, AllLt D l → AllLt d l
  | [], _ => trivial
  | _ :: _, x => ⟨Nat.lt_trans x.1 h, allLt_trans h x.2⟩
theorem mem_front {a b c d e p : Addr × Obj} {nx tl : List (Addr × Obj)} (hp : p ∈ a :: b :: c :: d :: e :: (nx ++ tl)) : p ∈ e :: (nx ++ (a :: b :: c :: d :: tl)) := by
  simp only [List.mem_cons, List.mem_append] at hp ⊢
  rcases hp with hp | hp | hp | hp | hp | hp | hp <;> simp [hp]
theorem news_off {L : Addr} {l : List (Addr × Obj)} (l1 : ∀ p ∈ l, p.1 < L) (d : Addr) (hd : @LE.le Nat _ L d) : ∀ p ∈ l, p.1 ≠ d := fun p hp e =>
  absurd (Nat.lt_of_lt_of_le (l1 p hp) hd) (e ▸ Nat.lt_irrefl _)
theorem look1 {y a : Str} {v : Value} : List.lookup y [(a, v)] = if y = a then some v else none := by
  rw [List.lookup_cons]
  by_cases h : y = a
  · simp [h]
  · rw [beq_eq_false_iff_ne.mpr h, if_neg h]; rfl
theorem look2 {y a b : Str} {v u : Value} : List.lookup y [(a, v), (b, u)] = if y = a then some v else if y = b then some u else none := by
  rw [List.lookup_cons, look1]
  by_cases h : y = a
  · simp [h]
  · rw [beq_eq_false_iff_ne.mpr h, if_neg h]
section
variable {prog : Program} {w : World} {A : Around} {E : Value → Shared → Prop} {s : Shared} {env : Env} {h₀ : Heap} {x : Str} {body : List Stmt} {Q : Flow → Shared → Prop}

theorem loopX {I : Addr} {fp : List Addr} {n : Nat} {P : Nat → Value → Prop} {St : Nat → Heap → Prop} {m₀ : Str → Option Value} {news : List (Addr × Obj)} (J : Nat → (Str → Option Value) → List (Addr × Obj) → Prop)
    (W : Walks prog w A I fp [I] n P St) (hI : h₀.get? I = none) (hIL : env.locals ≠ I) (hLf : env.locals ∉ fp) (hIo : ∀ i h, St i h → ∃ o, h.get? I = some o)
    (hfp : ∀ b ∈ fp, b = I ∨ (∃ o, h₀.get? b = some o) ∨ ∃ o, ∀ i m nx, J i m nx → (b, o) ∈ nx)
    (hst : St 0 s.heap) (F : Fr h₀ env.locals s.heap m₀) (N : News h₀ env.locals s.heap news) (hn : ∀ p ∈ news, p.1 ≠ I) (hj : J 0 m₀ news)
    (turn : ∀ i v m₁ nx oI (sT : Shared) (QT : Flow → Shared → Prop), i < n → P i v → J i m₁ nx → (∀ p ∈ nx, p.1 ≠ I) → Fr h₀ env.locals sT.heap (fun y => if y = x then some v else m₁ y) → News h₀ env.locals sT.heap ((I, oI) :: nx) →
      (∀ f s₂, TurnPost h₀ env.locals (J (i + 1)) I oI s sT Q f s₂ → QT f s₂) →
      wpAny (model prog w) A (execs body env) QT E sT)
    (done : ∀ m₁ nx h tk, J n m₁ nx → Fr h₀ env.locals h m₁ → News h₀ env.locals h nx → Q .next { s with heap := h, toks := tk }) :
    LoopAtV prog w A h₀ env x body Q E (.ref I) s := by
  refine ⟨I, fp, [I], n, P, St, m₀, news, J, rfl, W, hLf, ?_, ?_, hst, F, N, hj, ?_, ?_⟩
  · intro b hb; rw [List.mem_singleton.mp hb]; exact hI
  · intro p hp hq; exact hn p hp (List.mem_singleton.mp hq)
  · rintro i v m₁ nx s₁ own ⟨hh', tk', rfl⟩ hin hP hJ hoff hown hget hall hst' F₁ N₁
    obtain ⟨oI, hoI⟩ := hIo _ _ hst'
    have hIfp : I ∈ fp := W.sub I (List.mem_singleton.mpr rfl)
    have hoff' : ∀ p ∈ nx, p.1 ≠ I := fun p hp e => hoff p hp (List.mem_singleton.mpr e)
    have N₂ : News h₀ env.locals hh' ((I, oI) :: nx) := by
      intro p hp
      rcases List.mem_cons.mp hp with rfl | hp
      · exact ⟨hoI, fun e => hIL e.symm, hI⟩
      · exact N₁ p (List.mem_append_right _ hp)
    refine wpAny_mono (turn i v m₁ nx oI { s with heap := hh', toks := tk' } _ hin hP hJ hoff' F₁ N₂ fun _ _ z => z) (fun f s₂ q => ?_) fun _ _ e => e
    have fin : TurnEnd h₀ env.locals (J (i + 1)) I oI { s with heap := hh', toks := tk' } s₂ → LoopStepU h₀ env.locals [I] own (J (i + 1)) { s with heap := hh', toks := tk' } .next s₂ := by
      rintro ⟨h', tk, m', nx', e, F', N', ha, hJ'⟩
      refine ⟨rfl, h', tk, m', nx', e, F', ?_, fun p hp hq => ha p hp (List.mem_singleton.mp hq), hJ'⟩
      intro p hp
      rcases List.mem_append.mp hp with hp | hp
      · have hg := hget p hp
        rcases hfp p.1 (hown p hp) with e1 | ⟨o, e1⟩ | ⟨o, e1⟩
        · have : p = (I, oI) := by
            have : p.2 = oI := by rw [e1] at hg; exact Option.some.inj (hg.symm.trans hoI)
            exact Prod.ext e1 this
          rw [this]; exact N' _ (.head _)
        · have := (N₁ p (List.mem_append_left _ hp)).2.2
          rw [e1] at this; cases this
        · have h1 := (N₁ _ (List.mem_append_right _ (e1 i m₁ nx hJ))).1
          have : p = (p.1, o) := Prod.ext rfl (Option.some.inj (hg.symm.trans h1))
          rw [this]; exact N' _ (.tail _ (e1 _ _ _ hJ'))
      · exact N' p (.tail _ hp)
    cases f with
    | ret v =>
      obtain ⟨_, _, rfl, q⟩ := q
      exact .ret q
    | brk =>
      obtain ⟨_, _, rfl, q⟩ := q
      exact .brk q
    | next => exact .next (fin q)
    | cont => exact .cont (fin q)
  · rintro h' tk m' nx' F' N' _ hJ
    exact done m' nx' h' tk hJ F' N'

theorem fresh_ne {h : Heap} {L : Addr} {news : List (Addr × Obj)} (N : News h₀ L h news) : ∀ p ∈ news, p.1 ≠ h.objs.size := fun p hp => Nat.ne_of_lt (Heap.lt_size (N p hp).1)

/-- range by ones -/
theorem for_range {r : Addr} {a₀ b₀ : Int} {t₀ u₀ v₀ : Tok} {n : Nat} {m₀ : Str → Option Value} {news : List (Addr × Obj)} (J : Nat → (Str → Option Value) → List (Addr × Obj) → Prop)
    (hh : A.handled = none) (hr : IsRange s.heap r a₀ b₀ 1 t₀ u₀ v₀) (hsmall : Builtin.Range.small a₀ b₀ 1 = true) (hn : Builtin.Range.rangeSize a₀ b₀ 1 = (n : Int)) (F : Fr h₀ env.locals s.heap m₀) (N : News h₀ env.locals s.heap news) (hj : J 0 m₀ news)
    (turn : ∀ (i : Nat) t m₁ nx I oI (sT : Shared) (QT : Flow → Shared → Prop), i < n → J i m₁ nx → (∀ p ∈ nx, p.1 ≠ I) → Fr h₀ env.locals sT.heap (fun y => if y = x then some (.int (a₀ + (i : Int)) t) else m₁ y) → News h₀ env.locals sT.heap ((I, oI) :: nx) →
      (∀ f s₂, TurnPost h₀ env.locals (J (i + 1)) I oI s sT Q f s₂ → QT f s₂) →
      wpAny (model prog w) A (execs body env) QT E sT)
    (done : ∀ m₁ nx h tk, J n m₁ nx → Fr h₀ env.locals h m₁ → News h₀ env.locals h nx → Q .next { s with heap := h, toks := tk }) :
    wpAny (model prog w) A (pyIter (.ref r)) (fun it s₂ => LoopAtV prog w A h₀ env x body Q E it s₂) E s := by
  refine wpAny_pyIter_range hr hsmall ?_
  have W : Walks prog w A s.heap.objs.size [s.heap.objs.size] [s.heap.objs.size] n (fun i v => i < n ∧ ∃ t, v = .int (a₀ + i * 1) t)
      (fun i h => IsRangeIter h s.heap.objs.size (a₀ + (i : Nat) * 1) ((n : Int) - (i : Nat)) 1) := (Walks.range hh _ a₀ 1 n).bound
  have hL : env.locals ≠ s.heap.objs.size := fun e => absurd F.ns.lt (e ▸ Nat.lt_irrefl _)
  refine loopX J W (next_is_new F) hL (fun h => hL (List.mem_singleton.mp h)) (fun i h st => ⟨_, st⟩) (fun b hb => .inl (List.mem_singleton.mp hb))
    (by show IsRangeIter _ _ _ _ _; rw [hn]; simpa using Heap.get?_push_size _ rfl) (F.push _) (fun p hp => ⟨Heap.get?_push_of_some _ (N p hp).1, (N p hp).2⟩) (fun p hp => Nat.ne_of_lt (Heap.lt_size (N p hp).1)) hj ?_ ?_
  · rintro i v m₁ nx oI sT QT hi ⟨_, t, rfl⟩ hJ hoff F₁ N₁ hQ
    have e1 : a₀ + (i : Int) * 1 = a₀ + (i : Int) := by omega
    rw [e1] at F₁
    exact turn i t m₁ nx _ oI sT QT hi hJ hoff F₁ N₁ hQ
  · exact done

/-- a list of ints of the ledger -/
theorem for_list {l : Addr} {vs : List Value} {ns : List Int} {nn : Nat} {m₀ : Str → Option Value} {news : List (Addr × Obj)} (J : Nat → (Str → Option Value) → List (Addr × Obj) → Prop)
    (hh : A.handled = none) (hl : ∀ i m nx, J i m nx → (l, W.listOf vs.toArray nn) ∈ nx) (hi : IntsAre vs ns) (F : Fr h₀ env.locals s.heap m₀) (N : News h₀ env.locals s.heap news) (hj : J 0 m₀ news)
    (turn : ∀ (i : Nat) n t m₁ nx I oI (sT : Shared) (QT : Flow → Shared → Prop), ns[i]? = some n → J i m₁ nx → (∀ p ∈ nx, p.1 ≠ I) → Fr h₀ env.locals sT.heap (fun y => if y = x then some (.int n t) else m₁ y) → News h₀ env.locals sT.heap ((I, oI) :: nx) →
      (∀ f s₂, TurnPost h₀ env.locals (J (i + 1)) I oI s sT Q f s₂ → QT f s₂) →
      wpAny (model prog w) A (execs body env) QT E sT)
    (done : ∀ m₁ nx h tk, J ns.length m₁ nx → Fr h₀ env.locals h m₁ → News h₀ env.locals h nx → Q .next { s with heap := h, toks := tk }) :
    wpAny (model prog w) A (pyIter (.ref l)) (fun it s₂ => LoopAtV prog w A h₀ env x body Q E it s₂) E s := by
  have hm := hl _ _ _ hj
  have hls : s.heap.IsList l vs.toArray := ⟨_, (N _ hm).1, rfl, _, rfl⟩
  have hne : l ≠ s.heap.objs.size := Nat.ne_of_lt (Heap.lt_size (N _ hm).1)
  refine wpAny_pyIter_list hls ?_
  have W := Walks.list (prog := prog) (w := w) hh s.heap.objs.size l hne vs.toArray
  have hlen : vs.toArray.size = ns.length := by simp [hi.length]
  rw [hlen] at W
  have hL : env.locals ≠ s.heap.objs.size := fun e => absurd F.ns.lt (e ▸ Nat.lt_irrefl _)
  refine loopX J W (next_is_new F) hL ?_ (fun i h st => let ⟨o, ho, _⟩ := st.1; ⟨o, ho⟩) ?_
    ⟨⟨_, Heap.get?_push_size _ rfl, rfl, rfl⟩, hls.at fun o e => Heap.get?_push_of_some _ e⟩ (F.push _) (fun p hp => ⟨Heap.get?_push_of_some _ (N p hp).1, (N p hp).2⟩) (fun p hp => Nat.ne_of_lt (Heap.lt_size (N p hp).1)) hj ?_ done
  · intro h
    rcases List.mem_cons.mp h with e | h
    · exact hL e
    · exact (N _ hm).2.1 (List.mem_singleton.mp h).symm
  · intro b hb
    rcases List.mem_cons.mp hb with e | hb
    · exact .inl e
    · rw [List.mem_singleton.mp hb]; exact .inr (.inr ⟨_, hl⟩)
  · rintro i v m₁ nx oI sT QT hi' hv hJ hoff F₁ N₁ hQ
    obtain ⟨n, t, e, hk⟩ := IntsAre.at hi i v (by simpa using hv)
    subst e
    exact turn i n t m₁ nx _ oI sT QT hk hJ hoff F₁ N₁ hQ

/-- the keys of a dict of the ledger -/
theorem for_dict {d : Addr} {od : Obj} {kvs : List (Int × Value)} {m₀ : Str → Option Value} {news : List (Addr × Obj)} (J : Nat → (Str → Option Value) → List (Addr × Obj) → Prop)
    (hh : A.handled = none) (lo : (d == sysModules) = false) (hl : ∀ i m nx, J i m nx → (d, od) ∈ nx) (hd : od.IsDictOf (PySem.intKind prog w) kvs) (F : Fr h₀ env.locals s.heap m₀) (N : News h₀ env.locals s.heap news) (hj : J 0 m₀ news)
    (turn : ∀ (i : Nat) k v t m₁ nx I oI (sT : Shared) (QT : Flow → Shared → Prop), kvs[i]? = some (k, v) → J i m₁ nx → (∀ p ∈ nx, p.1 ≠ I) → Fr h₀ env.locals sT.heap (fun y => if y = x then some (.int k t) else m₁ y) → News h₀ env.locals sT.heap ((I, oI) :: nx) →
      (∀ f s₂, TurnPost h₀ env.locals (J (i + 1)) I oI s sT Q f s₂ → QT f s₂) →
      wpAny (model prog w) A (execs body env) QT E sT)
    (done : ∀ m₁ nx h tk, J kvs.length m₁ nx → Fr h₀ env.locals h m₁ → News h₀ env.locals h nx → Q .next { s with heap := h, toks := tk }) :
    wpAny (model prog w) A (pyIter (.ref d)) (fun it s₂ => LoopAtV prog w A h₀ env x body Q E it s₂) E s := by
  have hm := hl _ _ _ hj
  have hdo : s.heap.DictOf (PySem.intKind prog w) d kvs := Heap.dictOf_iff.mpr ⟨od, (N _ hm).1, hd⟩
  obtain ⟨ep, hat⟩ := hdo.dictAt
  have hne : d ≠ s.heap.objs.size := Nat.ne_of_lt hat.lt_size
  refine wpAny_pyIter_dict lo hat ?_
  have hL : env.locals ≠ s.heap.objs.size := fun e => absurd F.ns.lt (e ▸ Nat.lt_irrefl _)
  refine loopX J (Walks.dictKeys (knd := PySem.intKind prog w) hh _ d hne kvs ep) (next_is_new F) hL ?_ (fun i h st => let ⟨o, ho, _⟩ := st.1; ⟨o, ho⟩) ?_
    ⟨⟨_, Heap.get?_push_size _ rfl, rfl, rfl⟩, hat.push _⟩ (F.push _) (fun p hp => ⟨Heap.get?_push_of_some _ (N p hp).1, (N p hp).2⟩) (fun p hp => Nat.ne_of_lt (Heap.lt_size (N p hp).1)) hj ?_ done
  · intro h
    rcases List.mem_cons.mp h with e | h
    · exact hL e
    · exact (N _ hm).2.1 (List.mem_singleton.mp h).symm
  · intro b hb
    rcases List.mem_cons.mp hb with e | hb
    · exact .inl e
    · rw [List.mem_singleton.mp hb]; exact .inr (.inr ⟨_, hl⟩)
  · rintro i v m₁ nx oI sT QT hi' ⟨k, y, hx, hv⟩ hJ hoff F₁ N₁ hQ
    obtain ⟨t, rfl⟩ := PySem.Value.isInt_shape hv
    exact turn i k y t m₁ nx _ oI sT QT hx hJ hoff F₁ N₁ hQ

/-- the signs of a text -/
theorem for_str {z : Str} {t : Tok} {m₀ : Str → Option Value} {news : List (Addr × Obj)} (J : Nat → (Str → Option Value) → List (Addr × Obj) → Prop)
    (hh : A.handled = none) (F : Fr h₀ env.locals s.heap m₀) (N : News h₀ env.locals s.heap news) (hj : J 0 m₀ news)
    (turn : ∀ (i : Nat) c t m₁ nx I oI (sT : Shared) (QT : Flow → Shared → Prop), z.cps[i]? = some c → J i m₁ nx → (∀ p ∈ nx, p.1 ≠ I) → Fr h₀ env.locals sT.heap (fun y => if y = x then some (.str ⟨#[c]⟩ t) else m₁ y) → News h₀ env.locals sT.heap ((I, oI) :: nx) →
      (∀ f s₂, TurnPost h₀ env.locals (J (i + 1)) I oI s sT Q f s₂ → QT f s₂) →
      wpAny (model prog w) A (execs body env) QT E sT)
    (done : ∀ m₁ nx h tk, J z.cps.size m₁ nx → Fr h₀ env.locals h m₁ → News h₀ env.locals h nx → Q .next { s with heap := h, toks := tk }) :
    wpAny (model prog w) A (pyIter (.str z t)) (fun it s₂ => LoopAtV prog w A h₀ env x body Q E it s₂) E s := by
  have hL : env.locals ≠ s.heap.objs.size := fun e => absurd F.ns.lt (e ▸ Nat.lt_irrefl _)
  have main : ∀ (c : String) (W : Walks prog w A s.heap.objs.size [s.heap.objs.size] [s.heap.objs.size] z.cps.size (SignAt z) (fun i h => h.IsStrIter s.heap.objs.size c z t i)) (o : Obj), (s.heap.push o).IsStrIter s.heap.objs.size c z t 0 →
      LoopAtV prog w A h₀ env x body Q E (.ref s.heap.objs.size) { s with heap := s.heap.push o } := by
    intro c W o hst
    refine loopX J W (next_is_new F) hL (fun h => hL (List.mem_singleton.mp h)) (fun i h st => let ⟨o, ho, _⟩ := st; ⟨o, ho⟩) (fun b hb => .inl (List.mem_singleton.mp hb)) hst (F.push _) (fun p hp => ⟨Heap.get?_push_of_some _ (N p hp).1, (N p hp).2⟩) (fun p hp => Nat.ne_of_lt (Heap.lt_size (N p hp).1)) hj ?_ done
    rintro i v m₁ nx oI sT QT hi' ⟨c, u, hc, rfl⟩ hJ hoff F₁ N₁ hQ
    exact turn i c u m₁ nx _ oI sT QT hc hJ hoff F₁ N₁ hQ
  cases ha : z.cps.all (· < 128)
  · exact wpAny_pyIter_wide ha (main _ (Walks.strWide hh _ z t) _ ⟨_, Heap.get?_push_size _ rfl, rfl, rfl⟩)
  · exact wpAny_pyIter_ascii ha (main _ (Walks.strAscii hh _ z t) _ ⟨_, Heap.get?_push_size _ rfl, rfl, rfl⟩)

/-- a for over a range with an else that is never reached -/
theorem forElse_range {px pos : Pos} {iter : Expr} {orelse : List Stmt} {a₀ b₀ : Int} {n : Nat} {m₀ : Str → Option Value} {news : List (Addr × Obj)} (J : Nat → (Str → Option Value) → List (Addr × Obj) → Prop)
    (_F : Fr h₀ env.locals s.heap m₀) (_N : News h₀ env.locals s.heap news) (hh : A.handled = none) (hx : env.kindOf x = some .local)
    (hp : (env.scope.kind == .class || (env.scope.kind == .module && env.locals != env.globals)) = false)
    (h : wpAny (model prog w) A (eval iter env) (fun xv s₁ => ∃ r t₀ u₀ v₀ H tk, xv = .ref r ∧ s₁ = { s with heap := H, toks := tk } ∧ IsRange s₁.heap r a₀ b₀ 1 t₀ u₀ v₀ ∧ Fr h₀ env.locals s₁.heap m₀ ∧ News h₀ env.locals s₁.heap news) E s)
    (hsmall : Builtin.Range.small a₀ b₀ 1 = true) (hn : Builtin.Range.rangeSize a₀ b₀ 1 = (n : Int)) (hj : J 0 m₀ news)
    (turn : ∀ (i : Nat) t m₁ nx I oI (sT : Shared) (QT : Flow → Shared → Prop), i < n → J i m₁ nx → (∀ p ∈ nx, p.1 ≠ I) → Fr h₀ env.locals sT.heap (fun y => if y = x then some (.int (a₀ + (i : Int)) t) else m₁ y) → News h₀ env.locals sT.heap ((I, oI) :: nx) →
      (∀ f s₂, TurnPost h₀ env.locals (J (i + 1)) I oI s sT Q f s₂ → QT f s₂) →
      wpAny (model prog w) A (execs body env) QT E sT)
    (never : ∀ m₁ nx, ¬ J n m₁ nx)
    (hs : ∀ x, foldedSetIterable iter env x = pure x := by intro _; rfl)
    (hE : PassesOwn (model prog w) A env E := by passes_own) :
    wpAny (model prog w) A (exec (.For (.Name x px) iter body orelse pos) env) Q E s := by
  refine wpAny_For (wpAny_mono h (fun xv s₁ h₁ => ?_) fun _ _ e => e) hs
  obtain ⟨r, t₀, u₀, v₀, H, tk, rfl, rfl, hr, F, N⟩ := h₁
  refine wpAny_pyIter_range hr hsmall ?_
  have W : Walks prog w A H.objs.size [H.objs.size] [H.objs.size] n (fun i v => i < n ∧ ∃ t, v = .int (a₀ + i * 1) t)
      (fun i h => IsRangeIter h H.objs.size (a₀ + (i : Nat) * 1) ((n : Int) - (i : Nat)) 1) := (Walks.range hh _ a₀ 1 n).bound
  have hL : env.locals ≠ H.objs.size := fun e => absurd F.ns.lt (e ▸ Nat.lt_irrefl _)
  have hI : h₀.get? H.objs.size = none := next_is_new F
  dsimp only
  generalize hIe : H.objs.size = I at W hL hI ⊢
  refine codeAny_forLoop (R := fun r s' => match r with | .ok f => Q f s' | .error e => cameBackBy (model prog w) A env E e s')
    (fun k s' => ∃ h' tk m' nx i, s' = { s with heap := h', toks := tk } ∧ IsRangeIter h' I (a₀ + (i : Nat) * 1) ((n : Int) - (i : Nat)) 1 ∧ Fr h₀ env.locals h' m' ∧ News h₀ env.locals h' nx ∧ (∀ p ∈ nx, p.1 ≠ I) ∧ J i m' nx ∧ i ≤ n ∧ k = n + 1 - i) ?_ (n + 1)
    ⟨_, tk, m₀, news, 0, rfl, ?_, F.push _, (fun p hp => ⟨Heap.get?_push_of_some _ (N p hp).1, (N p hp).2⟩), (fun p hp => hIe ▸ Nat.ne_of_lt (Heap.lt_size (N p hp).1)), hj, Nat.zero_le _, rfl⟩
  · rintro k s' ⟨h', tk, m', nx, i, rfl, hst', F', N', hoff, hJ, hi, rfl⟩
    have old : ∀ b o, h₀.get? b = some o → b ≠ I := fun b o e q => by rw [q, hI] at e; cases e
    have next : ∀ h₁ : Heap, (∀ b o, b ∉ [I] → h'.get? b = some o → h₁.get? b = some o) → Fr h₀ env.locals h₁ m' ∧ News h₀ env.locals h₁ nx := fun h₁ hk₁ =>
      ⟨⟨F'.ns.at' fun o e => hk₁ _ o (fun q => hL (List.mem_singleton.mp q)) e, fun b o e => hk₁ b o (fun q => old b o e (List.mem_singleton.mp q)) (F'.keep b o e), F'.above⟩,
        fun p hp => ⟨hk₁ _ _ (fun q => hoff p hp (List.mem_singleton.mp q)) (N' p hp).1, (N' p hp).2⟩⟩
    by_cases hlt : i < n
    · refine W.item i _ _ _ hlt hst' fun v h₁ tk₁ hP hst₁ hk₁ => ?_
      obtain ⟨F₁, N₁⟩ := next h₁ hk₁
      obtain ⟨_, t, rfl⟩ := hP
      refine wpAny_assign_Name (wpAny_storeName_local hx F₁.ns (fun h₂ hn₂ hs₂ => ?_) hp)
      have F₂ := F₁.set hn₂ hs₂
      have hst₂ : h₂.get? I = h₁.get? I := hs₂.2 I (Ne.symm hL)
      obtain ⟨oI, hoI⟩ : ∃ o, h₁.get? I = some o := ⟨_, hst₁⟩
      have N₂ : News h₀ env.locals h₂ ((I, oI) :: nx) := by
        intro p hp
        rcases List.mem_cons.mp hp with rfl | hp
        · exact ⟨hst₂.trans hoI, Ne.symm hL, hI⟩
        · exact (N₁.set hs₂) p hp
      have e1 : a₀ + (i : Int) * 1 = a₀ + (i : Int) := by omega
      rw [e1] at F₂
      refine wpAny_mono (wpAny_passesOwn hE (turn i t m' nx I oI _ _ hlt hJ hoff F₂ N₂ fun _ _ z => z)) (fun f s₃ h₃ => ?_) fun _ _ e => e
      have fin : TurnEnd h₀ env.locals (J (i + 1)) I oI { s with heap := h₂, toks := tk₁ + 1 } s₃ → ∃ m_1, m_1 < n + 1 - i ∧ ∃ h' tk m' nx i_1, s₃ = { s with heap := h', toks := tk } ∧ IsRangeIter h' I (a₀ + (i_1 : Nat) * 1) ((n : Int) - (i_1 : Nat)) 1 ∧ Fr h₀ env.locals h' m' ∧ News h₀ env.locals h' nx ∧ (∀ p ∈ nx, p.1 ≠ I) ∧ J i_1 m' nx ∧ i_1 ≤ n ∧ m_1 = n + 1 - i_1 := by
        rintro ⟨h₃', tk₃, m₂, nx₂, rfl, F₃, N₃, ha₃, hJ₃⟩
        refine ⟨n + 1 - (i + 1), by omega, h₃', tk₃, m₂, nx₂, i + 1, rfl, ?_, F₃, (fun p hp => N₃ p (.tail _ hp)), ha₃, hJ₃, hlt, rfl⟩
        have q1 := (N₃ _ (.head _)).1
        have q2 : some oI = _ := hoI.symm.trans hst₁
        cases q2
        exact q1
      cases f with
      | ret v =>
        obtain ⟨_, _, rfl, h₃⟩ := h₃
        exact h₃
      | brk =>
        obtain ⟨_, _, rfl, h₃⟩ := h₃
        exact h₃
      | next => exact fin h₃
      | cont => exact fin h₃
    · have hin : i = n := by omega
      subst hin
      exact absurd hJ (never _ _)
  · show IsRangeIter _ _ _ _ _
    rw [hn, ← hIe]
    simpa using Heap.get?_push_size _ rfl

theorem forRange {px pos : Pos} {iter : Expr} {a₀ b₀ : Int} {n : Nat} {m₀ : Str → Option Value} {news : List (Addr × Obj)} (J : Nat → (Str → Option Value) → List (Addr × Obj) → Prop)
    (_F : Fr h₀ env.locals s.heap m₀) (_N : News h₀ env.locals s.heap news) (hh : A.handled = none) (hx : env.kindOf x = some .local)
    (hp : (env.scope.kind == .class || (env.scope.kind == .module && env.locals != env.globals)) = false)
    (h : wpAny (model prog w) A (eval iter env) (fun xv s₁ => ∃ r t₀ u₀ v₀ H tk, xv = .ref r ∧ s₁ = { s with heap := H, toks := tk } ∧ IsRange s₁.heap r a₀ b₀ 1 t₀ u₀ v₀ ∧ Fr h₀ env.locals s₁.heap m₀ ∧ News h₀ env.locals s₁.heap news) E s)
    (hsmall : Builtin.Range.small a₀ b₀ 1 = true) (hn : Builtin.Range.rangeSize a₀ b₀ 1 = (n : Int)) (hj : J 0 m₀ news)
    (turn : ∀ (i : Nat) t m₁ nx I oI (sT : Shared) (QT : Flow → Shared → Prop), i < n → J i m₁ nx → (∀ p ∈ nx, p.1 ≠ I) → Fr h₀ env.locals sT.heap (fun y => if y = x then some (.int (a₀ + (i : Int)) t) else m₁ y) → News h₀ env.locals sT.heap ((I, oI) :: nx) →
      (∀ f s₂, TurnPost h₀ env.locals (J (i + 1)) I oI s sT Q f s₂ → QT f s₂) →
      wpAny (model prog w) A (execs body env) QT E sT)
    (done : ∀ m₁ nx h tk, J n m₁ nx → Fr h₀ env.locals h m₁ → News h₀ env.locals h nx → Q .next { s with heap := h, toks := tk })
    (hs : ∀ x, foldedSetIterable iter env x = pure x := by intro _; rfl)
    (hE : PassesOwn (model prog w) A env E := by passes_own) :
    wpAny (model prog w) A (exec (.For (.Name x px) iter body [] pos) env) Q E s := by
  refine For_invV h₀ hx hp (wpAny_mono h (fun xv s₁ h₁ => ?_) fun _ _ e => e) hs hE
  obtain ⟨r, t₀, u₀, v₀, H, tk, rfl, rfl, hr, F, N⟩ := h₁
  exact for_range J hh hr hsmall hn F N hj turn done

theorem forList {px pos : Pos} {iter : Expr} {l : Addr} {vs : List Value} {ns : List Int} {nn : Nat} {m₀ : Str → Option Value} {news : List (Addr × Obj)} (J : Nat → (Str → Option Value) → List (Addr × Obj) → Prop)
    (hh : A.handled = none) (hx : env.kindOf x = some .local)
    (hp : (env.scope.kind == .class || (env.scope.kind == .module && env.locals != env.globals)) = false)
    (hi : IntsAre vs ns)
    (h : wpAny (model prog w) A (eval iter env) (fun xv s₁ => ∃ H tk, xv = .ref l ∧ s₁ = { s with heap := H, toks := tk } ∧ Fr h₀ env.locals s₁.heap m₀ ∧ News h₀ env.locals s₁.heap news) E s)
    (hl : ∀ i m nx, J i m nx → (l, W.listOf vs.toArray nn) ∈ nx) (hj : J 0 m₀ news)
    (turn : ∀ (i : Nat) n t m₁ nx I oI (sT : Shared) (QT : Flow → Shared → Prop), ns[i]? = some n → J i m₁ nx → (∀ p ∈ nx, p.1 ≠ I) → Fr h₀ env.locals sT.heap (fun y => if y = x then some (.int n t) else m₁ y) → News h₀ env.locals sT.heap ((I, oI) :: nx) →
      (∀ f s₂, TurnPost h₀ env.locals (J (i + 1)) I oI s sT Q f s₂ → QT f s₂) →
      wpAny (model prog w) A (execs body env) QT E sT)
    (done : ∀ m₁ nx h tk, J ns.length m₁ nx → Fr h₀ env.locals h m₁ → News h₀ env.locals h nx → Q .next { s with heap := h, toks := tk })
    (hs : ∀ x, foldedSetIterable iter env x = pure x := by intro _; rfl)
    (hE : PassesOwn (model prog w) A env E := by passes_own) :
    wpAny (model prog w) A (exec (.For (.Name x px) iter body [] pos) env) Q E s := by
  refine For_invV h₀ hx hp (wpAny_mono h (fun xv s₁ h₁ => ?_) fun _ _ e => e) hs hE
  obtain ⟨H, tk, rfl, rfl, F, N⟩ := h₁
  exact for_list J hh hl hi F N hj turn done

theorem forDict {px pos : Pos} {iter : Expr} {d : Addr} {od : Obj} {kvs : List (Int × Value)} {m₀ : Str → Option Value} {news : List (Addr × Obj)} (J : Nat → (Str → Option Value) → List (Addr × Obj) → Prop)
    (hh : A.handled = none) (hx : env.kindOf x = some .local)
    (hp : (env.scope.kind == .class || (env.scope.kind == .module && env.locals != env.globals)) = false)
    (lo : (d == sysModules) = false) (hd : od.IsDictOf (PySem.intKind prog w) kvs)
    (h : wpAny (model prog w) A (eval iter env) (fun xv s₁ => ∃ H tk, xv = .ref d ∧ s₁ = { s with heap := H, toks := tk } ∧ Fr h₀ env.locals s₁.heap m₀ ∧ News h₀ env.locals s₁.heap news) E s)
    (hl : ∀ i m nx, J i m nx → (d, od) ∈ nx) (hj : J 0 m₀ news)
    (turn : ∀ (i : Nat) k v t m₁ nx I oI (sT : Shared) (QT : Flow → Shared → Prop), kvs[i]? = some (k, v) → J i m₁ nx → (∀ p ∈ nx, p.1 ≠ I) → Fr h₀ env.locals sT.heap (fun y => if y = x then some (.int k t) else m₁ y) → News h₀ env.locals sT.heap ((I, oI) :: nx) →
      (∀ f s₂, TurnPost h₀ env.locals (J (i + 1)) I oI s sT Q f s₂ → QT f s₂) →
      wpAny (model prog w) A (execs body env) QT E sT)
    (done : ∀ m₁ nx h tk, J kvs.length m₁ nx → Fr h₀ env.locals h m₁ → News h₀ env.locals h nx → Q .next { s with heap := h, toks := tk })
    (hs : ∀ x, foldedSetIterable iter env x = pure x := by intro _; rfl)
    (hE : PassesOwn (model prog w) A env E := by passes_own) :
    wpAny (model prog w) A (exec (.For (.Name x px) iter body [] pos) env) Q E s := by
  refine For_invV h₀ hx hp (wpAny_mono h (fun xv s₁ h₁ => ?_) fun _ _ e => e) hs hE
  obtain ⟨H, tk, rfl, rfl, F, N⟩ := h₁
  exact for_dict J hh lo hl hd F N hj turn done

theorem forStr {px pos : Pos} {iter : Expr} {z : Str} {m₀ : Str → Option Value} {news : List (Addr × Obj)} (J : Nat → (Str → Option Value) → List (Addr × Obj) → Prop)
    (hh : A.handled = none) (hx : env.kindOf x = some .local)
    (hp : (env.scope.kind == .class || (env.scope.kind == .module && env.locals != env.globals)) = false)
    (h : wpAny (model prog w) A (eval iter env) (fun xv s₁ => ∃ H tk t, xv = .str z t ∧ s₁ = { s with heap := H, toks := tk } ∧ Fr h₀ env.locals s₁.heap m₀ ∧ News h₀ env.locals s₁.heap news) E s)
    (hj : J 0 m₀ news)
    (turn : ∀ (i : Nat) c t m₁ nx I oI (sT : Shared) (QT : Flow → Shared → Prop), z.cps[i]? = some c → J i m₁ nx → (∀ p ∈ nx, p.1 ≠ I) → Fr h₀ env.locals sT.heap (fun y => if y = x then some (.str ⟨#[c]⟩ t) else m₁ y) → News h₀ env.locals sT.heap ((I, oI) :: nx) →
      (∀ f s₂, TurnPost h₀ env.locals (J (i + 1)) I oI s sT Q f s₂ → QT f s₂) →
      wpAny (model prog w) A (execs body env) QT E sT)
    (done : ∀ m₁ nx h tk, J z.cps.size m₁ nx → Fr h₀ env.locals h m₁ → News h₀ env.locals h nx → Q .next { s with heap := h, toks := tk })
    (hs : ∀ x, foldedSetIterable iter env x = pure x := by intro _; rfl)
    (hE : PassesOwn (model prog w) A env E := by passes_own) :
    wpAny (model prog w) A (exec (.For (.Name x px) iter body [] pos) env) Q E s := by
  refine For_invV h₀ hx hp (wpAny_mono h (fun xv s₁ h₁ => ?_) fun _ _ e => e) hs hE
  obtain ⟨H, tk, t, rfl, rfl, F, N⟩ := h₁
  exact for_str J hh F N hj turn done

theorem set_last {D L : Addr} {m : Str → Option Value} {news news' : List (Addr × Obj)} {vs : List Value} {n : Nat} {v : Value} {t : Tok} {Q : Unit → Shared → Prop} (F : Fr h₀ L s.heap m) (N : News h₀ L s.heap news)
    (U : Upd D (W.listOf vs.toArray n) (W.listOf (vs.set (vs.length - 1) v).toArray n) news news') (hpos : 0 < vs.length)
    (h : ∀ h', Fr h₀ L h' m → News h₀ L h' news' → Q () { s with heap := h' }) : wpAny (model prog w) A (setItem (.ref D) (.int (-1) t) v) Q E s := by
  obtain ⟨pre, post, rfl, rfl, a, b⟩ := U.split
  have z := N (D, W.listOf vs.toArray n) (List.mem_append.mpr (.inr (.head _)))
  refine ki_setBack z.1 (by decide) (by rw [List.size_toArray]; omega) (by decide) ?_
  have e : (-1 + (vs.toArray.size : Int)).toNat = vs.length - 1 := by rw [List.size_toArray]; omega
  refine h _ (F.change (Heap.SameBut.update ..) z.2.1 z.2.2) (ki_turn _ N a b ?_ ?_)
  · show vs.toArray.setIfInBounds (-1 + (vs.toArray.size : Int)).toNat v = (vs.set (vs.length - 1) v).toArray
    rw [e]
    apply Array.toList_inj.mp
    simp
  · simp

theorem lstLen {c L : Addr} {news : List (Addr × Obj)} {vs : List Value} {nn : Nat} {ns : List Int} {Q : Value → Shared → Prop} (N : News h₀ L s.heap news) (hm : (c, W.listOf vs.toArray nn) ∈ news) (hi : IntsAre vs ns) (hs : ns.length ≤ 1000)
    (h : Q (.int ns.length (s.toks + 1)) { s with toks := s.toks + 1 + 1 }) : wpAny (model prog w) A (call (.builtin "len") [.ref c]) Q E s :=
  call_len_list (News.isList N hm) (by rw [List.size_toArray, hi.length]; omega) (by rw [List.size_toArray, hi.length]; exact h)
noncomputable abbrev tupOf (vs : List Value) : Obj := { cls := .type "tuple", data := .seq vs.toArray 0 }
theorem tupLen {c L : Addr} {news : List (Addr × Obj)} {vs : List Value} {ns : List Int} {Q : Value → Shared → Prop} (N : News h₀ L s.heap news) (hm : (c, tupOf vs) ∈ news) (hi : IntsAre vs ns) (hs : ns.length ≤ 1000)
    (h : Q (.int ns.length (s.toks + 1)) { s with toks := s.toks + 1 + 1 }) : wpAny (model prog w) A (call (.builtin "len") [.ref c]) Q E s :=
  len_tuple (News.isTup N hm) (by rw [List.size_toArray, hi.length]; omega) (by rw [List.size_toArray, hi.length]; exact h)
theorem tupItem {c L : Addr} {news : List (Addr × Obj)} {vs : List Value} {ns : List Int} {k : Int} {u : Tok} {Q : Value → Shared → Prop} {value slice : PySem.Expr} (N : News h₀ L s.heap news) (hm : (c, tupOf vs) ∈ news) (hi : IntsAre vs ns) (hs : ns.length ≤ 1000)
    (h0 : 0 ≤ k) (h1 : k < ns.length) (h : ∀ t, Q (.int (ns.getD k.toNat 0) t) s)
    (hs : subscripted slice false (.ref c) (.int k u) = operate [.ref c, .int k u] (getItem (.ref c) (.int k u)) := by with_unfolding_all rfl) :
    wpAny (model prog w) A (subscriptTail value slice (.ref c) (.int k u)) Q E s := by
  obtain ⟨t, hx⟩ := hi.get k.toNat _ (ints_getD h0 h1)
  have hj : PySem.seqIndex? k vs.length = some k.toNat := by
    have hL := hi.length
    have hn : ¬ k < 0 := by omega
    have hk2 : k < (vs.length : Int) := by omega
    simp [seqIndex?, hn, h0, hk2]
  exact item_tupleT (News.isTup N hm) (by omega) (by omega) hj hx (h t) hs

/-- a for over a list of ints of the ledger, its name stored by the walk (a captured name) -/
theorem forListC {px pos : Pos} {iter : PySem.Expr} {l : Addr} {vs : List Value} {ns : List Int} {nn : Nat} {m₀ : Str → Option Value} {news : List (Addr × Obj)} (J : Nat → (Str → Option Value) → List (Addr × Obj) → Prop)
    (hh : A.handled = none) (hi : IntsAre vs ns)
    (h : wpAny (model prog w) A (eval iter env) (fun xv s₁ => ∃ H tk, xv = .ref l ∧ s₁ = { s with heap := H, toks := tk } ∧ Fr h₀ env.locals s₁.heap m₀ ∧ News h₀ env.locals s₁.heap news) E s)
    (hl : ∀ i m nx, J i m nx → (l, W.listOf vs.toArray nn) ∈ nx) (hj : J 0 m₀ news)
    (turn : ∀ (i : Nat) n t m₁ nx I oI (sT : Shared) (QT : Flow → Shared → Prop), ns[i]? = some n → J i m₁ nx → (∀ p ∈ nx, p.1 ≠ I) → Fr h₀ env.locals sT.heap m₁ → News h₀ env.locals sT.heap ((I, oI) :: nx) →
      (∀ f s₂, TurnPost h₀ env.locals (J (i + 1)) I oI s sT Q f s₂ → QT f s₂) →
      wpAny (model prog w) A (assign (.Name x px) env (.int n t)) (fun _ s₂ => wpAny (model prog w) A (execs body env) QT E s₂) E sT)
    (done : ∀ m₁ nx h tk, J ns.length m₁ nx → Fr h₀ env.locals h m₁ → News h₀ env.locals h nx → Q .next { s with heap := h, toks := tk })
    (hs : ∀ x, foldedSetIterable iter env x = pure x := by intro _; rfl)
    (hE : PassesOwn (model prog w) A env E := by passes_own) :
    wpAny (model prog w) A (exec (.For (.Name x px) iter body [] pos) env) Q E s := by
  refine wpAny_For (wpAny_mono h (fun xv s₁ h₁ => ?_) fun _ _ e => e) hs
  obtain ⟨H, tk, rfl, rfl, F, N⟩ := h₁
  have hm := hl _ _ _ hj
  have hls : H.IsList l vs.toArray := ⟨_, (N _ hm).1, rfl, _, rfl⟩
  have hne : l ≠ H.objs.size := Nat.ne_of_lt (Heap.lt_size (N _ hm).1)
  refine wpAny_pyIter_list hls ?_
  have W := Walks.list (prog := prog) (w := w) hh H.objs.size l hne vs.toArray
  have hlen : vs.toArray.size = ns.length := by simp [hi.length]
  rw [hlen] at W
  have hL : env.locals ≠ H.objs.size := fun e => absurd F.ns.lt (e ▸ Nat.lt_irrefl _)
  have hI : h₀.get? H.objs.size = none := next_is_new F
  dsimp only
  have hoff0 : ∀ p ∈ news, p.1 ≠ H.objs.size := fun p hp => Nat.ne_of_lt (Heap.lt_size (N p hp).1)
  have hst0 : (H.push { cls := .type "list_iterator", data := .fields #[.ref l, .int 0 0] }).IsListIter H.objs.size l 0 := ⟨_, Heap.get?_push_size _ rfl, rfl, rfl⟩
  have F0 := F.push ({ cls := .type "list_iterator", data := .fields #[.ref l, .int 0 0] } : Obj)
  have N0 : News h₀ env.locals (H.push { cls := .type "list_iterator", data := .fields #[.ref l, .int 0 0] }) news := fun p hp => ⟨Heap.get?_push_of_some _ (N p hp).1, (N p hp).2⟩
  generalize H.push { cls := .type "list_iterator", data := .fields #[.ref l, .int 0 0] } = H1 at hst0 F0 N0 ⊢
  generalize H.objs.size = I at W hL hI hst0 hoff0 hne ⊢
  have islist : ∀ {h' nx i m'}, News h₀ env.locals h' nx → J i m' nx → h'.IsList l vs.toArray := fun N' hJ => ⟨_, (N' _ (hl _ _ _ hJ)).1, rfl, _, rfl⟩
  refine codeAny_forLoop (R := fun r s' => match r with | .ok f => Q f s' | .error e => cameBackBy (model prog w) A env E e s')
    (fun k s' => ∃ h' tk m' nx i, s' = { s with heap := h', toks := tk } ∧ h'.IsListIter I l i ∧ Fr h₀ env.locals h' m' ∧ News h₀ env.locals h' nx ∧ (∀ p ∈ nx, p.1 ≠ I) ∧ J i m' nx ∧ i ≤ ns.length ∧ k = ns.length + 1 - i) ?_ (ns.length + 1)
    ⟨_, tk, m₀, news, 0, rfl, hst0, F0, N0, hoff0, hj, Nat.zero_le _, rfl⟩
  rintro k s' ⟨h', tk, m', nx, i, rfl, hst', F', N', hoff, hJ, hi', rfl⟩
  have old : ∀ b o, h₀.get? b = some o → b ≠ I := fun b o e q => by rw [q, hI] at e; cases e
  have next : ∀ h₁ : Heap, (∀ b o, b ∉ [I] → h'.get? b = some o → h₁.get? b = some o) → Fr h₀ env.locals h₁ m' ∧ News h₀ env.locals h₁ nx := fun h₁ hk₁ =>
    ⟨⟨F'.ns.at' fun o e => hk₁ _ o (fun q => hL (List.mem_singleton.mp q)) e, fun b o e => hk₁ b o (fun q => old b o e (List.mem_singleton.mp q)) (F'.keep b o e), F'.above⟩,
      fun p hp => ⟨hk₁ _ _ (fun q => hoff p hp (List.mem_singleton.mp q)) (N' p hp).1, (N' p hp).2⟩⟩
  by_cases hlt : i < ns.length
  · refine W.item i _ _ _ hlt ⟨hst', islist N' hJ⟩ fun v h₁ tk₁ hP hst₁ hk₁ => ?_
    obtain ⟨F₁, N₁⟩ := next h₁ hk₁
    obtain ⟨n, t, e, hk⟩ := IntsAre.at hi i v (by simpa using hP)
    subst e
    obtain ⟨oI, hoI, hcI, hdI⟩ := hst₁.1
    have N₂ : News h₀ env.locals h₁ ((I, oI) :: nx) := by
      intro p hp
      rcases List.mem_cons.mp hp with rfl | hp
      · exact ⟨hoI, Ne.symm hL, hI⟩
      · exact N₁ p hp
    refine wpAny_mono (wpAny_passesOwn hE (turn i n t m' nx I oI _ _ hk hJ hoff F₁ N₂ fun _ _ z => z)) (fun _ s₂ h₂ => wpAny_mono (wpAny_passesOwn hE h₂) (fun f s₃ h₃ => ?_) fun _ _ e => e) fun _ _ e => e
    have fin : TurnEnd h₀ env.locals (J (i + 1)) I oI { s with heap := h₁, toks := tk₁ } s₃ → ∃ m_1, m_1 < ns.length + 1 - i ∧ ∃ h' tk m' nx i_1, s₃ = { s with heap := h', toks := tk } ∧ h'.IsListIter I l i_1 ∧ Fr h₀ env.locals h' m' ∧ News h₀ env.locals h' nx ∧ (∀ p ∈ nx, p.1 ≠ I) ∧ J i_1 m' nx ∧ i_1 ≤ ns.length ∧ m_1 = ns.length + 1 - i_1 := by
      rintro ⟨h₃', tk₃, m₂, nx₂, rfl, F₃, N₃, ha₃, hJ₃⟩
      exact ⟨ns.length + 1 - (i + 1), by omega, h₃', tk₃, m₂, nx₂, i + 1, rfl, ⟨oI, (N₃ _ (.head _)).1, hcI, hdI⟩, F₃, (fun p hp => N₃ p (.tail _ hp)), ha₃, hJ₃, hlt, rfl⟩
    cases f with
    | ret v =>
      obtain ⟨_, _, rfl, h₃⟩ := h₃
      exact h₃
    | brk =>
      obtain ⟨_, _, rfl, h₃⟩ := h₃
      exact h₃
    | next => exact fin h₃
    | cont => exact fin h₃
  · have hin : i = ns.length := by omega
    subst hin
    refine W.done _ _ _ ⟨hst', islist N' hJ⟩ fun h₁ tk₁ hk₁ => wpAny_execs_nil ?_
    obtain ⟨F₁, N₁⟩ := next h₁ hk₁
    exact done m' nx h₁ tk₁ hJ F₁ N₁
end

theorem fillNow : hd.heap_39 = hd.heap_39 ∧ PySem.Challenge.rw_wj0031_01 = PySem.Challenge.rw_wj0031_01 := by
  w_top off
  k_fill
  exact ⟨rfl, rfl⟩

local macro_rules | `(tactic| k_all) => `(tactic| first | assumption | exact allLt_ne (by assumption) | exact lt_ne (by assumption))
local macro_rules | `(tactic| walk_at "the for") => `(tactic| ((rename Fr _ _ _ _ => lF'); (with_unfolding_all refine' For_invVF lF' ?k1 ?k2 ?_; (case k1 => exact rfl); (case k2 => exact rfl); k_whole)))

noncomputable def words : List Str := ["OPTIMIZED", "NEWLOCALS", "VARARGS", "VARKEYWORDS", "NESTED", "GENERATOR", "NOFREE", "COROUTINE", "ITERABLE_COROUTINE", "ASYNC_GENERATOR", "0x400", "0x800", "0x1000", "0x2000", "0x4000"]
noncomputable def pf : Nat → Nat → Int → List Str → Option (List Str)
  | _, 0, _, _ => none
  | i, k + 1, f, ns =>
    if Builtin.bitAnd f (2 ^ i) ≠ 0 then
      if i < 15 then
        if Builtin.bitXor f (2 ^ i) = 0 then some (ns ++ [words.getD i ""]) else pf (i + 1) k (Builtin.bitXor f (2 ^ i)) (ns ++ [words.getD i ""])
      else none
    else pf (i + 1) k f ns

theorem strs_pairs {vs : List Value} {ns : List Str} (h : StrsAre vs ns) : ∃ l : List (Str × Tok), vs = strValues l ∧ l.map (·.1) = ns := by
  induction h with
  | nil => exact ⟨[], rfl, rfl⟩
  | cons y t _ ih =>
    obtain ⟨l, rfl, rfl⟩ := ih
    exact ⟨(y, t) :: l, rfl, rfl⟩
theorem hexFits (i : Nat) (h : i < 32) : (baseText "0x" 16 (1 * 2 ^ (0 + (i : Int)).toNat)).length ≤ PySem.sizeLine := by
  have : ∀ i : Fin 32, (baseText "0x" 16 (1 * 2 ^ (0 + ((i : Nat) : Int)).toNat)).length ≤ PySem.sizeLine := by decide +kernel
  exact this ⟨i, h⟩

theorem pf_succ (i k : Nat) (f : Int) (ns : List Str) : pf i (k + 1) f ns =
    if Builtin.bitAnd f (2 ^ i) ≠ 0 then
      if i < 15 then
        if Builtin.bitXor f (2 ^ i) = 0 then some (ns ++ [words.getD i ""]) else pf (i + 1) k (Builtin.bitXor f (2 ^ i)) (ns ++ [words.getD i ""])
      else none
    else pf (i + 1) k f ns := rfl
theorem pow_i (i : Nat) : (1 * 2 ^ (0 + (i : Int)).toNat : Int) = 2 ^ i := by
  rw [Int.one_mul, Int.zero_add, Int.toNat_natCast]
noncomputable def flagD : List (Int × PyData) := [(1, .str "OPTIMIZED"), (2, .str "NEWLOCALS"), (4, .str "VARARGS"), (8, .str "VARKEYWORDS"), (16, .str "NESTED"), (32, .str "GENERATOR"), (64, .str "NOFREE"), (128, .str "COROUTINE"), (256, .str "ITERABLE_COROUTINE"), (512, .str "ASYNC_GENERATOR")]
theorem get_flag (i : Nat) (h : i < 15) : (PySem.Spec.lookup (PyData.int (1 * 2 ^ (0 + (i : Int)).toNat)) (flagD.map fun p => (PyData.int p.1, p.2))).getD (PyData.str (baseText "0x" 16 (1 * 2 ^ (0 + (i : Int)).toNat))) = PyData.str (words.getD i "") := by
  match i, h with
  | 0, _ | 1, _ | 2, _ | 3, _ | 4, _ | 5, _ | 6, _ | 7, _ | 8, _ | 9, _ | 10, _ | 11, _ | 12, _ | 13, _ | 14, _ => rfl
  | n + 15, h => omega

section
variable {prog : Program} {w : World} {p : Program} {loose : List Str} {mean : ExcName → Option Value} {mg mb : Str → Option Value}
  {dp un : Nat} {gd : Option (List Code)} {cn : Str} {cs : Scope} {a : Addr} {ccd : Value} {cl : List (Str × Addr)} {outer : List Env} {A₀ : Around} {base h₀ : Heap} {L : Addr} {m : Str → Option Value} {s : Shared} {Q E : Value → Shared → Prop} {news : List (Addr × Obj)}
set_option maxHeartbeats 2000000
theorem pretty_call (n : Int) (t : Tok) (R : List Str) (hR : pf 0 32 n [] = some R) (hJ : JoinOk (PySem.Str.ofString ", ") R = true)
    (B : Below A₀ base outer h₀) (F : Fr h₀ L s.heap m) (X : (hd.heap_39 w.params).In h₀) (N : News h₀ L s.heap news) (T : Top p loose mean mg mb h₀)
    (hk : cs.kind = .function) (hd : dp + 1 < recursionLimit) (hu : un + 8 < cLine)
    (hret : ∀ (t : Tok) (h' : Heap) (tk' : Nat), Fr h₀ L h' m → News h₀ L h' news → Q (.str (PySem.Txt.join (PySem.Str.ofString ", ") R) t) { s with heap := h', toks := tk' }) :
    wpAny (model prog w) (ktrTop dp un gd cn cs L a ccd cl outer) (call (.ref 95) [.int n t]) Q E s := by
  refine wpAny_call ?_
  k_dflt cell_enter
  rename_i g L' h1 FG F0 N0 B' X' T'
  replace F0 := frCongr F0 (m' := fun y => if y = Str.ofString "flags" then some (.int n t) else none) (fun y => look1)
  k_steps
  rename_i l h2 l1 h3 F' N'
  refine forElse_range (a₀ := 0) (b₀ := 32) (n := 32) (fun i m' nx => ∃ vs ns nn f t, nx = (l, W.listOf vs.toArray nn) :: news ∧ StrsAre vs ns ∧ ns.length ≤ i ∧ m' (Str.ofString "names") = some (.ref l) ∧ m' (Str.ofString "flags") = some (.int f t) ∧ pf i (32 - i) f ns = some R) F' N' rfl rfl rfl ?_ rfl rfl ?_ ?_ ?_
  · k_steps
    all_goals assumption
  · exact ⟨[], [], 0, n, t, rfl, .nil, by decide, rfl, rfl, hR⟩
  · rintro i ti m₁ nx I oI sT QT hi ⟨vs, ns, nn, f, tf, rfl, hS, hlen, hm1, hm2, hpf⟩ hoff F1 N1 hQT
    replace F1 := pinX2 F1 hm1 hm2 (by decide) (by decide)
    have hz : vs.toArray.size ≤ PySem.sizeLine := by
      rw [List.size_toArray, hS.length, PySem.sizeLine_eq]; omega
    have hIl : @Ne Nat I l := fun e => hoff _ (.head _) e.symm
    have hIn : ∀ p ∈ news, p.1 ≠ I := fun p hp => hoff p (.tail _ hp)
    have hln : ∀ p ∈ news, p.1 ≠ l := lt_ne l1
    have e31 : 32 - i = (31 - i) + 1 := by omega
    have e32 : 32 - (i + 1) = 31 - i := by omega
    rw [e31, pf_succ] at hpf
    k_steps
    · rename Builtin.bitAnd _ _ ≠ 0 => hb
      rename KTD.Keyed _ _ _ => kyX
      rw [pow_i] at hb
      rw [if_pos hb] at hpf
      by_cases h15 : i < 15
      · rw [if_pos h15] at hpf
        refine P.hex_of_int ?_ (hexFits i hi)
        repeat (fail_if_success (with_reducible show wpAny _ _ (call (Value.builtin "dict.get") _) _ _ _)); walk1
        refine call_get2_intTab (D := flagD.map fun p => (PyData.int p.1, p.2)) (KTD.tab_keep (kyX prog w) (Fr.keep (by assumption))) (Flat.str _ _) fun v hv => ?_
        rw [get_flag i h15] at hv
        obtain ⟨tv, rfl⟩ : ∃ tv, v = .str (words.getD i "") tv := Flat.str_inv hv
        have hS2 : StrsAre (vs ++ [Value.str (words.getD i "") tv]) (ns ++ [words.getD i ""]) := StrsAre.append' hS (.cons _ _ .nil)
        k_steps
        · rename Builtin.bitXor _ _ ≠ 0 => hx
          rw [pow_i] at hx
          rw [if_neg hx] at hpf
          rename Fr _ _ _ _ => F9
          rename News _ _ _ _ => N9
          refine hQT _ _ (TurnEnd.intro F9 N9 (by intro p hp; rcases List.mem_cons.mp hp with rfl | hp; exact hIl.symm; exact hIn p hp) ⟨_, _, nn + 1, _, _, ?_, hS2, ?_, rfl, rfl, ?_⟩)
          · rw [List.push_toArray]
          · rw [List.length_append]; simp only [List.length_cons, List.length_nil]; omega
          · rw [e32, pow_i]; exact hpf
        · rename Builtin.bitXor _ _ = 0 => hx
          rw [pow_i] at hx
          rw [if_pos hx] at hpf
          refine hQT _ _ ?_
          dsimp only [TurnPost]
          refine ⟨_, _, rfl, ?_⟩
          k_steps
          obtain rfl := Option.some.inj hpf
          obtain ⟨lp, e1, e2⟩ := strs_pairs hS2
          rename News _ _ _ _ => N9
          rw [List.push_toArray, e1] at N9
          refine SC.join (News.isList N9 (.tail _ (.head _))) e2 hJ fun t' k => ?_
          k_steps
          rename News _ _ _ _ => kN
          exact hret _ _ _ (by assumption) (fun p hp => kN p (.tail _ (.tail _ hp)))
      · rw [if_neg h15] at hpf
        cases hpf
    · rename Builtin.bitAnd _ _ = 0 => hb
      rw [pow_i] at hb
      rw [if_neg (by rw [hb]; decide)] at hpf
      exact hQT _ _ (TurnEnd.intro (by assumption) (by assumption) (by assumption) ⟨vs, ns, nn, f, tf, rfl, hS, by omega, rfl, rfl, by rw [e32]; exact hpf⟩)
  · rintro m₁ nx ⟨vs, ns, nn, f, tf, rfl, hS, hlen, hm1, hm2, hpf⟩
    simp [pf] at hpf
end

noncomputable def runStep (n : Int) (rs : List Int) (k : Nat) : List Int :=
  if (n.fdiv (2 ^ k)).fmod 2 = 1 then rs ++ [1] else rs.set (rs.length - 1) (rs.getD (rs.length - 1) 0 + 1)
noncomputable def runsTo (n : Int) : Nat → List Int
  | 0 => [1]
  | k + 1 => runStep n (runsTo n k) k

section
variable {prog : Program} {w : World} {p : Program} {loose : List Str} {mean : ExcName → Option Value} {mg mb : Str → Option Value}
  {dp un : Nat} {gd : Option (List Code)} {cn : Str} {cs : Scope} {a : Addr} {ccd : Value} {cl : List (Str × Addr)} {outer : List Env} {A₀ : Around} {base h₀ : Heap} {L : Addr} {m : Str → Option Value} {s : Shared} {Q E : Value → Shared → Prop} {news : List (Addr × Obj)}
set_option maxHeartbeats 2000000
theorem runs_call (num : Int) (Nt : Nat) (t t2 : Tok) (hN : Nt ≤ 8) (hn0 : 0 ≤ num) (hn1 : num < 1000000)
    (B : Below A₀ base outer h₀) (F : Fr h₀ L s.heap m) (X : (hd.heap_39 w.params).In h₀) (N : News h₀ L s.heap news) (T : Top p loose mean mg mb h₀)
    (hk : cs.kind = .function) (hd : dp + 1 < recursionLimit) (hu : un + 8 < cLine)
    (hret : ∀ (r : Addr) (vs : List Value) (nn : Nat) (h' : Heap) (tk' : Nat), Fr h₀ L h' m → News h₀ L h' ((r, W.listOf vs.toArray nn) :: news) → (∀ p ∈ news, p.1 < r) → IntsAre vs (runsTo num Nt) → Q (.ref r) { s with heap := h', toks := tk' }) :
    wpAny (model prog w) (ktrTop dp un gd cn cs L a ccd cl outer) (call (.ref 137) [.int num t, .int (Nt + 1) t2]) Q E s := by
  refine wpAny_call ?_
  k_dflt cell_enter
  rename_i g L' h1 FG F0 N0 B' X' T'
  replace F0 := frCongr F0 (m' := fun y => if y = Str.ofString "total" then some (.int (Nt + 1) t2) else if y = Str.ofString "number" then some (.int num t) else none) (fun y => look2)
  (repeat (fail_if_success (with_reducible show wpAny _ _ (exec (Stmt.For _ _ _ _ _) _) _ _ _)); first | (k_unfold; (try dsimp only)) | walk1 | (dsimp only; walk1))
  rename_i l h2 l1 h3 F' N'
  have hln : ∀ p ∈ news, p.1 ≠ l := lt_ne l1
  refine forRange (a₀ := 0) (b₀ := Nt + 1 - 1) (n := Nt) (fun i m' nx => ∃ vs nn, nx = (l, W.listOf vs.toArray nn) :: news ∧ IntsAre vs (runsTo num i) ∧ (runsTo num i).length ≤ i + 1 ∧ 0 < (runsTo num i).length ∧ m' (Str.ofString "runs") = some (.ref l) ∧ m' (Str.ofString "number") = some (.int num t)) F' N' rfl rfl rfl ?_ ?_ ?_ ?_ ?_ ?_
  · k_steps
    all_goals assumption
  · exact small_one (by omega) (by omega) (by omega) (by omega)
  · rw [rangeSize_nat]; omega
  · exact ⟨[.int 1 _], 0, rfl, .cons _ _ .nil, Nat.le_refl _, Nat.one_pos, rfl, rfl⟩
  · rintro i ti m₁ nx I oI sT QT hi ⟨vs, nn, rfl, hV, hlen, hpos, hm1, hm2⟩ hoff F1 N1 hQT
    replace F1 := pinX2 F1 hm1 hm2 (by decide) (by decide)
    have hIl : @Ne Nat I l := fun e => hoff _ (.head _) e.symm
    have hIn : ∀ p ∈ news, p.1 ≠ I := fun p hp => hoff p (.tail _ hp)
    have hV1 := hV.length
    k_steps
    · rename _ = (1 : Int) => hc
      rename News _ _ _ _ => N9
      rename Fr _ _ _ _ => F9
      rw [Int.zero_add, Int.toNat_natCast] at hc
      rw [List.push_toArray] at N9
      refine hQT _ _ (TurnEnd.intro F9 N9 (by intro p hp; rcases List.mem_cons.mp hp with rfl | hp; exact hIl.symm; exact hIn p hp) ⟨_, nn + 1, rfl, ?_, ?_, ?_, rfl, rfl⟩)
      all_goals rw [runsTo, runStep, if_pos hc]
      · exact IntsAre.append hV (.cons _ _ .nil)
      · rw [List.length_append]; simp only [List.length_cons, List.length_nil]; omega
      · rw [List.length_append]; simp only [List.length_cons, List.length_nil]; omega
    · rename _ ≠ (1 : Int) => hc
      rename News _ _ _ _ => N9
      rename Fr _ _ _ _ => F9
      rw [Int.zero_add, Int.toNat_natCast] at hc
      refine set_last F9 N9 (by k_upd) (by omega) fun h' F8 N8 => ?_
      k_steps
      refine hQT _ _ (TurnEnd.intro F8 N8 (by intro p hp; rcases List.mem_cons.mp hp with rfl | hp; exact hIl.symm; exact hIn p hp) ⟨_, nn, rfl, ?_, ?_, ?_, rfl, rfl⟩)
      all_goals rw [runsTo, runStep, if_neg hc]
      · rw [hV1]
        have e : (-1 + ((runsTo num i).length : Int)).toNat = (runsTo num i).length - 1 := by omega
        rw [e]
        exact ints_set hV _
      · rw [List.length_set]; omega
      · rw [List.length_set]; omega
  · rintro m₁ nx h tk9 ⟨vs, nn, rfl, hV, hlen, hpos, hm1, hm2⟩ F1 N1
    replace F1 := pin F1 hm1
    k_steps
    rename News _ _ _ _ => kN
    exact hret _ _ _ _ _ (by assumption) kN l1 hV
end

local macro_rules | `(tactic| walk_at "call ref") => `(tactic| (k_here; (with_reducible show wpAny _ _ (call (Value.ref _) _ _) _ _ _); refine wpAny_call ?_; k_dflt (refine' code_def ?k1 ?k2 ?k3 ?k4 ?k5 ?kA ?kF ?kK ?k6 ?k7 ?k8 ?k9 ?kB ?_ ?c2 ?c3 ?c4 ?c5; (case kA => exact rfl); (case kF => exact rfl); (case kK => first | exact rfl | assumption); (case k1 => k_asm); (case k2 => k_asm); (case k3 => k_asm); (case k4 => k_asm); (case k5 => k_asm); (case k6 => k_is); (case k7 => k_is); (case k8 => ktr_room); (case k9 => exact BindsTo.of_eq rfl); (case c5 => decide); (case kB => exact locs rfl); (case c2 => exact rfl); (case c3 => exact rfl); (case c4 => exact rfl); k_whole; intro g' L' h' FG' F' N' B' X' T'; (try dsimp only); (try k_fold))))

noncomputable def oftIn (size o : Int) : Nat → Option Int
  | 0 => some o
  | k + 1 => (oftIn size o k).bind fun x => if 0 ≤ x * (size * ((k : Int) + 1)) ∧ x * (size * ((k : Int) + 1)) < 1000000 then some (x * (size * ((k : Int) + 1))) else none
noncomputable def oftTo (ns : List Int) : Nat → Option Int
  | 0 => some 1
  | i + 1 => (oftTo ns i).bind fun o => if 0 ≤ ns.getD (i + 1) 0 ∧ ns.getD (i + 1) 0 < 20 then oftIn ((i : Int) + 1) o (ns.getD (i + 1) 0).toNat else none
theorem oftIn_down {size o : Int} : ∀ {k n : Nat} {x : Int}, k ≤ n → oftIn size o n = some x → ∃ y, oftIn size o k = some y
  | k, 0, x, h, e => by obtain rfl : k = 0 := by omega
                        exact ⟨x, e⟩
  | k, n + 1, x, h, e => by
    rcases Nat.lt_or_ge k (n + 1) with h1 | h1
    · rw [oftIn] at e
      obtain ⟨y, hy, _⟩ := Option.bind_eq_some_iff.mp e
      exact oftIn_down (by omega) hy
    · obtain rfl : k = n + 1 := by omega
      exact ⟨x, e⟩
theorem oftIn_bd {size o : Int} (h0 : 0 ≤ o ∧ o < 1000000) : ∀ {k : Nat} {x : Int}, oftIn size o k = some x → 0 ≤ x ∧ x < 1000000
  | 0, x, e => by cases e; exact h0
  | k + 1, x, e => by
    rw [oftIn] at e
    obtain ⟨y, _, hy⟩ := Option.bind_eq_some_iff.mp e
    split at hy
    · cases hy; assumption
    · cases hy
theorem oftTo_down {ns : List Int} : ∀ {k n : Nat} {x : Int}, k ≤ n → oftTo ns n = some x → ∃ y, oftTo ns k = some y
  | k, 0, x, h, e => by obtain rfl : k = 0 := by omega
                        exact ⟨x, e⟩
  | k, n + 1, x, h, e => by
    rcases Nat.lt_or_ge k (n + 1) with h1 | h1
    · rw [oftTo] at e
      obtain ⟨y, hy, _⟩ := Option.bind_eq_some_iff.mp e
      exact oftTo_down (by omega) hy
    · obtain rfl : k = n + 1 := by omega
      exact ⟨x, e⟩
theorem oftTo_bd {ns : List Int} : ∀ {k : Nat} {x : Int}, oftTo ns k = some x → 0 ≤ x ∧ x < 1000000
  | 0, x, e => by cases e; decide
  | k + 1, x, e => by
    rw [oftTo] at e
    obtain ⟨y, hy, h⟩ := Option.bind_eq_some_iff.mp e
    split at h
    · exact oftIn_bd (oftTo_bd hy) h
    · cases h
section
variable {prog : Program} {w : World} {p : Program} {loose : List Str} {mean : ExcName → Option Value} {mg mb : Str → Option Value}
  {dp un : Nat} {gd : Option (List Code)} {cn : Str} {cs : Scope} {a : Addr} {ccd : Value} {cl : List (Str × Addr)} {outer : List Env} {A₀ : Around} {base h₀ : Heap} {L : Addr} {m : Str → Option Value} {s : Shared} {Q E : Value → Shared → Prop} {news : List (Addr × Obj)}
set_option maxHeartbeats 2000000

theorem often_call (c : Addr) (vs : List Value) (ns : List Int) (R : Int) (hR : oftTo ns (ns.length - 1) = some R) (hn : 0 < ns.length) (hn2 : ns.length ≤ 20) (hV : IntsAre vs ns) (hc : (c, tupOf vs) ∈ news)
    (B : Below A₀ base outer h₀) (F : Fr h₀ L s.heap m) (X : (hd.heap_39 w.params).In h₀) (N : News h₀ L s.heap news) (T : Top p loose mean mg mb h₀)
    (hk : cs.kind = .function) (hd : dp + 3 < recursionLimit) (hu : un + 24 < cLine)
    (hret : ∀ (t : Tok) (h' : Heap) (tk' : Nat), Fr h₀ L h' m → News h₀ L h' news → Q (.int R t) { s with heap := h', toks := tk' }) :
    wpAny (model prog w) (ktrTop dp un gd cn cs L a ccd cl outer) (call (.ref 149) [.ref c]) Q E s := by
  refine wpAny_call ?_
  k_dflt cell_enter
  rename_i g L' h1 FG F0 N0 B' X' T'
  replace F0 := frCongr F0 (m' := fun y => if y = Str.ofString "counts" then some (.ref c) else none) (fun y => look1)
  (repeat (fail_if_success (with_reducible show wpAny _ _ (exec (Stmt.For _ _ _ _ _) _) _ _ _)); first | (k_unfold; (try dsimp only)) | walk1 | (dsimp only; walk1))
  rename_i h3 F' N'
  refine forRange (a₀ := 1) (b₀ := ns.length) (n := ns.length - 1) (fun i m' nx => ∃ o t, nx = news ∧ oftTo ns i = some o ∧ m' (Str.ofString "often") = some (.int o t) ∧ m' (Str.ofString "counts") = some (.ref c)) F' N' rfl rfl rfl ?_ ?_ ?_ ?_ ?_ ?_
  · k_steps
    refine tupLen N' hc hV (by omega) ?_
    k_steps
    all_goals assumption
  · exact small_one (by omega) (by omega) (by omega) (by omega)
  · rw [rangeSize_nat]; omega
  · exact ⟨1, _, rfl, rfl, rfl, rfl⟩
  · rintro i ti m₁ nx I oI sT QT hi ⟨o, t, rfl, hO, hm1, hm2⟩ hoff F1 N1 hQT
    replace F1 := pinX2 F1 hm1 hm2 (by decide) (by decide)
    (repeat (fail_if_success (with_reducible show wpAny _ _ (exec (Stmt.For _ _ _ _ _) _) _ _ _)); first | (k_unfold; (try dsimp only)) | walk1 | (dsimp only; walk1))
    obtain ⟨o2, hO2⟩ := oftTo_down (show i + 1 ≤ ns.length - 1 by omega) hR
    have hO3 := hO2
    rw [oftTo, hO, Option.bind_some] at hO3
    have hin : (1 + (i : Int)).toNat = i + 1 := by omega
    have hob := oftTo_bd hO
    split at hO3
    case isFalse => cases hO3
    rename 0 ≤ ns.getD (i + 1) 0 ∧ ns.getD (i + 1) 0 < 20 => hcs
    refine forRange (a₀ := 0) (b₀ := ns.getD (i + 1) 0) (n := (ns.getD (i + 1) 0).toNat) (fun k m' nx' => ∃ o' t', nx' = (I, oI) :: nx ∧ oftIn ((i : Int) + 1) o k = some o' ∧ m' (Str.ofString "often") = some (.int o' t') ∧ m' (Str.ofString "counts") = some (.ref c) ∧ m' (Str.ofString "size") = some (.int (1 + (i : Int)) ti)) F1 N1 rfl rfl rfl ?_ ?_ ?_ ?_ ?_ ?_
    · k_steps
      refine tupItem N1 (.tail _ hc) hV (by omega) (by omega) (by omega) (fun t => ?_)
      rw [hin]
      k_steps
      all_goals assumption
    · exact small_one (by omega) (by omega) (by omega) (by omega)
    · rw [rangeSize_nat]; omega
    · exact ⟨o, t, rfl, rfl, rfl, rfl, rfl⟩
    · rintro k tk' m₂ nx' I' oI' sU QU hk' ⟨o', t', rfl, hO', hq1, hq2, hq3⟩ hoff' F2 N2 hQU
      replace F2 := pinX2 F2 hq1 hq3 (by decide) (by decide)
      have hb' := oftIn_bd hob hO'
      obtain ⟨o4, hO4⟩ := oftIn_down (show k + 1 ≤ (ns.getD (i + 1) 0).toNat by omega) hO3
      have hO5 := hO4
      rw [oftIn, hO', Option.bind_some] at hO5
      split at hO5
      case isFalse => cases hO5
      k_steps
      rename Fr _ _ _ _ => F9
      rename News _ _ _ _ => N9
      refine hQU _ _ (TurnEnd.intro F9 N9 hoff' ⟨_, _, rfl, ?_, rfl, hq2, rfl⟩)
      rw [hO4, ← hO5, Int.add_comm 1 (i : Int), Int.zero_add]
    · rintro m₂ nx' h' tk8 ⟨o', t', rfl, hO', hq1, hq2, hq3⟩ F2 N2
      obtain rfl : o' = o2 := Option.some.inj (hO'.symm.trans hO3)
      k_steps
      exact hQT _ _ (TurnEnd.intro F2 N2 hoff ⟨o', t', rfl, hO2, hq1, hq2⟩)
  · rintro m₁ nx h tk9 ⟨o, t, rfl, hO, hm1, hm2⟩ F1 N1
    replace F1 := pin F1 hm1
    obtain rfl : o = R := Option.some.inj (hO.symm.trans hR)
    k_steps
    rename News _ _ _ _ => kN
    exact hret _ _ _ (by assumption) kN
end

section
variable {prog : Program} {w : World} {A : Around} {E : Value → Shared → Prop} {s : Shared} {env : Env} {h₀ : Heap} {L : Addr} {m : Str → Option Value} {news : List (Addr × Obj)}

/-- what a comprehension's source gives: an iterator, its places, what it stands on -/
structure Src (prog : Program) (w : World) (A : Around) (h₀ : Heap) (L : Addr) (m : Str → Option Value) (news : List (Addr × Obj)) (I : Addr) (fp : List Addr) (n : Nat) (P : Nat → Value → Prop) (St : Nat → Heap → Prop) (s₂ : Shared) : Prop where
  W : Walks prog w A I fp [I] n P St
  size : n ≤ sizeLine
  st : St 0 s₂.heap
  lt : ∀ b ∈ fp, b < s₂.heap.objs.size
  obj : ∀ i h, St i h → ∃ o, h.get? I = some o
  on : ∀ b ∈ fp, b = I ∨ (∃ o, h₀.get? b = some o) ∨ (∃ o, (b, o) ∈ news)
  new : h₀.get? I = none
  off : L ≠ I
  offN : ∀ p ∈ news, p.1 ≠ I
  F : Fr h₀ L s₂.heap m
  N : News h₀ L s₂.heap news

theorem Src.keepSt {I : Addr} {fp : List Addr} {n : Nat} {P : Nat → Value → Prop} {St : Nat → Heap → Prop} {s₂ : Shared} (X : Src prog w A h₀ L m news I fp n P St s₂) {i : Nat} {h h' : Heap} {m₁ m₂ : Str → Option Value}
    (st : St i h) (F : Fr h₀ L h m₁) (N : News h₀ L h news) (F' : Fr h₀ L h' m₂) (N' : News h₀ L h' news) (hI : h'.get? I = h.get? I) : St i h' := by
  refine X.W.frame _ _ _ st fun b hb o e => ?_
  rcases X.on b hb with q | ⟨o₁, q⟩ | ⟨o₁, q⟩
  · rw [q] at e ⊢; exact hI.trans e
  · have := F.keep b o₁ q
    rw [e] at this; cases this
    exact F'.keep b o q
  · have := (N _ q).1
    rw [e] at this; cases this
    exact (N' _ q).1

noncomputable def DictEnd {K : Type} [DecidableEq K] (knd : KeyKind prog w K) (h₀ : Heap) (L : Addr) (m : Str → Option Value) (led : List (Addr × Obj)) (s₂ : Shared) (kvs : List (K × Value)) (G : List (K × Value) → Prop) (key vv : Value) (s₅ : Shared) : Prop :=
  ∃ h5 tk5 kk, s₅ = { s₂ with heap := h5, toks := tk5 } ∧ Fr h₀ L h5 m ∧ News h₀ L h5 led ∧ knd.is kk key = true ∧ G (stored kvs kk vv)
theorem DictEnd.intro {K : Type} [DecidableEq K] {knd : KeyKind prog w K} {h₀ h5 : Heap} {L : Addr} {m : Str → Option Value} {led : List (Addr × Obj)} {s₂ : Shared} {kvs : List (K × Value)} {G : List (K × Value) → Prop} {key vv : Value} {tk5 : Nat} (kk : K)
    (F : Fr h₀ L h5 m) (N : News h₀ L h5 led) (hk : knd.is kk key = true) (g : G (stored kvs kk vv)) : DictEnd knd h₀ L m led s₂ kvs G key vv { s₂ with heap := h5, toks := tk5 } := ⟨h5, tk5, kk, rfl, F, N, hk, g⟩

theorem dictCompX {K : Type} [DecidableEq K] {knd : KeyKind prog w K} {kx vx iter : PySem.Expr} {x : Str} {px : Pos} {scope : Scope} {cl : List (Str × Addr)} {pos : Pos} {Q : Value → Shared → Prop} (_F : Fr h₀ L s.heap m) (_N : News h₀ L s.heap news)
    (hclos : closureFor scope env = pure cl) (hcell : ∀ y ∈ scope.names, y.2 ≠ .cell) (hkind : scope.kind = .function)
    (hnames : ∀ y ∈ scope.names, y.2 = .local → scope.names.lookup y.1 = some .local) (hx : scope.names.lookup x = some .local)
    (h : wpAny (model prog w) A (eval iter env) (fun xv s₁ => wpAny (model prog w) A (pyIter xv) (fun it s₂ => ∃ I fp n P St news, it = .ref I ∧ Src prog w A h₀ L m news I fp n P St s₂ ∧ ∃ G : Nat → List (K × Value) → Prop, G 0 [] ∧
      (∀ i v kvs oI C oC D oD m₂ (sT : Shared) (QT : Value → Value → Shared → Prop) (E' : Value → Shared → Prop), i < n → P i v → G i kvs → LCg.NsObj oC m₂ → m₂ x = some v → oD.IsDictOf knd kvs → Fr h₀ L sT.heap m → News h₀ L sT.heap ((I, oI) :: (C, oC) :: (D, oD) :: news) → LCg.Off3 I C D news → ((@Ne Nat I C) ∧ (@Ne Nat I D) ∧ (@Ne Nat C D)) →
        (∀ key vv s₅, DictEnd knd h₀ L m ((I, oI) :: (C, oC) :: (D, oD) :: news) sT kvs (G (i + 1)) key vv s₅ → QT key vv s₅) →
        wpAny (model prog w) A (eval kx (compEnvC scope cl C env)) (fun key s₄ => wpAny (model prog w) A (eval vx (compEnvC scope cl C env)) (QT key) E' s₄) E' sT) ∧
      (∀ D oD kvs h tk, G n kvs → oD.IsDictOf knd kvs → Fr h₀ L h m → News h₀ L h ((D, oD) :: news) → (∀ p ∈ news, p.1 < D) → Q (.ref D) { s₂ with heap := h, toks := tk })) E s₁) E s)
    (hs : ∀ x, foldedSetIterable iter env x = pure x := by intro _; rfl) :
    wpAny (model prog w) A (eval (.DictComp kx vx [⟨.Name x px, iter, [], 0⟩] scope pos) env) Q E s := by
  rw [arm_eval_DictComp]
  refine wpAny_comprehension_free (use := none) rfl hs hclos hkind hnames (wpAny_mono h (fun xv s₁ h₁ => wpAny_mono h₁ (fun it s₂ h₂ => ?_) fun _ _ e => e) fun _ _ e => e)
  obtain ⟨I, fp, n, P, St, news, rfl, X, G, g0, turn, done⟩ := h₂
  refine wpAny_newObj_type (wpAny_newFunctionEnv hcell (by intro y hy; simp at hy) (fun h₁ hns₁ hsb₁ => ?_) hkind)
  dsimp only at hns₁ hsb₁ ⊢
  have hnew : (s₂.heap.push { cls := .type "dict", dict := none, data := .dict #[] }).DictOf knd s₂.heap.objs.size [] := Heap.DictOf.new s₂.heap
  generalize hH2 : s₂.heap.push { cls := .type "dict", dict := none, data := .dict #[] } = H2 at hns₁ hsb₁ hnew ⊢
  have hC : H2.objs.size = s₂.heap.objs.size + 1 := by rw [← hH2, Heap.size_push]
  have hDC : s₂.heap.objs.size ≠ H2.objs.size := by rw [hC]; exact Nat.ne_of_lt (Nat.lt_succ_self _)
  have below : ∀ b, b < s₂.heap.objs.size → b ≠ H2.objs.size ∧ b ≠ s₂.heap.objs.size := fun b hb => ⟨by rw [hC]; exact Nat.ne_of_lt (Nat.lt_succ_of_lt hb), Nat.ne_of_lt hb⟩
  have hDf : s₂.heap.objs.size ∉ fp := fun hm => Nat.lt_irrefl _ (X.lt _ hm)
  have hCf : H2.objs.size ∉ fp := fun hm => by have := X.lt _ hm; rw [hC] at this; exact Nat.lt_irrefl _ (Nat.lt_of_succ_lt this)
  have hIf : I ∈ fp := X.W.sub I (List.mem_singleton.mpr rfl)
  have hIlt : I < s₂.heap.objs.size := X.lt I hIf
  have old : ∀ b o, s₂.heap.get? b = some o → h₁.get? b = some o := fun b o e => hsb₁.extBut b o (below b (Heap.lt_size e)).1 (Heap.get?_push_of_some _ (hH2 ▸ Heap.get?_push_of_some _ e))
  have hacc : h₁.DictOf knd s₂.heap.objs.size [] := hnew.at fun o e => hsb₁.extBut _ _ hDC (Heap.get?_push_of_some _ e)
  have hst₁ : St 0 h₁ := X.W.frame _ _ _ X.st fun b _ o e => old b o e
  have fresh : ∀ a, s₂.heap.objs.size ≤ a → s₂.heap.get? a = none := fun a ha => by
    cases e : s₂.heap.get? a with
    | none => rfl
    | some o' => exact absurd (Heap.lt_size e) (Nat.not_lt.mpr ha)
  have fresh₀ : ∀ a, s₂.heap.objs.size ≤ a → h₀.get? a = none := fun a ha => by
    cases e : h₀.get? a with
    | none => rfl
    | some o' => have := X.F.keep a o' e; rw [fresh a ha] at this; cases this
  have hD₀ : h₀.get? s₂.heap.objs.size = none := fresh₀ _ (Nat.le_refl _)
  have hC₀ : h₀.get? H2.objs.size = none := fresh₀ _ (by rw [hC]; exact Nat.le_succ _)
  have hLlt : L < s₂.heap.objs.size := X.F.ns.lt
  have hDL : s₂.heap.objs.size ≠ L := Ne.symm (below L hLlt).2
  have hCL : H2.objs.size ≠ L := Ne.symm (below L hLlt).1
  have hCI : I ≠ H2.objs.size := (below I hIlt).1
  have hDI : I ≠ s₂.heap.objs.size := (below I hIlt).2
  have off₀ : LCg.Off3 I H2.objs.size s₂.heap.objs.size news := LCg.Off3.of fun p hp => ⟨X.offN p hp, (below _ (Heap.lt_size (X.N p hp).1)).1, (below _ (Heap.lt_size (X.N p hp).1)).2⟩
  have offm := off₀.mem
  have lastlt : ∀ p ∈ news, p.1 < s₂.heap.objs.size := fun p hp => Heap.lt_size (X.N p hp).1
  have loop : ∀ s₃ : Shared, s₃ = { s₂ with heap := h₁, toks := s₂.toks + ([] : List (Str × Value)).length } →
      codeAny (model prog w) A (.compLoop (.DictComp kx vx [⟨.Name x px, iter, [], 0⟩] scope pos) 0 (.ref I) (.ref s₂.heap.objs.size) (compEnvC scope cl H2.objs.size env))
        (compPost (model prog w) A E none Q (.ref s₂.heap.objs.size) H2.objs.size) s₃ := by
    rintro s₃ rfl
    refine codeAny_compLoop_testsD
      (fun k s' => ∃ h' tk i kvs oD m', s' = { s₂ with heap := h', toks := tk } ∧ i ≤ n ∧ k = n + 1 - i ∧ kvs.length ≤ i ∧ St i h' ∧ Fr h₀ L h' m ∧ h'.Ns H2.objs.size m' ∧ News h₀ L h' ((s₂.heap.objs.size, oD) :: news) ∧
        oD.IsDictOf knd kvs ∧ G i kvs) ?_ (n + 1) ?_
    · rintro k s' ⟨h', tk, i, kvs, oD, m', rfl, hi, rfl, hkl, hst', F', hn', N', hD', g'⟩
      by_cases hlt : i < n
      · refine X.W.item i _ _ _ hlt hst' fun v h₂ tk₂ hPv hst₂ hk₂ => ?_
        refine wpAny_assign_Name (wpAny_storeName_local (lookup_relabel_local hx) (hn'.at' fun o e => hk₂ _ o (by simpa using Ne.symm hCI) e) (fun h₃ hn₃ hs₃ => ?_) (by simp [compEnvC, relabel, hkind]))
        have hst₃ : St (i + 1) h₃ := X.W.frame _ _ _ hst₂ fun b hb o e => hs₃.extBut b o (fun q => hCf (by have q' : b = H2.objs.size := q; rw [← q']; exact hb)) e
        obtain ⟨oI, heI⟩ := X.obj _ _ hst₃
        obtain ⟨oC, heC, hoC⟩ := LCg.ns_obj hn₃
        have F₃ : Fr h₀ L h₃ m := (LCg.fr_but F' hk₂ X.off X.new).change hs₃ hCL hC₀
        have N₂ : News h₀ L h₂ ((s₂.heap.objs.size, oD) :: news) := LCg.news_but N' hk₂ fun p hp => by
          rcases List.mem_cons.mp hp with rfl | hp
          · exact Ne.symm hDI
          · exact (offm p hp).1
        have N₃ : News h₀ L h₃ ((I, oI) :: (H2.objs.size, oC) :: (s₂.heap.objs.size, oD) :: news) := fun p hp => by
          rcases List.mem_cons.mp hp with rfl | hp
          · exact ⟨heI, Ne.symm X.off, X.new⟩
          · rcases List.mem_cons.mp hp with rfl | hp
            · exact ⟨heC, hCL, hC₀⟩
            · have z := N₂ p hp
              refine ⟨hs₃.extBut _ _ ?_ z.1, z.2⟩
              rcases List.mem_cons.mp hp with rfl | hp
              · exact hDC
              · exact (offm p hp).2.1
        refine wpAny_pure ?_
        simp only [if_true]
        refine wpAny_mono (turn i v kvs oI H2.objs.size oC s₂.heap.objs.size oD _ { s₂ with heap := h₃, toks := _ } _ _ hlt hPv g' hoC (by simp) hD' F₃ N₃ off₀ ⟨hCI, hDI, Ne.symm hDC⟩ fun _ _ _ z => z) (fun key s₄ h₄ => wpAny_mono h₄ (fun vv s₅ h₅ => ?_) fun _ _ e => e) fun _ _ e => e
        obtain ⟨h5, tk5, kk, rfl, F₅, N₅, hkk, g₅⟩ := h₅
        have zI := (N₅ (I, oI) List.mem_cons_self).1
        have zC := (N₅ (H2.objs.size, oC) (List.mem_cons_of_mem _ List.mem_cons_self)).1
        have zD := (N₅ (s₂.heap.objs.size, oD) (List.mem_cons_of_mem _ (List.mem_cons_of_mem _ List.mem_cons_self))).1
        have N₅' : News h₀ L h5 news := fun p hp => N₅ p (List.mem_cons_of_mem _ (List.mem_cons_of_mem _ (List.mem_cons_of_mem _ hp)))
        have N₃' : News h₀ L h₃ news := fun p hp => N₃ p (List.mem_cons_of_mem _ (List.mem_cons_of_mem _ (List.mem_cons_of_mem _ hp)))
        have hst₅ : St (i + 1) h5 := X.keepSt hst₃ F₃ N₃' F₅ N₅' (zI.trans heI.symm)
        have hkv : kvs.length ≤ sizeLine := Nat.le_trans (Nat.le_trans hkl hi) X.size
        refine wpAny_dictSet_pairs (hsz := hkv) hkk (Heap.dictOf_iff.mpr ⟨oD, zD, hD'⟩) fun h₆ hl₆ hs₆ => ?_
        obtain ⟨oD₆, hoD₆, hD₆⟩ := Heap.dictOf_iff.mp hl₆
        have hsl := stored_length_le kvs kk vv
        refine ⟨n + 1 - (i + 1), by omega, h₆, _, i + 1, stored kvs kk vv, oD₆, _, rfl, hlt, rfl, by omega, ?_, F₅.change hs₆ hDL hD₀, (hoC.ns zC).sameBut hs₆ (Ne.symm hDC), ?_, hD₆, g₅⟩
        · exact X.W.frame _ _ _ hst₅ fun b hb o e => hs₆.extBut b o (fun q => hDf (q ▸ hb)) e
        · intro p hp
          rcases List.mem_cons.mp hp with rfl | hp
          · exact ⟨hoD₆, hDL, hD₀⟩
          · exact ⟨hs₆.extBut _ _ (offm p hp).2.2 (N₅' p hp).1, (N₅' p hp).2⟩
      · obtain rfl : i = n := Nat.le_antisymm hi (Nat.not_lt.mp hlt)
        refine X.W.done _ _ _ hst' fun h₂ tk₂ hk₂ => ?_
        have F₂ := LCg.fr_but F' hk₂ X.off X.new
        have N₂ : News h₀ L h₂ ((s₂.heap.objs.size, oD) :: news) := LCg.news_but N' hk₂ fun p hp => by
          rcases List.mem_cons.mp hp with rfl | hp
          · exact Ne.symm hDI
          · exact (offm p hp).1
        refine ⟨m', hn'.at' fun o e => hk₂ _ o (by simpa using Ne.symm hCI) e, fun h₃ hs₃ => ?_⟩
        refine done _ oD kvs h₃ tk₂ g' hD' (F₂.change hs₃ hCL hC₀) (fun p hp => ?_) lastlt
        have z := N₂ p hp
        refine ⟨hs₃.extBut _ _ ?_ z.1, z.2⟩
        rcases List.mem_cons.mp hp with rfl | hp
        · exact hDC
        · exact (offm p hp).2.1
    · obtain ⟨oD, hoD, hD⟩ := Heap.dictOf_iff.mp hacc
      refine ⟨h₁, _, 0, [], oD, _, rfl, Nat.zero_le _, rfl, Nat.le_refl _, hst₁, X.F.keeps old, hns₁, fun p hp => ?_, hD, g0⟩
      rcases List.mem_cons.mp hp with rfl | hp
      · exact ⟨hoD, hDL, hD₀⟩
      · exact ⟨old _ _ (X.N p hp).1, (X.N p hp).2⟩
  exact codeAny_compStart_dict (loop _ rfl) (X.W.self 0 _ _ _ hst₁ (loop _ rfl))

noncomputable def ListEnd (h₀ : Heap) (L : Addr) (m : Str → Option Value) (led : List (Addr × Obj)) (s₂ : Shared) (G : Value → Prop) (y : Value) (s₅ : Shared) : Prop :=
  ∃ h5 tk5, s₅ = { s₂ with heap := h5, toks := tk5 } ∧ Fr h₀ L h5 m ∧ News h₀ L h5 led ∧ G y
theorem ListEnd.intro {h₀ h5 : Heap} {L : Addr} {m : Str → Option Value} {led : List (Addr × Obj)} {s₂ : Shared} {G : Value → Prop} {y : Value} {tk5 : Nat}
    (F : Fr h₀ L h5 m) (N : News h₀ L h5 led) (g : G y) : ListEnd h₀ L m led s₂ G y { s₂ with heap := h5, toks := tk5 } := ⟨h5, tk5, rfl, F, N, g⟩

theorem listCompG {elt iter : PySem.Expr} {x : Str} {px : Pos} {ifs : List PySem.Expr} {scope : Scope} {cl : List (Str × Addr)} {pos : Pos} {Q : Value → Shared → Prop} (_F : Fr h₀ L s.heap m) (_N : News h₀ L s.heap news)
    (hclos : closureFor scope env = pure cl) (hcell : ∀ y ∈ scope.names, y.2 ≠ .cell) (hkind : scope.kind = .function)
    (hnames : ∀ y ∈ scope.names, y.2 = .local → scope.names.lookup y.1 = some .local) (hx : scope.names.lookup x = some .local)
    (h : wpAny (model prog w) A (eval iter env) (fun xv s₁ => wpAny (model prog w) A (pyIter xv) (fun it s₂ => ∃ I fp n P St news, it = .ref I ∧ Src prog w A h₀ L m news I fp n P St s₂ ∧ ∃ G : Nat → List Value → Prop, G 0 [] ∧
      (∀ i v ys oI C oC D m₂ (sT : Shared) (QT : Value → Shared → Prop) (QF : Shared → Prop) (E' : Value → Shared → Prop), i < n → P i v → G i ys → LCg.NsObj oC m₂ → m₂ x = some v → Fr h₀ L sT.heap m → News h₀ L sT.heap ((I, oI) :: (C, oC) :: (D, LCg.lst ys) :: news) → LCg.Off3 I C D news → ((@Ne Nat I C) ∧ (@Ne Nat I D) ∧ (@Ne Nat C D)) →
        (∀ y s₅, ListEnd h₀ L m ((I, oI) :: (C, oC) :: (D, LCg.lst ys) :: news) sT (fun y => G (i + 1) (ys ++ [y])) y s₅ → QT y s₅) →
        (∀ s₅, ListEnd h₀ L m ((I, oI) :: (C, oC) :: (D, LCg.lst ys) :: news) sT (fun _ => G (i + 1) ys) .none s₅ → QF s₅) →
        wpAny (model prog w) A (forIn ifs true fun c r => if r = true then do let ok ← isTrue c (compEnvC scope cl C env) (eval c (compEnvC scope cl C env)); pure (ForInStep.yield ok) else pure (ForInStep.yield r)) (fun b s₄ =>
          if b = true then wpAny (model prog w) A (eval elt (compEnvC scope cl C env)) QT E' s₄
          else QF s₄) E' sT) ∧
      (∀ D ys h tk, G n ys → ys.length ≤ n → Fr h₀ L h m → News h₀ L h ((D, LCg.lst ys) :: news) → (∀ p ∈ news, p.1 < D) → Q (.ref D) { s₂ with heap := h, toks := tk })) E s₁) E s)
    (hs : ∀ x, foldedSetIterable iter env x = pure x := by intro _; rfl) :
    wpAny (model prog w) A (eval (.ListComp elt [⟨.Name x px, iter, ifs, 0⟩] scope pos) env) Q E s := by
  rw [arm_eval_ListComp]
  refine wpAny_comprehension_free (use := none) rfl hs hclos hkind hnames (wpAny_mono h (fun xv s₁ h₁ => wpAny_mono h₁ (fun it s₂ h₂ => ?_) fun _ _ e => e) fun _ _ e => e)
  obtain ⟨I, fp, n, P, St, news, rfl, X, G, g0, turn, done⟩ := h₂
  refine wpAny_newObj_type (wpAny_newFunctionEnv hcell (by intro y hy; simp at hy) (fun h₁ hns₁ hsb₁ => ?_) hkind)
  dsimp only at hns₁ hsb₁ ⊢
  generalize hH2 : s₂.heap.push { cls := .type "list", dict := none, data := .seq ([] : List Value).toArray } = H2 at hns₁ hsb₁ ⊢
  have hC : H2.objs.size = s₂.heap.objs.size + 1 := by rw [← hH2, Heap.size_push]
  have hDC : s₂.heap.objs.size ≠ H2.objs.size := by rw [hC]; exact Nat.ne_of_lt (Nat.lt_succ_self _)
  have below : ∀ b, b < s₂.heap.objs.size → b ≠ H2.objs.size ∧ b ≠ s₂.heap.objs.size := fun b hb => ⟨by rw [hC]; exact Nat.ne_of_lt (Nat.lt_succ_of_lt hb), Nat.ne_of_lt hb⟩
  have hDf : s₂.heap.objs.size ∉ fp := fun hm => Nat.lt_irrefl _ (X.lt _ hm)
  have hCf : H2.objs.size ∉ fp := fun hm => by have := X.lt _ hm; rw [hC] at this; exact Nat.lt_irrefl _ (Nat.lt_of_succ_lt this)
  have hIf : I ∈ fp := X.W.sub I (List.mem_singleton.mpr rfl)
  have hIlt : I < s₂.heap.objs.size := X.lt I hIf
  have old : ∀ b o, s₂.heap.get? b = some o → h₁.get? b = some o := fun b o e => hsb₁.extBut b o (below b (Heap.lt_size e)).1 (Heap.get?_push_of_some _ (hH2 ▸ Heap.get?_push_of_some _ e))
  have hacc : h₁.get? s₂.heap.objs.size = some (LCg.lst []) := hsb₁.extBut _ _ hDC (Heap.get?_push_of_some _ (hH2 ▸ Heap.get?_push_size _ rfl))
  have hst₁ : St 0 h₁ := X.W.frame _ _ _ X.st fun b _ o e => old b o e
  have fresh : ∀ a, s₂.heap.objs.size ≤ a → s₂.heap.get? a = none := fun a ha => by
    cases e : s₂.heap.get? a with
    | none => rfl
    | some o' => exact absurd (Heap.lt_size e) (Nat.not_lt.mpr ha)
  have fresh₀ : ∀ a, s₂.heap.objs.size ≤ a → h₀.get? a = none := fun a ha => by
    cases e : h₀.get? a with
    | none => rfl
    | some o' => have := X.F.keep a o' e; rw [fresh a ha] at this; cases this
  have hD₀ : h₀.get? s₂.heap.objs.size = none := fresh₀ _ (Nat.le_refl _)
  have hC₀ : h₀.get? H2.objs.size = none := fresh₀ _ (by rw [hC]; exact Nat.le_succ _)
  have hLlt : L < s₂.heap.objs.size := X.F.ns.lt
  have hDL : s₂.heap.objs.size ≠ L := Ne.symm (below L hLlt).2
  have hCL : H2.objs.size ≠ L := Ne.symm (below L hLlt).1
  have hCI : I ≠ H2.objs.size := (below I hIlt).1
  have hDI : I ≠ s₂.heap.objs.size := (below I hIlt).2
  have off₀ : LCg.Off3 I H2.objs.size s₂.heap.objs.size news := LCg.Off3.of fun p hp => ⟨X.offN p hp, (below _ (Heap.lt_size (X.N p hp).1)).1, (below _ (Heap.lt_size (X.N p hp).1)).2⟩
  have offm := off₀.mem
  have lastlt : ∀ p ∈ news, p.1 < s₂.heap.objs.size := fun p hp => Heap.lt_size (X.N p hp).1
  have loop : ∀ s₃ : Shared, s₃ = { s₂ with heap := h₁, toks := s₂.toks + ([] : List (Str × Value)).length } →
      codeAny (model prog w) A (.compLoop (.ListComp elt [⟨.Name x px, iter, ifs, 0⟩] scope pos) 0 (.ref I) (.ref s₂.heap.objs.size) (compEnvC scope cl H2.objs.size env))
        (compPost (model prog w) A E none Q (.ref s₂.heap.objs.size) H2.objs.size) s₃ := by
    rintro s₃ rfl
    refine codeAny_compLoop_tests
      (fun k s' => ∃ h' tk i ys m', s' = { s₂ with heap := h', toks := tk } ∧ i ≤ n ∧ k = n + 1 - i ∧ ys.length ≤ i ∧ St i h' ∧ Fr h₀ L h' m ∧ h'.Ns H2.objs.size m' ∧ News h₀ L h' ((s₂.heap.objs.size, LCg.lst ys) :: news) ∧ G i ys) ?_ (n + 1) ?_
    · rintro k s' ⟨h', tk, i, ys, m', rfl, hi, rfl, hkl, hst', F', hn', N', g'⟩
      by_cases hlt : i < n
      · refine X.W.item i _ _ _ hlt hst' fun v h₂ tk₂ hPv hst₂ hk₂ => ?_
        refine wpAny_assign_Name (wpAny_storeName_local (lookup_relabel_local hx) (hn'.at' fun o e => hk₂ _ o (by simpa using Ne.symm hCI) e) (fun h₃ hn₃ hs₃ => ?_) (by simp [compEnvC, relabel, hkind]))
        have hst₃ : St (i + 1) h₃ := X.W.frame _ _ _ hst₂ fun b hb o e => hs₃.extBut b o (fun q => hCf (by have q' : b = H2.objs.size := q; rw [← q']; exact hb)) e
        obtain ⟨oI, heI⟩ := X.obj _ _ hst₃
        obtain ⟨oC, heC, hoC⟩ := LCg.ns_obj hn₃
        have F₃ : Fr h₀ L h₃ m := (LCg.fr_but F' hk₂ X.off X.new).change hs₃ hCL hC₀
        have N₂ : News h₀ L h₂ ((s₂.heap.objs.size, LCg.lst ys) :: news) := LCg.news_but N' hk₂ fun p hp => by
          rcases List.mem_cons.mp hp with rfl | hp
          · exact Ne.symm hDI
          · exact (offm p hp).1
        have N₃ : News h₀ L h₃ ((I, oI) :: (H2.objs.size, oC) :: (s₂.heap.objs.size, LCg.lst ys) :: news) := fun p hp => by
          rcases List.mem_cons.mp hp with rfl | hp
          · exact ⟨heI, Ne.symm X.off, X.new⟩
          · rcases List.mem_cons.mp hp with rfl | hp
            · exact ⟨heC, hCL, hC₀⟩
            · have z := N₂ p hp
              refine ⟨hs₃.extBut _ _ ?_ z.1, z.2⟩
              rcases List.mem_cons.mp hp with rfl | hp
              · exact hDC
              · exact (offm p hp).2.1
        refine wpAny_mono (turn i v ys oI H2.objs.size oC s₂.heap.objs.size _ { s₂ with heap := h₃, toks := _ } _ _ _ hlt hPv g' hoC (by simp) F₃ N₃ off₀ ⟨hCI, hDI, Ne.symm hDC⟩ (fun _ _ z => z) fun _ z => z) (fun ok s₄ h₄ => ?_) fun _ _ e => e
        have N₃' : News h₀ L h₃ news := fun p hp => N₃ p (List.mem_cons_of_mem _ (List.mem_cons_of_mem _ (List.mem_cons_of_mem _ hp)))
        cases ok with
        | true =>
          simp only [if_true] at h₄ ⊢
          refine wpAny_mono h₄ (fun y s₅ h₅ => ?_) fun _ _ e => e
          obtain ⟨h5, tk5, rfl, F₅, N₅, g₅⟩ := h₅
          have zI := (N₅ (I, oI) List.mem_cons_self).1
          have zC := (N₅ (H2.objs.size, oC) (List.mem_cons_of_mem _ List.mem_cons_self)).1
          have zD := (N₅ (s₂.heap.objs.size, LCg.lst ys) (List.mem_cons_of_mem _ (List.mem_cons_of_mem _ List.mem_cons_self))).1
          have N₅' : News h₀ L h5 news := fun p hp => N₅ p (List.mem_cons_of_mem _ (List.mem_cons_of_mem _ (List.mem_cons_of_mem _ hp)))
          have hst₅ : St (i + 1) h5 := X.keepSt hst₃ F₃ N₃' F₅ N₅' (zI.trans heI.symm)
          refine append_at (hsz := by show ys.toArray.size ≤ sizeLine; rw [List.size_toArray]; exact Nat.le_trans (Nat.le_trans hkl hi) X.size) zD fun h₆ hs₆ hD₆ => ?_
          refine ⟨n + 1 - (i + 1), by omega, h₆, _, i + 1, ys ++ [y], _, rfl, hlt, rfl, by rw [List.length_append, List.length_singleton]; exact Nat.succ_le_succ hkl, ?_, F₅.change hs₆ hDL hD₀, (hoC.ns zC).sameBut hs₆ (Ne.symm hDC), ?_, g₅⟩
          · exact X.W.frame _ _ _ hst₅ fun b hb o e => hs₆.extBut b o (fun q => hDf (q ▸ hb)) e
          · intro p hp
            rcases List.mem_cons.mp hp with rfl | hp
            · exact ⟨hD₆.trans (congrArg some (LCg.lst_snoc ys y)), hDL, hD₀⟩
            · exact ⟨hs₆.extBut _ _ (offm p hp).2.2 (N₅' p hp).1, (N₅' p hp).2⟩
        | false =>
          simp only [Bool.false_eq_true, if_false] at h₄ ⊢
          obtain ⟨h5, tk5, rfl, F₅, N₅, g₅⟩ := h₄
          have zI := (N₅ (I, oI) List.mem_cons_self).1
          have zC := (N₅ (H2.objs.size, oC) (List.mem_cons_of_mem _ List.mem_cons_self)).1
          have N₅' : News h₀ L h5 news := fun p hp => N₅ p (List.mem_cons_of_mem _ (List.mem_cons_of_mem _ (List.mem_cons_of_mem _ hp)))
          have hst₅ : St (i + 1) h5 := X.keepSt hst₃ F₃ N₃' F₅ N₅' (zI.trans heI.symm)
          exact ⟨n + 1 - (i + 1), by omega, h5, _, i + 1, ys, _, rfl, hlt, rfl, Nat.le_succ_of_le hkl, hst₅, F₅, hoC.ns zC, fun p hp => N₅ p (List.mem_cons_of_mem _ (List.mem_cons_of_mem _ hp)), g₅⟩
      · obtain rfl : i = n := Nat.le_antisymm hi (Nat.not_lt.mp hlt)
        refine X.W.done _ _ _ hst' fun h₂ tk₂ hk₂ => ?_
        have F₂ := LCg.fr_but F' hk₂ X.off X.new
        have N₂ : News h₀ L h₂ ((s₂.heap.objs.size, LCg.lst ys) :: news) := LCg.news_but N' hk₂ fun p hp => by
          rcases List.mem_cons.mp hp with rfl | hp
          · exact Ne.symm hDI
          · exact (offm p hp).1
        refine ⟨m', hn'.at' fun o e => hk₂ _ o (by simpa using Ne.symm hCI) e, fun h₃ hs₃ => ?_⟩
        refine done _ ys h₃ tk₂ g' hkl (F₂.change hs₃ hCL hC₀) (fun p hp => ?_) lastlt
        have z := N₂ p hp
        refine ⟨hs₃.extBut _ _ ?_ z.1, z.2⟩
        rcases List.mem_cons.mp hp with rfl | hp
        · exact hDC
        · exact (offm p hp).2.1
    · refine ⟨h₁, _, 0, [], _, rfl, Nat.zero_le _, rfl, Nat.le_refl _, hst₁, X.F.keeps old, hns₁, fun p hp => ?_, g0⟩
      rcases List.mem_cons.mp hp with rfl | hp
      · exact ⟨hacc, hDL, hD₀⟩
      · exact ⟨old _ _ (X.N p hp).1, (X.N p hp).2⟩
  exact codeAny_compStart_list (loop _ rfl) (X.W.self 0 _ _ _ hst₁ (loop _ rfl))

/-- a comprehension without a test -/
theorem listComp0 {elt iter : PySem.Expr} {x : Str} {px : Pos} {scope : Scope} {cl : List (Str × Addr)} {pos : Pos} {Q : Value → Shared → Prop} (F : Fr h₀ L s.heap m) (N : News h₀ L s.heap news)
    (hclos : closureFor scope env = pure cl) (hcell : ∀ y ∈ scope.names, y.2 ≠ .cell) (hkind : scope.kind = .function)
    (hnames : ∀ y ∈ scope.names, y.2 = .local → scope.names.lookup y.1 = some .local) (hx : scope.names.lookup x = some .local)
    (h : wpAny (model prog w) A (eval iter env) (fun xv s₁ => wpAny (model prog w) A (pyIter xv) (fun it s₂ => ∃ I fp n P St news, it = .ref I ∧ Src prog w A h₀ L m news I fp n P St s₂ ∧ ∃ G : Nat → List Value → Prop, G 0 [] ∧
      (∀ i v ys oI C oC D m₂ (sT : Shared) (QT : Value → Shared → Prop) (E' : Value → Shared → Prop), i < n → P i v → G i ys → LCg.NsObj oC m₂ → m₂ x = some v → Fr h₀ L sT.heap m → News h₀ L sT.heap ((I, oI) :: (C, oC) :: (D, LCg.lst ys) :: news) → LCg.Off3 I C D news → ((@Ne Nat I C) ∧ (@Ne Nat I D) ∧ (@Ne Nat C D)) →
        (∀ y s₅, ListEnd h₀ L m ((I, oI) :: (C, oC) :: (D, LCg.lst ys) :: news) sT (fun y => G (i + 1) (ys ++ [y])) y s₅ → QT y s₅) →
        wpAny (model prog w) A (eval elt (compEnvC scope cl C env)) QT E' sT) ∧
      (∀ D ys h tk, G n ys → ys.length ≤ n → Fr h₀ L h m → News h₀ L h ((D, LCg.lst ys) :: news) → (∀ p ∈ news, p.1 < D) → Q (.ref D) { s₂ with heap := h, toks := tk })) E s₁) E s)
    (hs : ∀ x, foldedSetIterable iter env x = pure x := by intro _; rfl) :
    wpAny (model prog w) A (eval (.ListComp elt [⟨.Name x px, iter, [], 0⟩] scope pos) env) Q E s := by
  refine listCompG F N hclos hcell hkind hnames hx (wpAny_mono h (fun xv s₁ h₁ => wpAny_mono h₁ (fun it s₂ h₂ => ?_) fun _ _ e => e) fun _ _ e => e) hs
  obtain ⟨I, fp, n, P, St, news, rfl, X, G, g0, turn, done⟩ := h₂
  refine ⟨I, fp, n, P, St, news, rfl, X, G, g0, fun i v ys oI C oC D m₂ sT QT QF E' a1 a2 a3 a4 a5 a6 a7 a8 a9 b1 b2 => ?_, done⟩
  refine wpAny_pure ?_
  simp only [if_true]
  exact turn i v ys oI C oC D m₂ sT QT E' a1 a2 a3 a4 a5 a6 a7 a8 a9 b1

/-- a comprehension with one test -/
theorem listComp1 {ct elt iter : PySem.Expr} {x : Str} {px : Pos} {scope : Scope} {cl : List (Str × Addr)} {pos : Pos} {Q : Value → Shared → Prop} (F : Fr h₀ L s.heap m) (N : News h₀ L s.heap news)
    (hclos : closureFor scope env = pure cl) (hcell : ∀ y ∈ scope.names, y.2 ≠ .cell) (hkind : scope.kind = .function)
    (hnames : ∀ y ∈ scope.names, y.2 = .local → scope.names.lookup y.1 = some .local) (hx : scope.names.lookup x = some .local)
    (h : wpAny (model prog w) A (eval iter env) (fun xv s₁ => wpAny (model prog w) A (pyIter xv) (fun it s₂ => ∃ I fp n P St news, it = .ref I ∧ Src prog w A h₀ L m news I fp n P St s₂ ∧ ∃ G : Nat → List Value → Prop, G 0 [] ∧
      (∀ i v ys oI C oC D m₂ (sT : Shared) (QT : Value → Shared → Prop) (QF : Shared → Prop) (E' : Value → Shared → Prop), i < n → P i v → G i ys → LCg.NsObj oC m₂ → m₂ x = some v → Fr h₀ L sT.heap m → News h₀ L sT.heap ((I, oI) :: (C, oC) :: (D, LCg.lst ys) :: news) → LCg.Off3 I C D news → ((@Ne Nat I C) ∧ (@Ne Nat I D) ∧ (@Ne Nat C D)) →
        (∀ y s₅, ListEnd h₀ L m ((I, oI) :: (C, oC) :: (D, LCg.lst ys) :: news) sT (fun y => G (i + 1) (ys ++ [y])) y s₅ → QT y s₅) →
        (∀ s₅, ListEnd h₀ L m ((I, oI) :: (C, oC) :: (D, LCg.lst ys) :: news) sT (fun _ => G (i + 1) ys) .none s₅ → QF s₅) →
        wpAny (model prog w) A (isTrue ct (compEnvC scope cl C env) (eval ct (compEnvC scope cl C env))) (fun b s₄ =>
          if b = true then wpAny (model prog w) A (eval elt (compEnvC scope cl C env)) QT E' s₄
          else QF s₄) E' sT) ∧
      (∀ D ys h tk, G n ys → ys.length ≤ n → Fr h₀ L h m → News h₀ L h ((D, LCg.lst ys) :: news) → (∀ p ∈ news, p.1 < D) → Q (.ref D) { s₂ with heap := h, toks := tk })) E s₁) E s)
    (hs : ∀ x, foldedSetIterable iter env x = pure x := by intro _; rfl) :
    wpAny (model prog w) A (eval (.ListComp elt [⟨.Name x px, iter, [ct], 0⟩] scope pos) env) Q E s := by
  refine listCompG F N hclos hcell hkind hnames hx (wpAny_mono h (fun xv s₁ h₁ => wpAny_mono h₁ (fun it s₂ h₂ => ?_) fun _ _ e => e) fun _ _ e => e) hs
  obtain ⟨I, fp, n, P, St, news, rfl, X, G, g0, turn, done⟩ := h₂
  exact ⟨I, fp, n, P, St, news, rfl, X, G, g0, fun i v ys oI C oC D m₂ sT QT QF E' a1 a2 a3 a4 a5 a6 a7 a8 a9 b1 b2 => wpAny_tests_one (turn i v ys oI C oC D m₂ sT QT QF E' a1 a2 a3 a4 a5 a6 a7 a8 a9 b1 b2), done⟩

theorem src_list {l : Addr} {vs : List Value} {nn : Nat} {Q : Value → Shared → Prop} (hh : A.handled = none) (hsz : vs.length ≤ sizeLine) (F : Fr h₀ L s.heap m) (N : News h₀ L s.heap news) (hm : (l, W.listOf vs.toArray nn) ∈ news)
    (h : ∀ I St h', Src prog w A h₀ L m news I [I, l] vs.length (fun i v => vs[i]? = some v) St { s with heap := h' } → Q (.ref I) { s with heap := h' }) : wpAny (model prog w) A (pyIter (.ref l)) Q E s := by
  have hls : s.heap.IsList l vs.toArray := ⟨_, (N _ hm).1, rfl, _, rfl⟩
  have hlt : l < s.heap.objs.size := Heap.lt_size (N _ hm).1
  have hne : l ≠ s.heap.objs.size := Nat.ne_of_lt hlt
  refine wpAny_pyIter_list hls ?_
  have W := Walks.list (prog := prog) (w := w) hh s.heap.objs.size l hne vs.toArray
  have hlen : vs.toArray.size = vs.length := by simp
  rw [hlen] at W
  simp only [List.getElem?_toArray] at W
  have hL : L ≠ s.heap.objs.size := fun e => absurd F.ns.lt (e ▸ Nat.lt_irrefl _)
  refine h _ _ _ ⟨W, hsz, ⟨⟨_, Heap.get?_push_size _ rfl, rfl, rfl⟩, hls.at fun o e => Heap.get?_push_of_some _ e⟩, ?_, (fun i h st => let ⟨o, ho, _⟩ := st.1; ⟨o, ho⟩), ?_, next_is_new F, hL, fresh_ne N, F.push _, fun p hp => ⟨Heap.get?_push_of_some _ (N p hp).1, (N p hp).2⟩⟩
  · intro b hb
    show b < (s.heap.push _).objs.size
    rw [Heap.size_push]
    rcases List.mem_cons.mp hb with rfl | hb
    · exact Nat.lt_succ_self _
    · rw [List.mem_singleton.mp hb]; exact Nat.lt_succ_of_lt hlt
  · intro b hb
    rcases List.mem_cons.mp hb with e | hb
    · exact .inl e
    · rw [List.mem_singleton.mp hb]; exact .inr (.inr ⟨_, hm⟩)

theorem src_range {r : Addr} {a₀ b₀ : Int} {t₀ u₀ v₀ : Tok} {n : Nat} {Q : Value → Shared → Prop} (hh : A.handled = none) (hr : IsRange s.heap r a₀ b₀ 1 t₀ u₀ v₀) (hsmall : Builtin.Range.small a₀ b₀ 1 = true) (hn : Builtin.Range.rangeSize a₀ b₀ 1 = (n : Int)) (hsz : n ≤ sizeLine)
    (F : Fr h₀ L s.heap m) (N : News h₀ L s.heap news)
    (h : ∀ I St h', Src prog w A h₀ L m news I [I] n (fun i v => i < n ∧ ∃ t, v = .int (a₀ + (i : Int)) t) St { s with heap := h' } → Q (.ref I) { s with heap := h' }) : wpAny (model prog w) A (pyIter (.ref r)) Q E s := by
  refine wpAny_pyIter_range hr hsmall ?_
  have W : Walks prog w A s.heap.objs.size [s.heap.objs.size] [s.heap.objs.size] n (fun i v => i < n ∧ ∃ t, v = .int (a₀ + i * 1) t)
      (fun i h => IsRangeIter h s.heap.objs.size (a₀ + (i : Nat) * 1) ((n : Int) - (i : Nat)) 1) := (Walks.range hh _ a₀ 1 n).bound
  simp only [Int.mul_one] at W
  have hL : L ≠ s.heap.objs.size := fun e => absurd F.ns.lt (e ▸ Nat.lt_irrefl _)
  exact h _ _ _ ⟨W, hsz, (by show IsRangeIter _ _ _ _ _; rw [hn]; simpa using Heap.get?_push_size _ rfl), (fun b hb => by rw [List.mem_singleton.mp hb]; show _ < (s.heap.push _).objs.size; rw [Heap.size_push]; exact Nat.lt_succ_self _), (fun i h st => ⟨_, st⟩),
    (fun b hb => .inl (List.mem_singleton.mp hb)), next_is_new F, hL, fresh_ne N, F.push _, fun p hp => ⟨Heap.get?_push_of_some _ (N p hp).1, (N p hp).2⟩⟩

theorem src_dict {d : Addr} {od : Obj} {kvs : List (Int × Value)} {Q : Value → Shared → Prop} (hh : A.handled = none) (lo : (d == sysModules) = false) (hd : od.IsDictOf (PySem.intKind prog w) kvs) (hsz : kvs.length ≤ sizeLine)
    (F : Fr h₀ L s.heap m) (N : News h₀ L s.heap news) (hm : (d, od) ∈ news)
    (h : ∀ I St h', Src prog w A h₀ L m news I [I, d] kvs.length (fun i v => ∃ k x, kvs[i]? = some (k, x) ∧ (PySem.intKind prog w).is k v = true) St { s with heap := h' } → Q (.ref I) { s with heap := h' }) : wpAny (model prog w) A (pyIter (.ref d)) Q E s := by
  have hdo : s.heap.DictOf (PySem.intKind prog w) d kvs := Heap.dictOf_iff.mpr ⟨od, (N _ hm).1, hd⟩
  obtain ⟨ep, hat⟩ := hdo.dictAt
  have hne : d ≠ s.heap.objs.size := Nat.ne_of_lt hat.lt_size
  refine wpAny_pyIter_dict lo hat ?_
  have hL : L ≠ s.heap.objs.size := fun e => absurd F.ns.lt (e ▸ Nat.lt_irrefl _)
  refine h _ _ _ ⟨Walks.dictKeys (knd := PySem.intKind prog w) hh _ d hne kvs ep, hsz, ⟨⟨_, Heap.get?_push_size _ rfl, rfl, rfl⟩, hat.push _⟩, ?_, (fun i h st => let ⟨o, ho, _⟩ := st.1; ⟨o, ho⟩), ?_, next_is_new F, hL, fresh_ne N, F.push _, fun p hp => ⟨Heap.get?_push_of_some _ (N p hp).1, (N p hp).2⟩⟩
  · intro b hb
    show b < (s.heap.push _).objs.size
    rw [Heap.size_push]
    rcases List.mem_cons.mp hb with rfl | hb
    · exact Nat.lt_succ_self _
    · rw [List.mem_singleton.mp hb]; exact Nat.lt_succ_of_lt hat.lt_size
  · intro b hb
    rcases List.mem_cons.mp hb with e | hb
    · exact .inl e
    · rw [List.mem_singleton.mp hb]; exact .inr (.inr ⟨_, hm⟩)
end

noncomputable def placesOf (st : Int) : Option (List Int) := (pf 0 32 st []).bind fun R =>
  if JoinOk (PySem.Str.ofString ", ") R = true ∧ PySem.Txt.split (PySem.Txt.join (PySem.Str.ofString ", ") R) (PySem.Str.ofString ", ") = R ∧ (PySem.Txt.join (PySem.Str.ofString ", ") R).length ≤ 1000 ∧ R.length = 5 ∧ (R.all fun w => decide (words.idxOf w < 15)) = true
  then some (R.map fun w => (words.idxOf w : Int)) else none
noncomputable def kfreeTo (P : List Int) (z : Int) (i : Nat) : List Int := (rangeKs 0 i).filter fun j => !(P.any fun x => x == P.getD j.toNat 0 + z)
noncomputable def kfree (P : List Int) (z : Int) : List Int := kfreeTo P z 5
theorem kfreeTo_yes {P : List Int} {z : Int} {i : Nat} (h : (P.any fun x => x == P.getD (0 + (i : Int)).toNat 0 + z) = false) : kfreeTo P z (i + 1) = kfreeTo P z i ++ [0 + (i : Int)] := by
  unfold kfreeTo
  have e : rangeKs 0 (i + 1) = rangeKs 0 i ++ [0 + (i : Int)] := by simp [rangeKs, List.range_succ]
  rw [e, List.filter_append]
  simp only [List.filter_cons, h, List.filter_nil]
  simp
theorem kfreeTo_no {P : List Int} {z : Int} {i : Nat} (h : (P.any fun x => x == P.getD (0 + (i : Int)).toNat 0 + z) = true) : kfreeTo P z (i + 1) = kfreeTo P z i := by
  unfold kfreeTo
  have e : rangeKs 0 (i + 1) = rangeKs 0 i ++ [0 + (i : Int)] := by simp [rangeKs, List.range_succ]
  rw [e, List.filter_append]
  simp only [List.filter_cons, h, List.filter_nil]
  simp
theorem kfree_mem {P : List Int} {z k : Int} (h : k ∈ kfree P z) : 0 ≤ k ∧ k < 5 := by
  have := mem_rangeKs (List.mem_filter.mp h).1
  omega
theorem kfree_len (P : List Int) (z : Int) : (kfree P z).length ≤ 5 := by
  unfold kfree kfreeTo
  exact Nat.le_trans (List.length_filter_le _ _) (by rw [rangeKs_length]; exact Nat.le_refl _)
noncomputable def passedOf (P : List Int) (k : Int) (goal : Int) : Int := (((P.drop (k + 1).toNat).filter fun o => decide (o < goal)).length : Int)
noncomputable def stepK (P : List Int) (z st v : Int) (c : List (Int × Int)) (k : Int) : List (Int × Int) :=
  let goal := P.getD k.toNat 0 + z
  let counted := if (passedOf P k goal).fmod 2 = 1 then -v else v
  let changed := Builtin.bitXor st (Builtin.bitXor (1 * 2 ^ (P.getD k.toNat 0).toNat) (1 * 2 ^ goal.toNat))
  kdfPut c changed (kdfLook c changed 0 + counted)
noncomputable def stepS (tab : List (Int × Int)) (z : Int) (c : List (Int × Int)) (st : Int) : Option (List (Int × Int)) :=
  if 0 ≤ z ∧ z ≤ 10 ∧ 0 ≤ st ∧ st < 1048576 ∧ c.length ≤ 1000 then
    if z = 0 then some (kdfPut c (st * 2 ^ 3) (kdfLook tab st 0))
    else (placesOf st).bind fun P => some ((kfree P z).foldl (stepK P z st (kdfLook tab st 0)) c)
  else none
noncomputable def stepTo (tab : List (Int × Int)) (z : Int) : Nat → Option (List (Int × Int))
  | 0 => some []
  | i + 1 => (stepTo tab z i).bind fun c => (tab[i]?).bind fun p => stepS tab z c p.1
noncomputable def tblTo (ns : List Int) : Nat → Option (List (Int × Int))
  | 0 => some [(31, 1)]
  | i + 1 => (tblTo ns i).bind fun c => (ns[i]?).bind fun z => if c.length ≤ 1000 then stepTo c z c.length else none
noncomputable def shiftTo (c : List (Int × Int)) (beh : Int) : Nat → List (Int × Int)
  | 0 => []
  | i + 1 => match c[i]? with
    | some p => kdfPut (shiftTo c beh i) (p.1 * 2 ^ beh.toNat) (kdfLook c p.1 0)
    | none => shiftTo c beh i
noncomputable def small (c : List (Int × Int)) : Bool := decide (c.length ≤ 1000) && c.all fun p => decide (0 ≤ p.1) && decide (p.1 < 1048576)

theorem stepTo_down {tab : List (Int × Int)} {z : Int} : ∀ {k n : Nat} {x : List (Int × Int)}, k ≤ n → stepTo tab z n = some x → ∃ y, stepTo tab z k = some y
  | k, 0, x, h, e => by obtain rfl : k = 0 := by omega
                        exact ⟨x, e⟩
  | k, n + 1, x, h, e => by
    rcases Nat.lt_or_ge k (n + 1) with h1 | h1
    · rw [stepTo] at e
      obtain ⟨y, hy, _⟩ := Option.bind_eq_some_iff.mp e
      exact stepTo_down (by omega) hy
    · obtain rfl : k = n + 1 := by omega
      exact ⟨x, e⟩
theorem tblTo_down {ns : List Int} : ∀ {k n : Nat} {x : List (Int × Int)}, k ≤ n → tblTo ns n = some x → ∃ y, tblTo ns k = some y
  | k, 0, x, h, e => by obtain rfl : k = 0 := by omega
                        exact ⟨x, e⟩
  | k, n + 1, x, h, e => by
    rcases Nat.lt_or_ge k (n + 1) with h1 | h1
    · rw [tblTo] at e
      obtain ⟨y, hy, _⟩ := Option.bind_eq_some_iff.mp e
      exact tblTo_down (by omega) hy
    · obtain rfl : k = n + 1 := by omega
      exact ⟨x, e⟩
theorem tblTo_step {ns : List Int} {i : Nat} {c R : List (Int × Int)} {z : Int} (hR : tblTo ns ns.length = some R) (hc : tblTo ns i = some c) (hz : ns[i]? = some z) : ∃ c', tblTo ns (i + 1) = some c' ∧ stepTo c z c.length = some c' ∧ c.length ≤ 1000 := by
  have hi : i < ns.length := (List.getElem?_eq_some_iff.mp hz).1
  obtain ⟨c', h'⟩ := tblTo_down (show i + 1 ≤ ns.length by omega) hR
  have h2 := h'
  rw [tblTo, hc, Option.bind_some, hz, Option.bind_some] at h2
  split at h2
  · exact ⟨c', h', h2, by assumption⟩
  · cases h2
theorem stepTo_step {c cm c' : List (Int × Int)} {z k : Int} {i : Nat} {v : Int} (hR : stepTo c z c.length = some c') (hc : stepTo c z i = some cm) (hz : c[i]? = some (k, v)) : ∃ c2, stepTo c z (i + 1) = some c2 ∧ stepS c z cm k = some c2 := by
  have hi : i < c.length := (List.getElem?_eq_some_iff.mp hz).1
  obtain ⟨c2, h2⟩ := stepTo_down (show i + 1 ≤ c.length by omega) hR
  have h3 := h2
  rw [stepTo, hc, Option.bind_some, hz, Option.bind_some] at h3
  exact ⟨c2, h2, h3⟩
theorem kdfHas_of {c : List (Int × Int)} {k v : Int} {i : Nat} (h : c[i]? = some (k, v)) : kdfHas c k = true := by
  unfold kdfHas
  exact List.any_eq_true.mpr ⟨(k, v), List.mem_of_getElem? h, by simp⟩
theorem flat_at {kvs : List (Int × Value)} {c : List (Int × Int)} (hf : FlatPairs PyData.int kvs (kdfD c)) {i : Nat} {k : Int} {x : Value} (h : kvs[i]? = some (k, x)) : ∃ v, c[i]? = some (k, v) := by
  obtain ⟨dv, hD, _⟩ := hf.at h
  unfold kdfD at hD
  rw [List.getElem?_map] at hD
  obtain ⟨p, hp, e⟩ := Option.map_eq_some_iff.mp hD
  have e1 : p.1 = k := by injection e with e1 _; injection e1
  exact ⟨p.2, by rw [hp, ← e1]⟩
theorem idx_word {w : Str} (h : words.idxOf w < 15) : words.getD (words.idxOf w) PySem.Str.empty = w := by
  have h2 : words.idxOf w < words.length := h
  rw [List.getD_eq_getElem?_getD, List.getElem?_eq_getElem h2, Option.getD_some]
  exact List.getElem_idxOf h2
theorem strVal_at {l : List (Str × Tok)} {Rw : List Str} (h : l.map (·.1) = Rw) {i : Nat} {v : Value} (hv : (strValues l)[i]? = some v) : ∃ w t, v = .str w t ∧ Rw[i]? = some w := by
  unfold strValues at hv
  rw [List.getElem?_map] at hv
  obtain ⟨p, hp, e⟩ := Option.map_eq_some_iff.mp hv
  exact ⟨p.1, p.2, e.symm, by rw [← h, List.getElem?_map, hp]; rfl⟩
theorem take_map_snoc {α : Type} {f : α → Int} {Rw : List α} {i : Nat} {w : α} (h : Rw[i]? = some w) : (Rw.take (i + 1)).map f = (Rw.take i).map f ++ [f w] := by
  rw [List.take_add_one, h]; simp
theorem getD_mem {P : List Int} {k : Int} (h0 : 0 ≤ k) (h : k < P.length) : P.getD k.toNat 0 ∈ P := by
  have h2 : k.toNat < P.length := by omega
  rw [List.getD_eq_getElem?_getD, List.getElem?_eq_getElem h2, Option.getD_some]
  exact List.getElem_mem h2
theorem inner_sub {a b c e p : Addr × Obj} {r : List (Addr × Obj)} (h : p ∈ c :: e :: r) : p ∈ a :: b :: c :: e :: r := .tail _ (.tail _ h)
theorem filt_yes {l : List Int} {i : Nat} {w g : Int} (h : l[i]? = some w) (hw : w < g) : ((l.take (i + 1)).filter fun o => decide (o < g)) = ((l.take i).filter fun o => decide (o < g)) ++ [w] := by
  rw [List.take_add_one, h, List.filter_append]
  simp [hw]
theorem filt_no {l : List Int} {i : Nat} {w g : Int} (h : l[i]? = some w) (hw : ¬ w < g) : ((l.take (i + 1)).filter fun o => decide (o < g)) = (l.take i).filter fun o => decide (o < g) := by
  rw [List.take_add_one, h, List.filter_append]
  simp [hw]
theorem flat_len {kvs : List (Int × Value)} {c : List (Int × Int)} (hf : FlatPairs PyData.int kvs (kdfD c)) : kvs.length = c.length := by
  have := hf.length
  rw [kdfD_length] at this
  exact this.symm

theorem small_at {c : List (Int × Int)} (h : small c = true) {i : Nat} {k v : Int} (hk : c[i]? = some (k, v)) : 0 ≤ k ∧ k < 1048576 := by
  unfold small at h
  rw [Bool.and_eq_true] at h
  have := List.all_eq_true.mp h.2 _ (List.mem_of_getElem? hk)
  rw [Bool.and_eq_true] at this
  exact ⟨of_decide_eq_true this.1, of_decide_eq_true this.2⟩
theorem shiftTo_step {c : List (Int × Int)} {beh : Int} {i : Nat} {k v : Int} (h : c[i]? = some (k, v)) : shiftTo c beh (i + 1) = kdfPut (shiftTo c beh i) (k * 2 ^ beh.toNat) (kdfLook c k 0) := by
  rw [shiftTo, h]
theorem shiftTo_len (c : List (Int × Int)) (beh : Int) : ∀ i, (shiftTo c beh i).length ≤ i
  | 0 => Nat.le_refl _
  | i + 1 => by
    rw [shiftTo]
    have := shiftTo_len c beh i
    split
    · exact Nat.le_trans (kdfPut_len _ _ _) (by omega)
    · omega

theorem small_len {c : List (Int × Int)} (h : small c = true) : c.length ≤ 1000 := by
  unfold small at h
  rw [Bool.and_eq_true] at h
  exact of_decide_eq_true h.1
theorem lo_of {L D : Addr} (h : @LT.lt Nat _ (L + 1) D) : (D == sysModules) = false := by
  have : D ≠ 1 := by
    intro e
    subst e
    exact absurd h (Nat.not_lt.mpr (Nat.le_add_left 1 L))
  simpa [sysModules] using this

theorem stepK_odd {P : List Int} {z st v k : Int} {c : List (Int × Int)} (h : (passedOf P k (P.getD k.toNat 0 + z)).fmod 2 = 1) :
    kdfPut c (Builtin.bitXor st (Builtin.bitXor (1 * 2 ^ (P.getD k.toNat 0).toNat) (1 * 2 ^ (P.getD k.toNat 0 + z).toNat))) (kdfLook c (Builtin.bitXor st (Builtin.bitXor (1 * 2 ^ (P.getD k.toNat 0).toNat) (1 * 2 ^ (P.getD k.toNat 0 + z).toNat))) 0 + -v) = stepK P z st v c k := by
  unfold stepK
  dsimp only
  rw [if_pos h]
theorem stepK_even {P : List Int} {z st v k : Int} {c : List (Int × Int)} (h : (passedOf P k (P.getD k.toNat 0 + z)).fmod 2 ≠ 1) :
    kdfPut c (Builtin.bitXor st (Builtin.bitXor (1 * 2 ^ (P.getD k.toNat 0).toNat) (1 * 2 ^ (P.getD k.toNat 0 + z).toNat))) (kdfLook c (Builtin.bitXor st (Builtin.bitXor (1 * 2 ^ (P.getD k.toNat 0).toNat) (1 * 2 ^ (P.getD k.toNat 0 + z).toNat))) 0 + v) = stepK P z st v c k := by
  unfold stepK
  dsimp only
  rw [if_neg h]

-- all leads
noncomputable def comps (n : Nat) : List (List Int) := (List.range (2 ^ n)).map fun (k : Nat) => runsTo (k : Int) n

local macro_rules | `(tactic| k_ne) => `(tactic| (refine neN ?_; (try dsimp only); first
  | exact allNe_mem (by assumption) (by first | exact .head _ | exact .tail _ (.head _) | exact .tail _ (.tail _ (.head _)) | exact .tail _ (.tail _ (.tail _ (.head _))) | exact .tail _ (.tail _ (.tail _ (.tail _ (.head _)))) | exact .tail _ (.tail _ (.tail _ (.tail _ (.tail _ (.head _))))) | exact .tail _ (.tail _ (.tail _ (.tail _ (.tail _ (.tail _ (.head _)))))) | exact .tail _ (.tail _ (.tail _ (.tail _ (.tail _ (.tail _ (.tail _ (.head _))))))) | exact .tail _ (.tail _ (.tail _ (.tail _ (.tail _ (.tail _ (.tail _ (.tail _ (.head _)))))))) | exact .tail _ (.tail _ (.tail _ (.tail _ (.tail _ (.tail _ (.tail _ (.tail _ (.tail _ (.head _))))))))) | exact .tail _ (.tail _ (.tail _ (.tail _ (.tail _ (.tail _ (.tail _ (.tail _ (.tail _ (.tail _ (.head _)))))))))) | exact .tail _ (.tail _ (.tail _ (.tail _ (.tail _ (.tail _ (.tail _ (.tail _ (.tail _ (.tail _ (.tail _ (.head _))))))))))) | exact .tail _ (.tail _ (.tail _ (.tail _ (.tail _ (.tail _ (.tail _ (.tail _ (.tail _ (.tail _ (.tail _ (.tail _ (.head _)))))))))))) | exact .tail _ (.tail _ (.tail _ (.tail _ (.tail _ (.tail _ (.tail _ (.tail _ (.tail _ (.tail _ (.tail _ (.tail _ (.tail _ (.head _))))))))))))) | exact .tail _ (.tail _ (.tail _ (.tail _ (.tail _ (.tail _ (.tail _ (.tail _ (.tail _ (.tail _ (.tail _ (.tail _ (.tail _ (.tail _ (.head _)))))))))))))))
  | exact Ne.symm (allNe_mem (by assumption) (by first | exact .head _ | exact .tail _ (.head _) | exact .tail _ (.tail _ (.head _)) | exact .tail _ (.tail _ (.tail _ (.head _))) | exact .tail _ (.tail _ (.tail _ (.tail _ (.head _)))) | exact .tail _ (.tail _ (.tail _ (.tail _ (.tail _ (.head _))))) | exact .tail _ (.tail _ (.tail _ (.tail _ (.tail _ (.tail _ (.head _)))))) | exact .tail _ (.tail _ (.tail _ (.tail _ (.tail _ (.tail _ (.tail _ (.head _))))))) | exact .tail _ (.tail _ (.tail _ (.tail _ (.tail _ (.tail _ (.tail _ (.tail _ (.head _)))))))) | exact .tail _ (.tail _ (.tail _ (.tail _ (.tail _ (.tail _ (.tail _ (.tail _ (.tail _ (.head _))))))))) | exact .tail _ (.tail _ (.tail _ (.tail _ (.tail _ (.tail _ (.tail _ (.tail _ (.tail _ (.tail _ (.head _)))))))))) | exact .tail _ (.tail _ (.tail _ (.tail _ (.tail _ (.tail _ (.tail _ (.tail _ (.tail _ (.tail _ (.tail _ (.head _))))))))))) | exact .tail _ (.tail _ (.tail _ (.tail _ (.tail _ (.tail _ (.tail _ (.tail _ (.tail _ (.tail _ (.tail _ (.tail _ (.head _)))))))))))) | exact .tail _ (.tail _ (.tail _ (.tail _ (.tail _ (.tail _ (.tail _ (.tail _ (.tail _ (.tail _ (.tail _ (.tail _ (.tail _ (.head _))))))))))))) | exact .tail _ (.tail _ (.tail _ (.tail _ (.tail _ (.tail _ (.tail _ (.tail _ (.tail _ (.tail _ (.tail _ (.tail _ (.tail _ (.tail _ (.head _))))))))))))))))
  | exact Nat.ne_of_lt (allLt_mem (by assumption) (by first | exact .head _ | exact .tail _ (.head _) | exact .tail _ (.tail _ (.head _)) | exact .tail _ (.tail _ (.tail _ (.head _))) | exact .tail _ (.tail _ (.tail _ (.tail _ (.head _)))) | exact .tail _ (.tail _ (.tail _ (.tail _ (.tail _ (.head _))))) | exact .tail _ (.tail _ (.tail _ (.tail _ (.tail _ (.tail _ (.head _)))))) | exact .tail _ (.tail _ (.tail _ (.tail _ (.tail _ (.tail _ (.tail _ (.head _))))))) | exact .tail _ (.tail _ (.tail _ (.tail _ (.tail _ (.tail _ (.tail _ (.tail _ (.head _)))))))) | exact .tail _ (.tail _ (.tail _ (.tail _ (.tail _ (.tail _ (.tail _ (.tail _ (.tail _ (.head _))))))))) | exact .tail _ (.tail _ (.tail _ (.tail _ (.tail _ (.tail _ (.tail _ (.tail _ (.tail _ (.tail _ (.head _)))))))))) | exact .tail _ (.tail _ (.tail _ (.tail _ (.tail _ (.tail _ (.tail _ (.tail _ (.tail _ (.tail _ (.tail _ (.head _))))))))))) | exact .tail _ (.tail _ (.tail _ (.tail _ (.tail _ (.tail _ (.tail _ (.tail _ (.tail _ (.tail _ (.tail _ (.tail _ (.head _)))))))))))) | exact .tail _ (.tail _ (.tail _ (.tail _ (.tail _ (.tail _ (.tail _ (.tail _ (.tail _ (.tail _ (.tail _ (.tail _ (.tail _ (.head _))))))))))))) | exact .tail _ (.tail _ (.tail _ (.tail _ (.tail _ (.tail _ (.tail _ (.tail _ (.tail _ (.tail _ (.tail _ (.tail _ (.tail _ (.tail _ (.head _))))))))))))))))
  | exact Nat.ne_of_gt (allLt_mem (by assumption) (by first | exact .head _ | exact .tail _ (.head _) | exact .tail _ (.tail _ (.head _)) | exact .tail _ (.tail _ (.tail _ (.head _))) | exact .tail _ (.tail _ (.tail _ (.tail _ (.head _)))) | exact .tail _ (.tail _ (.tail _ (.tail _ (.tail _ (.head _))))) | exact .tail _ (.tail _ (.tail _ (.tail _ (.tail _ (.tail _ (.head _)))))) | exact .tail _ (.tail _ (.tail _ (.tail _ (.tail _ (.tail _ (.tail _ (.head _))))))) | exact .tail _ (.tail _ (.tail _ (.tail _ (.tail _ (.tail _ (.tail _ (.tail _ (.head _)))))))) | exact .tail _ (.tail _ (.tail _ (.tail _ (.tail _ (.tail _ (.tail _ (.tail _ (.tail _ (.head _))))))))) | exact .tail _ (.tail _ (.tail _ (.tail _ (.tail _ (.tail _ (.tail _ (.tail _ (.tail _ (.tail _ (.head _)))))))))) | exact .tail _ (.tail _ (.tail _ (.tail _ (.tail _ (.tail _ (.tail _ (.tail _ (.tail _ (.tail _ (.tail _ (.head _))))))))))) | exact .tail _ (.tail _ (.tail _ (.tail _ (.tail _ (.tail _ (.tail _ (.tail _ (.tail _ (.tail _ (.tail _ (.tail _ (.head _)))))))))))) | exact .tail _ (.tail _ (.tail _ (.tail _ (.tail _ (.tail _ (.tail _ (.tail _ (.tail _ (.tail _ (.tail _ (.tail _ (.tail _ (.head _))))))))))))) | exact .tail _ (.tail _ (.tail _ (.tail _ (.tail _ (.tail _ (.tail _ (.tail _ (.tail _ (.tail _ (.tail _ (.tail _ (.tail _ (.tail _ (.head _))))))))))))))))
  | exact Nat.ne_of_lt (by first | exact Nat.lt_succ_self _ | exact Nat.lt_succ_of_lt (Nat.lt_succ_self _) | exact Nat.lt_succ_of_lt (Nat.lt_succ_of_lt (Nat.lt_succ_self _)) | exact Nat.lt_succ_of_lt (Nat.lt_succ_of_lt (Nat.lt_succ_of_lt (Nat.lt_succ_self _))) | exact Nat.lt_succ_of_lt (Nat.lt_succ_of_lt (Nat.lt_succ_of_lt (Nat.lt_succ_of_lt (Nat.lt_succ_self _)))) | exact Nat.lt_succ_of_lt (Nat.lt_succ_of_lt (Nat.lt_succ_of_lt (Nat.lt_succ_of_lt (Nat.lt_succ_of_lt (Nat.lt_succ_self _))))) | exact Nat.lt_succ_of_lt (Nat.lt_succ_of_lt (Nat.lt_succ_of_lt (Nat.lt_succ_of_lt (Nat.lt_succ_of_lt (Nat.lt_succ_of_lt (Nat.lt_succ_self _)))))))
  | exact Nat.ne_of_gt (by first | exact Nat.lt_succ_self _ | exact Nat.lt_succ_of_lt (Nat.lt_succ_self _) | exact Nat.lt_succ_of_lt (Nat.lt_succ_of_lt (Nat.lt_succ_self _)) | exact Nat.lt_succ_of_lt (Nat.lt_succ_of_lt (Nat.lt_succ_of_lt (Nat.lt_succ_self _))) | exact Nat.lt_succ_of_lt (Nat.lt_succ_of_lt (Nat.lt_succ_of_lt (Nat.lt_succ_of_lt (Nat.lt_succ_self _)))) | exact Nat.lt_succ_of_lt (Nat.lt_succ_of_lt (Nat.lt_succ_of_lt (Nat.lt_succ_of_lt (Nat.lt_succ_of_lt (Nat.lt_succ_self _))))) | exact Nat.lt_succ_of_lt (Nat.lt_succ_of_lt (Nat.lt_succ_of_lt (Nat.lt_succ_of_lt (Nat.lt_succ_of_lt (Nat.lt_succ_of_lt (Nat.lt_succ_self _)))))))
  | omega))
local macro_rules | `(tactic| walk_at "enter cells") => `(tactic| (refine wpAny_call ?_; k_dflt (refine' code_defC ?k1 ?k2 ?k3 ?k4 ?k5 ?kA ?kF ?kK ?k6 ?k7 ?k8 ?k9 ?kB ?kD ?_ ?c2 ?c3 ?c4; (case kA => exact rfl); (case kF => exact rfl); (case kK => first | exact rfl | assumption); (case k1 => k_asm); (case k2 => k_asm); (case k3 => k_asm); (case k4 => k_asm); (case k5 => k_asm); (case k6 => k_is); (case k7 => k_is); (case k8 => ktr_room); (case k9 => exact BindsTo.of_eq rfl); (case kB => exact rfl); (case kD => decide +kernel); (case c2 => exact rfl); (case c3 => exact rfl); (case c4 => exact rfl); k_whole; intro g' L' h' tk' cells' FG' F' N' Y' B' X' T' l1; (try k_lt l1); k_cells Y'; (try simp only [List.cons_append, List.nil_append] at N'); (try dsimp only); (try k_fold))))

theorem valueAt_end {K : Type} [DecidableEq K] (kvs : List (K × Value)) (k k' : K) (v : Value) (h : valueAt kvs k = none) : valueAt (stored kvs k v) k' = if k = k' then some v else valueAt kvs k' := by
  rw [stored_absent h]
  unfold valueAt at h ⊢
  rw [List.find?_append]
  by_cases e : k = k'
  · subst e
    rw [if_pos rfl]
    have h2 : kvs.find? (fun kv => decide (kv.1 = k)) = none := by simpa using h
    rw [h2]
    simp
  · rw [if_neg e]
    cases kvs.find? (fun kv => decide (kv.1 = k')) with
    | some p => rfl
    | none => simp [e]
noncomputable def PlaceTo (i : Nat) (kvs : List (Str × Value)) : Prop := ∀ j, j < 15 → (j < i → ∃ t, valueAt kvs (words.getD j PySem.Str.empty) = some (.int (j : Int) t)) ∧ (i ≤ j → valueAt kvs (words.getD j PySem.Str.empty) = none)
theorem words_inj : ∀ i j : Fin 15, words.getD i.1 PySem.Str.empty = words.getD j.1 PySem.Str.empty → i = j := by decide +kernel
theorem placeTo_step {i : Nat} {kvs : List (Str × Value)} {t : Tok} (hi : i < 15) (h : PlaceTo i kvs) : PlaceTo (i + 1) (stored kvs (words.getD i PySem.Str.empty) (.int (0 + (i : Int)) t)) := by
  intro j hj
  rw [valueAt_end _ _ _ _ ((h i hi).2 (Nat.le_refl _))]
  refine ⟨fun hlt => ?_, fun hle => ?_⟩
  · by_cases e : i = j
    · subst e
      rw [if_pos rfl]
      exact ⟨t, by rw [Int.zero_add]⟩
    · rw [if_neg (fun q => e (by have := words_inj ⟨i, hi⟩ ⟨j, hj⟩ q; exact Fin.mk.inj this))]
      exact (h j hj).1 (by omega)
  · rw [if_neg (fun q => by have := Fin.mk.inj (words_inj ⟨i, hi⟩ ⟨j, hj⟩ q); omega)]
    exact (h j hj).2 (by omega)

section
variable {prog : Program} {w : World} {p : Program} {loose : List Str} {mean : ExcName → Option Value} {mg mb : Str → Option Value}
  {dp un : Nat} {gd : Option (List Code)} {cn : Str} {cs : Scope} {a : Addr} {ccd : Value} {cl : List (Str × Addr)} {outer : List Env} {A₀ : Around} {base h₀ : Heap} {L : Addr} {m : Str → Option Value} {s : Shared} {Q E : Value → Shared → Prop} {news : List (Addr × Obj)}
set_option maxHeartbeats 6000000

theorem table_call (lp : Addr) (vs : List Value) (ns : List Int) (nn : Nat) (beh : Int) (tb : Tok) (hV : IntsAre vs ns) (hl : (lp, W.listOf vs.toArray nn) ∈ news) (R : List (Int × Int)) (hR : tblTo ns ns.length = some R) (hsm : small R = true) (hb0 : 0 ≤ beh) (hb2 : beh ≤ 2)
    (B : Below A₀ base outer h₀) (F : Fr h₀ L s.heap m) (X : (hd.heap_39 w.params).In h₀) (N : News h₀ L s.heap news) (T : Top p loose mean mg mb h₀)
    (hk : cs.kind = .function) (hd : dp + 3 < recursionLimit) (hu : un + 24 < cLine)
    (hret : ∀ (r : Addr) (o : Obj) (kvs : List (Int × Value)) (h' : Heap) (tk' : Nat), Obj.IsDictOf (PySem.intKind prog w) o kvs → FlatPairs PyData.int kvs (kdfD (shiftTo R beh R.length)) → (r == sysModules) = false → (∀ p ∈ news, p.1 < r) → Fr h₀ L h' m → News h₀ L h' ((r, o) :: news) → Q (.ref r) { s with heap := h', toks := tk' }) :
    wpAny (model prog w) (ktrTop dp un gd cn cs L a ccd cl outer) (call (.ref 142) [.ref lp, .int beh tb]) Q E s := by
  walk_at "enter cells"
  rename_i g L' h1 tk1 FG F0 B' X' T' l1 og op osz ot opl ow ob dg dp' ds dt dpl dw db N0
  replace dg : og.data = .cell none := dg
  replace dp' : op.data = .cell none := dp'
  replace ds : osz.data = .cell none := ds
  replace dt : ot.data = .cell none := dt
  replace dpl : opl.data = .cell none := dpl
  replace dw : ow.data = .cell none := dw
  replace db : ob.data = .cell (some (.int beh tb)) := db
  replace F0 := frCongr F0 (m' := fun y => if y = Str.ofString "pieces" then some (.ref lp) else none) (fun y => rfl)
  have n1 : ∀ p ∈ news, p.1 ≠ L' + 1 := news_off l1 _ (by omega)
  have n2 : ∀ p ∈ news, p.1 ≠ L' + 1 + 1 := news_off l1 _ (by omega)
  have n3 : ∀ p ∈ news, p.1 ≠ L' + 1 + 1 + 1 := news_off l1 _ (by omega)
  have n4 : ∀ p ∈ news, p.1 ≠ L' + 1 + 1 + 1 + 1 := news_off l1 _ (by omega)
  have n5 : ∀ p ∈ news, p.1 ≠ L' + 1 + 1 + 1 + 1 + 1 := news_off l1 _ (by omega)
  have n6 : ∀ p ∈ news, p.1 ≠ L' + 1 + 1 + 1 + 1 + 1 + 1 := news_off l1 _ (by omega)
  have n7 : ∀ p ∈ news, p.1 ≠ L' + 1 + 1 + 1 + 1 + 1 + 1 + 1 := news_off l1 _ (by omega)
  (repeat (fail_if_success (with_reducible show wpAny _ _ (exec (Stmt.Assign _ (Expr.DictComp _ _ _ _ _) _) _) _ _ _)); first | (k_unfold; (try dsimp only)) | walk1 | (dsimp only; walk1))
  refine wpAny_Assign_Name ?_
  rename Fr _ _ _ _ => F1
  rename News _ _ _ _ => N1
  refine dictCompX (knd := PySem.strKind _ _) F1 N1 (by rfl) (by decide) rfl (by decide) rfl ?_
  (repeat (fail_if_success (with_reducible show wpAny _ _ (pyIter _) _ _ _)); first | (k_unfold; (try dsimp only)) | walk1 | (dsimp only; walk1))
  rename StrsAre _ _ => hW
  rename PySem.Obj => ow2
  rename Obj.data _ = Data.cell (some (Value.ref _)) => dw2
  refine src_range (n := 15) rfl (by assumption) (by decide) rfl (by rw [PySem.sizeLine_eq]; decide) (by assumption) (by assumption) fun I St h8 XS => ⟨I, [I], 15, _, St, _, rfl, XS, PlaceTo, ?_, ?_, ?_⟩
  · intro j _
    exact ⟨fun h => absurd h (Nat.not_lt_zero _), fun _ => rfl⟩
  · rintro i v kvs oI C oC D oD m₂ sT QT E' hi ⟨_, tv, rfl⟩ hG hC hx hDD F2 N2 off ne hQT
    k_steps
    rename Fr _ _ _ _ => F9
    rename News _ _ _ _ => N9
    refine hQT _ _ _ (DictEnd.intro (words.getD i PySem.Str.empty) F9 N9 ?_ (placeTo_step hi hG))
    have e : (0 + (i : Int)).toNat = i := by omega
    rw [e]
    exact strKind_is _ _ _ _
  · rintro D oD kvsP h tk9 hG hDD F2 N2 hDlt
    have N3 : News g L' h ((D, oD) :: (L' + 1 + 1 + 1 + 1 + 1 + 1 + 1, og) :: (L' + 1 + 1 + 1 + 1 + 1 + 1, op) :: (L' + 1 + 1 + 1 + 1 + 1, osz) :: (L' + 1 + 1 + 1 + 1, ot) :: (L' + 1 + 1 + 1, opl) :: (L' + 1 + 1, ow2) :: (L' + 1, ob) :: news) :=
      fun p hp => N2 p (by rcases List.mem_cons.mp hp with rfl | hp; exact .head _; exact .tail _ (.tail _ hp))
    clear N2 hW XS dw
    replace hDlt := allLt_of hDlt
    have hDltA := hDlt
    simp only [AllLt, and_true] at hDlt
    have nD := allLt_ne hDlt.2.2.2.2.2.2.2.2
    (repeat (fail_if_success (with_reducible show wpAny _ _ (exec (Stmt.For _ _ _ _ _) _) _ _ _)); first | (k_unfold; (try dsimp only)) | walk1 | (dsimp only; walk1))
    rename_i h11 opl2 dpl2 h12 od0 lo0 hd0 hf0 ap0 l10 h13 ot2 F9 N9 dt2
    replace dt2 : ot2.data = .cell (some (.ref h11.objs.size)) := dt2
    replace hf0 : FlatPairs PyData.int _ (kdfD [(31, 1)]) := hf0
    generalize intKeyPairs _ = kvs0 at hd0 hf0
    clear ap0
    have nd0 := allLt_ne l10.2.2.2.2.2.2.2.2
    refine forListC (h₀ := g) (l := lp) (vs := vs) (ns := ns) (nn := nn) (fun i m' nx => ∃ og op osz ot d od c kvs, nx = (d, od) :: (D, oD) :: (L' + 1 + 1 + 1 + 1 + 1 + 1 + 1, og) :: (L' + 1 + 1 + 1 + 1 + 1 + 1, op) :: (L' + 1 + 1 + 1 + 1 + 1, osz) :: (L' + 1 + 1 + 1 + 1, ot) :: (L' + 1 + 1 + 1, opl2) :: (L' + 1 + 1, ow2) :: (L' + 1, ob) :: news ∧
      (∃ v, og.data = .cell v) ∧ (∃ v, op.data = .cell v) ∧ (∃ v, osz.data = .cell v) ∧ ot.data = .cell (some (.ref d)) ∧ Obj.IsDictOf (PySem.intKind prog w) od kvs ∧ FlatPairs PyData.int kvs (kdfD c) ∧ (d == sysModules) = false ∧ tblTo ns i = some c ∧ (@LT.lt Nat _ D d) ∧ (∀ p ∈ news, p.1 ≠ d) ∧
      m' (Str.ofString "pieces") = some (.ref lp)) rfl hV ?_ ?_ ?_ ?_ ?_ (m₀ := fun y => if y = Str.ofString "pieces" then some (Value.ref lp) else none)
      (news := (h11.objs.size, od0) :: (D, oD) :: (L' + 1 + 1 + 1 + 1 + 1 + 1 + 1, og) :: (L' + 1 + 1 + 1 + 1 + 1 + 1, op) :: (L' + 1 + 1 + 1 + 1 + 1, osz) :: (L' + 1 + 1 + 1 + 1, ot2) :: (L' + 1 + 1 + 1, opl2) :: (L' + 1 + 1, ow2) :: (L' + 1, ob) :: news)
    · k_steps
      all_goals assumption
    · rintro i m' nx ⟨og, op, osz, ot, d, od, c, kvs, rfl, _⟩
      exact List.mem_append_right [_, _, _, _, _, _, _, _, _] hl
    · exact ⟨og, op, osz, ot2, _, od0, [(31, 1)], _, rfl, ⟨_, dg⟩, ⟨_, dp'⟩, ⟨_, ds⟩, dt2, hd0, hf0, lo0, rfl, l10.1, nd0, rfl⟩
    · rintro i z tz m₁ nx I3 oI3 sU QU hz ⟨og, op, osz, ot, d, od, c, kvs, rfl, ⟨vg, dg⟩, ⟨vp, dp'⟩, ⟨vz, ds⟩, dt, hod, hfd, lod, hC, hDd, hnd, hm1⟩ hoff F3 N3 hQU
      replace F3 := pin F3 hm1
      have hO := allNe_of hoff
      have hdA : AllLt d ((D, oD) :: _) := ⟨hDd, allLt_trans hDd hDltA⟩
      have hI3 := allNe_to hO.2.2.2.2.2.2.2.2.2
      (repeat (fail_if_success (with_reducible show wpAny _ _ (exec (Stmt.For _ _ _ _ _) _) _ _ _)); first | (k_unfold; (try dsimp only)) | walk1 | (dsimp only; walk1))
      rename Obj.data _ = Data.cell (some (Value.int z tz)) => dsz
      rename_i h15 osz2 dm h16 om lom hsm fsm hom hfm l11 h17 F4 N4
      have l11A : AllLt dm ((I3, oI3) :: (d, od) :: (D, oD) :: (L' + 1 + 1 + 1 + 1 + 1 + 1 + 1, og) :: (L' + 1 + 1 + 1 + 1 + 1 + 1, op) :: (L' + 1 + 1 + 1 + 1 + 1, osz2) :: (L' + 1 + 1 + 1 + 1, ot) :: (L' + 1 + 1 + 1, opl2) :: (L' + 1 + 1, ow2) :: (L' + 1, ob) :: news) := l11
      obtain ⟨c', hC', hST, hcl⟩ := tblTo_step hR hC hz
      refine forDict (h₀ := g) (d := d) (od := od) (kvs := kvs) (m₀ := fun y => if y = Str.ofString "moved" then some (Value.ref dm) else if y = Str.ofString "pieces" then some (Value.ref lp) else m₁ y)
        (news := (dm, om) :: (I3, oI3) :: (d, od) :: (D, oD) :: (L' + 1 + 1 + 1 + 1 + 1 + 1 + 1, og) :: (L' + 1 + 1 + 1 + 1 + 1 + 1, op) :: (L' + 1 + 1 + 1 + 1 + 1, osz2) :: (L' + 1 + 1 + 1 + 1, ot) :: (L' + 1 + 1 + 1, opl2) :: (L' + 1 + 1, ow2) :: (L' + 1, ob) :: news)
        (fun i m' nx => ∃ og op om kvm cm, nx = (dm, om) :: (I3, oI3) :: (d, od) :: (D, oD) :: (L' + 1 + 1 + 1 + 1 + 1 + 1 + 1, og) :: (L' + 1 + 1 + 1 + 1 + 1 + 1, op) :: (L' + 1 + 1 + 1 + 1 + 1, osz2) :: (L' + 1 + 1 + 1 + 1, ot) :: (L' + 1 + 1 + 1, opl2) :: (L' + 1 + 1, ow2) :: (L' + 1, ob) :: news ∧
          (∃ v, og.data = .cell v) ∧ (∃ v, op.data = .cell v) ∧ Obj.IsDictOf (PySem.intKind prog w) om kvm ∧ FlatPairs PyData.int kvm (kdfD cm) ∧ stepTo c z i = some cm ∧ m' (Str.ofString "moved") = some (.ref dm) ∧ m' (Str.ofString "pieces") = some (.ref lp)) rfl rfl rfl lod hod ?_ ?_ ?_ ?_ ?_
      · k_steps
        all_goals assumption
      · rintro i m' nx ⟨og, op, om, kvm, cm, rfl, _⟩
        exact .tail _ (.tail _ (.head _))
      · exact ⟨og, op, om, [], [], rfl, ⟨_, dg⟩, ⟨_, dp'⟩, hom, hfm, rfl, rfl, rfl⟩
      · rintro i2 st v tst m₂ nx I4 oI4 sV QV hst ⟨og, op, om, kvm, cm, rfl, ⟨vg2, dg⟩, ⟨vp2, dp'⟩, hom, hfm, hCm, hm3, hm4⟩ hoff2 F5 N5 hQV
        replace F5 := pinX2 F5 hm3 hm4 (by decide) (by decide)
        have hO2 := allNe_of hoff2
        have hI4 := allNe_to hO2.2.2.2.2.2.2.2.2.2.2.2
        obtain ⟨vv, hcv⟩ := flat_at hfd hst
        have hhas := kdfHas_of hcv
        obtain ⟨c2, hC2, hSS⟩ := stepTo_step hST hCm hcv
        unfold stepS at hSS
        split at hSS
        case isFalse => cases hSS
        rename _ ∧ _ => hgd
        iterate 12 (first | (k_unfold; (try dsimp only)) | walk1 | (dsimp only; walk1))
        · rename z ≠ 0 => hz0
          rw [if_neg hz0] at hSS
          obtain ⟨P, hP, hSS2⟩ := Option.bind_eq_some_iff.mp hSS
          unfold placesOf at hP
          obtain ⟨Rw, hRw, hP2⟩ := Option.bind_eq_some_iff.mp hP
          split at hP2
          case isFalse => cases hP2
          rename _ ∧ _ => hcond
          obtain ⟨hJ, hSp, hjl, hlen5, hall⟩ := hcond
          obtain rfl := Option.some.inj hP2
          iterate 3 (first | (k_unfold; (try dsimp only)) | walk1 | (dsimp only; walk1))
          refine listComp0 F5 N5 (by rfl) (by decide) rfl (by decide) rfl ?_
          repeat (fail_if_success (with_reducible show wpAny _ _ (call (Value.ref 95) _) _ _ _)); first | (k_unfold; (try dsimp only)) | walk1 | (dsimp only; walk1)
          k_dflt (refine' pretty_call st _ Rw hRw hJ ?k1 ?k2 ?k3 ?k4 ?k5 ?kK ?kd ?ku ?kR; (case k1 => k_asm); (case k2 => k_asm); (case k3 => k_asm); (case k4 => k_asm); (case k5 => k_asm); (case kK => first | exact rfl | assumption); (case kd => ktr_room); (case ku => ktr_units))
          intro t9 h9 tk9 F6 N6
          (repeat (fail_if_success (with_reducible show wpAny _ _ (pyIter _) _ _ _)); first | (k_unfold; (try dsimp only)) | walk1 | (dsimp only; walk1))
          rename Fr _ _ _ _ => F6
          rename News _ _ _ _ => N6
          rename (List.map _ _ = PySem.Txt.split _ _) => hlx
          rename List (Str × Tok) => l
          rw [hSp] at hlx
          have hll : (strValues l).length = 5 := by rw [← hlen5, ← hlx]; simp [strValues]
          refine src_list (vs := strValues l) (nn := 0) rfl (by rw [hll, PySem.sizeLine_eq]; decide) F6 N6 (.head _) fun I St h8 XS => ⟨I, _, _, _, St, _, rfl, XS, fun i ys => IntsAre ys ((Rw.take i).map fun w => (words.idxOf w : Int)), .nil, ?_, ?_⟩
          · rintro i v ys oI C oC Dc m3 sW QW E' hi hv hGy hCo hx F8 N8 off ne hQW
            obtain ⟨wd, twd, rfl, hwd⟩ := strVal_at hlx hv
            have hidx : words.idxOf wd < 15 := of_decide_eq_true (List.all_eq_true.mp hall wd (List.mem_of_getElem? hwd))
            obtain ⟨tpl, hpl⟩ := (hG _ hidx).1 hidx
            rw [idx_word hidx] at hpl
            k_steps
            rename Fr _ _ _ _ => F8
            rename News _ _ _ _ => N8
            refine kda_item (knd := PySem.strKind prog w) N8 (by k_mem) hDD (strKind_is _ _ _ _) hpl ?_
            exact hQW _ _ (ListEnd.intro F8 N8 (by show IntsAre _ _; rw [take_map_snoc hwd]; exact IntsAre.append hGy (.cons _ _ .nil)))
          · rintro Dp ysP h20 tk20 hGy hyl F8 N8 hDp
            replace hGy : IntsAre ysP (Rw.map fun w => (words.idxOf w : Int)) := by
              have e : Rw.take (strValues l).length = Rw := by rw [hll, ← hlen5, List.take_length]
              rw [e] at hGy
              exact hGy
            have hP5 : (Rw.map fun w => (words.idxOf w : Int)).length = 5 := by rw [List.length_map, hlen5]
            have hPb : ∀ x ∈ (Rw.map fun w => (words.idxOf w : Int)), 0 ≤ x ∧ x < 15 := by
              intro x hx
              obtain ⟨wd, hwd, rfl⟩ := List.mem_map.mp hx
              have := of_decide_eq_true (List.all_eq_true.mp hall wd hwd)
              omega
            generalize Rw.map (fun w => (words.idxOf w : Int)) = P at hGy hP5 hPb hSS2 hP
            have N9 : News g L' h20 ((Dp, W.listOf ysP.toArray ysP.length) :: (I4, oI4) :: (dm, om) :: (I3, oI3) :: (d, od) :: (D, oD) :: (L' + 1 + 1 + 1 + 1 + 1 + 1 + 1, og) :: (L' + 1 + 1 + 1 + 1 + 1 + 1, op) :: (L' + 1 + 1 + 1 + 1 + 1, osz2) :: (L' + 1 + 1 + 1 + 1, ot) :: (L' + 1 + 1 + 1, opl2) :: (L' + 1 + 1, ow2) :: (L' + 1, ob) :: news) :=
              fun p hp => N8 p (by rcases List.mem_cons.mp hp with rfl | hp; exact .head _; exact .tail _ (.tail _ hp))
            replace hDp := allLt_of hDp
            have hDp2 := hDp.2
            have nDp := allLt_ne hDp.2.2.2.2.2.2.2.2.2.2.2.2.2
            clear N8 XS hDp hRw hSp hJ hjl hall hlx
            (repeat (fail_if_success (with_reducible show wpAny _ _ (exec (Stmt.For _ _ _ _ _) _) _ _ _)); first | (k_unfold; (try dsimp only)) | walk1 | (dsimp only; walk1))
            rename Obj.data _ = Data.cell (some (Value.ref Dp)) => dpp
            rename PySem.Obj => op2
            refine For_invV g rfl rfl ?_
            rename Fr _ _ _ _ => F8
            rename News _ _ _ _ => N8
            refine listComp1 F8 N8 (by rfl) (by decide) rfl (by decide) rfl ?_
            (repeat (fail_if_success (with_reducible show wpAny _ _ (pyIter _) _ _ _)); first | (k_unfold; (try dsimp only)) | walk1 | (dsimp only; walk1))
            refine src_range (n := 5) rfl (by assumption) (by decide) rfl (by rw [PySem.sizeLine_eq]; decide) (by assumption) (by assumption) fun I St h8 XS => ⟨I, [I], 5, _, St, _, rfl, XS, fun i ys => IntsAre ys (kfreeTo P z i), .nil, ?_, ?_⟩
            · rintro i v ys oI C oC Dc m3 sW QW QF E' hi ⟨_, tv, rfl⟩ hGy2 hCo hx F8 N8 off ne hQW hQF
              k_steps
              · rename (List.any _ _ = true) => hany
                rename Fr _ _ _ _ => F8
                rename News _ _ _ _ => N8
                exact hQF _ (ListEnd.intro F8 N8 (by show IntsAre _ _; rw [kfreeTo_no hany]; exact hGy2))
              · rename Fr _ _ _ _ => F8
                rename News _ _ _ _ => N8
                exact hQW _ _ (ListEnd.intro F8 N8 (by show IntsAre _ _; rw [kfreeTo_yes (by first | assumption | simp_all)]; exact IntsAre.append hGy2 (.cons _ _ .nil)))
            · rintro Dk ysK h21 tk21 hGk hkl F8 N8 hDk
              replace hDk := allLt_of hDk
              have nDk := allLt_ne hDk.2.2.2.2.2.2.2.2.2.2.2.2.2
              clear XS
              refine for_list (l := Dk) (vs := ysK) (ns := kfree P z) (nn := ysK.length) (fun i m' nx => ∃ og om kvm cm3, nx = (Dk, W.listOf ysK.toArray ysK.length) :: (Dp, W.listOf ysP.toArray ysP.length) :: (I4, oI4) :: (dm, om) :: (I3, oI3) :: (d, od) :: (D, oD) :: (L' + 1 + 1 + 1 + 1 + 1 + 1 + 1, og) :: (L' + 1 + 1 + 1 + 1 + 1 + 1, op2) :: (L' + 1 + 1 + 1 + 1 + 1, osz2) :: (L' + 1 + 1 + 1 + 1, ot) :: (L' + 1 + 1 + 1, opl2) :: (L' + 1 + 1, ow2) :: (L' + 1, ob) :: news ∧
                (∃ v, og.data = .cell v) ∧ Obj.IsDictOf (PySem.intKind prog w) om kvm ∧ FlatPairs PyData.int kvm (kdfD cm3) ∧ cm3 = ((kfree P z).take i).foldl (stepK P z st (kdfLook c st 0)) cm ∧ cm3.length ≤ cm.length + i ∧
                m' (Str.ofString "standing") = some (.int st tst) ∧ m' (Str.ofString "moved") = some (.ref dm) ∧ m' (Str.ofString "pieces") = some (.ref lp)) rfl ?_ hGk F8 N8 ?_ ?_ ?_
              · rintro i m' nx ⟨og, om, kvm, cm3, rfl, _⟩
                exact .head _
              · exact ⟨og, om, kvm, cm, rfl, ⟨_, dg⟩, hom, hfm, rfl, Nat.le_refl _, rfl, rfl, rfl⟩
              · rintro i k tk m5 nx I5 oI5 sX QX hk ⟨og, om, kvm, cm3, rfl, ⟨vg3, dg⟩, hom, hfm, hcm3, hcl3, hm5, hm6, hm7⟩ hoff3 F9 N9 hQX
                have hO3 := allNe_of hoff3
                have hI5 := allNe_to hO3.2.2.2.2.2.2.2.2.2.2.2.2.2.2
                have hkb := kfree_mem (List.mem_of_getElem? hk)
                have hi5 := (List.getElem?_eq_some_iff.mp hk).1
                have hk5 := kfree_len P z
                replace F9 := pinX2 F9 hm5 hm6 (by decide) (by decide)
                have hkP : k < P.length := by omega
                have hpk := hPb _ (getD_mem (k := k) (by omega) hkP)
                (repeat (fail_if_success (with_reducible show wpAny _ _ (eval (Expr.ListComp _ _ _ _) _) _ _ _)); first | (k_unfold; (try dsimp only)) | walk1 | (dsimp only; walk1))
                rename Fr _ _ _ _ => F9
                rename News _ _ _ _ => N9
                refine listComp1 F9 N9 (by rfl) (by decide) rfl (by decide) rfl ?_
                (repeat (fail_if_success (with_reducible show wpAny _ _ (pyIter _) _ _ _)); first | (k_unfold; (try dsimp only)) | walk1 | (dsimp only; walk1))
                rename Fr _ _ _ _ => F9
                rename News _ _ _ _ => N9
                rename IntsAre _ (List.drop _ _) => hIw
                rename List Value => wsl
                have hwl := hIw.length
                have hdl : (P.drop (k + 1).toNat).length ≤ 5 := by rw [List.length_drop]; omega
                refine src_list (vs := wsl) (nn := 0) rfl (by rw [PySem.sizeLine_eq]; omega) F9 N9 (.head _) fun I St h8 XS => ⟨I, _, _, _, St, _, rfl, XS, fun i ys => IntsAre ys (((P.drop (k + 1).toNat).take i).filter fun o => decide (o < P.getD k.toNat 0 + z)), .nil, ?_, ?_⟩
                · rintro i v ys oI C oC Dc m3 sY QY QF E' hi hv hGy hCo hx F8 N8 off ne hQY hQF
                  obtain ⟨wn, twn, rfl, hwn⟩ := IntsAre.at hIw i v hv
                  k_steps
                  all_goals rename Fr _ _ _ _ => F8
                  all_goals rename News _ _ _ _ => N8
                  · exact hQY _ _ (ListEnd.intro F8 N8 (by show IntsAre _ _; rw [filt_yes hwn (by assumption)]; exact IntsAre.append hGy (.cons _ _ .nil)))
                  · exact hQF _ (ListEnd.intro F8 N8 (by show IntsAre _ _; rw [filt_no hwn (by omega)]; exact hGy))
                · rintro Dl ysL h23 tk23 hGl hll2 F8 N8 hDl
                  rw [hwl, List.take_length] at hGl
                  replace hDl := allLt_of hDl
                  clear XS
                  have hfl : ((P.drop (k + 1).toNat).filter fun o => decide (o < P.getD k.toNat 0 + z)).length ≤ 5 := Nat.le_trans (List.length_filter_le _ _) hdl
                  have hcl4 : ∀ kk vv, (kdfPut cm3 kk vv).length ≤ cm.length + (i + 1) := fun kk vv => by have := kdfPut_len cm3 kk vv; omega
                  k_steps
                  · rename Fr _ _ _ _ => F8
                    rename News _ _ _ _ => N8
                    rename Obj.IsDictOf _ _ _ => hd6
                    rename FlatPairs _ _ _ => hf6
                    rename Int.fmod _ 2 = 1 => hodd
                    rename Obj.data _ = Data.cell (some (Value.int _ _)) => dg9
                    refine hQX _ _ (TurnEnd.intro F8 (fun p hp => N8 p (.tail _ (.tail _ hp))) (allNe_to (by exact hO3)) ⟨_, _, _, _, rfl, ⟨_, dg9⟩, hd6, hf6, ?_, hcl4 _ _, rfl, rfl, hm7⟩)
                    · rw [List.take_add_one, hk, List.foldl_append, ← hcm3]
                      exact stepK_odd hodd
                  · rename Fr _ _ _ _ => F8
                    rename News _ _ _ _ => N8
                    rename Obj.IsDictOf _ _ _ => hd6
                    rename FlatPairs _ _ _ => hf6
                    rename Int.fmod _ 2 ≠ 1 => hodd
                    rename Obj.data _ = Data.cell (some (Value.int _ _)) => dg9
                    refine hQX _ _ (TurnEnd.intro F8 (fun p hp => N8 p (.tail _ (.tail _ hp))) (allNe_to (by exact hO3)) ⟨_, _, _, _, rfl, ⟨_, dg9⟩, hd6, hf6, ?_, hcl4 _ _, rfl, rfl, hm7⟩)
                    · rw [List.take_add_one, hk, List.foldl_append, ← hcm3]
                      exact stepK_even hodd
              · rintro m5 nx h22 tk22 ⟨og, om, kvm, cm3, rfl, ⟨vg3, dg⟩, hom, hfm, hcm3, hcl3, hm5, hm6, hm7⟩ F9 N9
                rw [List.take_length] at hcm3
                replace F9 := pin F9 hm6
                k_steps
                rename Fr _ _ _ _ => F9
                exact hQV _ _ (TurnEnd.intro F9 (fun p hp => N9 p (inner_sub hp)) (allNe_to (by exact hO2)) ⟨og, op2, om, _, cm3, rfl, ⟨_, dg⟩, ⟨_, dpp⟩, hom, hfm, hC2.trans (by rw [← hSS2, ← hcm3]), rfl, hm7⟩)
        · rename z = 0 => hz0
          rw [if_pos hz0] at hSS
          k_steps
          rename Fr _ _ _ _ => F6
          rename News _ _ _ _ => N6
          rename Obj.IsDictOf _ _ _ => hd6
          rename FlatPairs _ _ _ => hf6
          exact hQV _ _ (TurnEnd.intro F6 N6 (allNe_to (by exact hO2)) ⟨og, op, _, _, _, rfl, ⟨_, dg⟩, ⟨_, dp'⟩, hd6, hf6, hC2.trans hSS.symm, rfl, rfl⟩)
      · rintro m₂ nx h18 tk18 ⟨og, op, om, kvm, cm, rfl, ⟨vg2, dg⟩, ⟨vp2, dp'⟩, hom, hfm, hCm, hm3, hm4⟩ F5 N5
        replace F5 := pin F5 hm3
        rw [flat_len hfd] at hCm
        k_steps
        rename Fr _ _ _ _ => F9
        rename News _ _ _ _ => N9
        rename Obj.data _ = Data.cell (some (Value.ref dm)) => dt9
        have hec : c' = cm := Option.some.inj (hST.symm.trans hCm)
        refine hQU _ _ (TurnEnd.intro F9 (fun p hp => N9 p ?_) (allNe_to (d := I3) (by exact ⟨Nat.ne_of_lt l11.1, hO.2⟩)) ⟨og, op, osz2, _, dm, om, cm, kvm, rfl, ⟨_, dg⟩, ⟨_, dp'⟩, ⟨_, dsz⟩, dt9, hom, hfm, lom, hec ▸ hC', l11.2.2.1, allLt_ne l11.2.2.2.2.2.2.2.2.2.2, hm4⟩)
        rcases List.mem_cons.mp hp with rfl | hp
        · exact .tail _ (.head _)
        · rcases List.mem_cons.mp hp with rfl | hp
          · exact .head _
          · exact .tail _ (.tail _ (.tail _ hp))
    · rintro m₁ nx h14 tk14 ⟨og, op, osz, ot, d, od, c, kvs, rfl, ⟨vg, dg⟩, ⟨vp, dp'⟩, ⟨vz, ds⟩, dt, hod, hfd, lod, hC, hDd, hnd, hm1⟩ F3 N3
      replace F3 := pin F3 hm1
      (repeat (fail_if_success (with_reducible show wpAny _ _ (eval (Expr.DictComp _ _ _ _ _) _) _ _ _)); first | (k_unfold; (try dsimp only)) | walk1 | (dsimp only; walk1))
      obtain rfl : c = R := Option.some.inj (hC.symm.trans hR)
      have hlenK := flat_len hfd
      have hlenC := small_len hsm
      refine dictCompX (knd := PySem.intKind prog w) F3 N3 (by rfl) (by decide) rfl (by decide) rfl ?_
      (repeat (fail_if_success (with_reducible show wpAny _ _ (pyIter _) _ _ _)); first | (k_unfold; (try dsimp only)) | walk1 | (dsimp only; walk1))
      refine src_dict rfl lod hod (by rw [PySem.sizeLine_eq]; omega) (by assumption) (by assumption) (.head _) fun I St h8 XS => ⟨I, _, _, _, St, _, rfl, XS, fun i kvs' => FlatPairs PyData.int kvs' (kdfD (shiftTo c beh i)), .nil, ?_, ?_⟩
      · rintro i v kvs' oI C oC D5 oD5 m₂ sT QT E' hi ⟨k, x, hkx, hkv⟩ hG5 hC5 hx5 hD5 F8 N8 off ne hQT
        obtain ⟨t5, rfl⟩ := PySem.Value.isInt_shape hkv
        obtain ⟨v5, hcv⟩ := flat_at hfd hkx
        have hhas := kdfHas_of hcv
        obtain ⟨hk0, hk1⟩ := small_at hsm hcv
        k_steps
        rename Fr _ _ _ _ => F9
        rename News _ _ _ _ => N9
        refine hQT _ _ _ (DictEnd.intro (k * 2 ^ beh.toNat) F9 N9 (intKind_is _ _ _ _) ?_)
        show FlatPairs _ _ (kdfD (shiftTo c beh (i + 1)))
        rw [shiftTo_step hcv, ← kdfD_put]
        exact hG5.stored (fun a b => rfl) _ (.int _ _)
      · rintro D5 oD5 kvsP h tk9 hG5 hD5 F8 N8 hDlt
        have hDlt2 := allLt_of hDlt
        simp only [AllLt, and_true] at hDlt2
        have lo5 : (D5 == sysModules) = false := lo_of hDlt2.2.2.2.2.2.2.2.2.1
        have nlt5 : ∀ p ∈ news, p.1 < D5 := fun p hp => hDlt p (.tail _ (.tail _ (.tail _ (.tail _ (.tail _ (.tail _ (.tail _ (.tail _ (.tail _ hp)))))))))
        rw [hlenK] at hG5
        k_steps
        rename Fr _ _ _ _ => F9
        rename News _ _ _ _ => N9
        exact hret D5 oD5 kvsP _ _ hD5 hG5 lo5 nlt5 F9 (fun p hp => N9 p (by rcases List.mem_cons.mp hp with rfl | hp; exact .head _; exact .tail _ (.tail _ (.tail _ (.tail _ (.tail _ (.tail _ (.tail _ (.tail _ (.tail _ (.tail _ hp)))))))))))
end

structure Scan where
  count : List Int
  b : Int
  n : Int
  nt : Int
noncomputable def growTo (c : List Int) (b : Int) : List Int := if (c.length : Int) ≤ b then c ++ (List.replicate (b - c.length + 1).toNat [0]).flatten else c
noncomputable def scanStep (c : Scan) (k : Nat) : Scan :=
  if k = 32 then { c with n := c.n + 1, b := c.b + 1 }
  else { count := (growTo c.count c.b).set c.b.toNat ((growTo c.count c.b).getD c.b.toNat 0 + 1), b := 0, n := c.n + 1, nt := c.nt + 1 }
noncomputable def scanTo (pre : List Nat) : Nat → Scan
  | 0 => ⟨[], 0, 0, 0⟩
  | i + 1 => match pre[i]? with
    | some k => scanStep (scanTo pre i) k
    | none => scanTo pre i

theorem scanTo_step {pre : List Nat} {i k : Nat} (h : pre[i]? = some k) : scanTo pre (i + 1) = scanStep (scanTo pre i) k := by rw [scanTo, h]
theorem ch_at {pre rest : List Nat} (hpre : ∀ k ∈ pre, k = 32 ∨ k = 9) {i ch : Nat} (hi : i ≤ pre.length) (h : (pre ++ 120 :: rest).toArray[i]? = some ch) : (pre[i]? = some ch ∧ i < pre.length ∧ (ch = 32 ∨ ch = 9)) ∨ (i = pre.length ∧ ch = 120) := by
  rw [List.getElem?_toArray] at h
  rcases Nat.lt_or_ge i pre.length with h1 | h1
  · rw [List.getElem?_append_left h1] at h
    exact .inl ⟨h, h1, hpre _ (List.mem_of_getElem? h)⟩
  · have e : i = pre.length := Nat.le_antisymm hi h1
    subst e
    rw [List.getElem?_append_right (Nat.le_refl _)] at h
    simp at h
    exact .inr ⟨rfl, h.symm⟩
theorem growTo_len {c : List Int} {b : Int} {i : Nat} (h0 : 0 ≤ b) (hb : b ≤ i) (hc : c.length ≤ i) : (growTo c b).length ≤ i + 1 := by
  unfold growTo
  split
  · rw [List.length_append]
    have : ((List.replicate (b - c.length + 1).toNat [(0 : Int)]).flatten).length = (b - c.length + 1).toNat := by simp
    omega
  · omega
theorem grow_sub {a b c d e p : Addr × Obj} {r : List (Addr × Obj)} (hp : p ∈ d :: a :: r) : p ∈ a :: b :: c :: d :: e :: r := by
  rcases List.mem_cons.mp hp with rfl | hp
  · exact .tail _ (.tail _ (.tail _ (.head _)))
  · rcases List.mem_cons.mp hp with rfl | hp
    · exact .head _
    · exact .tail _ (.tail _ (.tail _ (.tail _ (.tail _ hp))))
theorem blankS : PySem.Str.ofString " " = ⟨#[32]⟩ := by decide +kernel
theorem tabS : PySem.Str.ofString "\t" = ⟨#[9]⟩ := by decide +kernel
theorem ch_blank {ch : Nat} {r : Bool} (h : ((⟨#[ch]⟩ : Str) == PySem.Str.ofString " ") = r) : (ch = 32) ↔ r = true := by
  subst h
  rw [blankS]
  constructor
  · rintro rfl; rfl
  · intro h
    have := eq_of_beq h
    injection this with h1
    simpa using h1
theorem ch_tab {ch : Nat} {r : Bool} (h : ((⟨#[ch]⟩ : Str) == PySem.Str.ofString "\t") = r) : (ch = 9) ↔ r = true := by
  subst h
  rw [tabS]
  constructor
  · rintro rfl; rfl
  · intro h
    have := eq_of_beq h
    injection this with h1
    simpa using h1
noncomputable abbrev whiteDict (w : World) (z : Str) (tz : Tok) (n nt : Int) (tn tt : Tok) (t : Addr) (q : Bool) (t1 t2 t3 t4 t5 : Tok) : Obj := dictOf
  [{ hash := PyData.keyHash w.params (Str.ofString "raw"), key := Value.str (Str.ofString "raw") t1, val := Value.str z tz },
   { hash := PyData.keyHash w.params (Str.ofString "n"), key := Value.str (Str.ofString "n") t2, val := Value.int n tn },
   { hash := PyData.keyHash w.params (Str.ofString "nt"), key := Value.str (Str.ofString "nt") t3, val := Value.int nt tt },
   { hash := PyData.keyHash w.params (Str.ofString "norm"), key := Value.str (Str.ofString "norm") t4, val := Value.ref t },
   { hash := PyData.keyHash w.params (Str.ofString "is_simple"), key := Value.str (Str.ofString "is_simple") t5, val := Value.bool q }] 5
noncomputable abbrev normOf (c : Addr) (b : Int) (tb : Tok) : Obj := { cls := .type "tuple", data := .seq #[.ref c, .int b tb] 0 }
/-- the ledger bears a Whitespace whose norm is (counts, b) -/
noncomputable def White (w : World) (news : List (Addr × Obj)) (x : Addr) (cs : List Int) (b : Int) : Prop :=
  ∃ d z tz n nt tn tt t q t1 t2 t3 t4 t5 c tb vs, (x, instObj 83 d) ∈ news ∧ (d, whiteDict w z tz n nt tn tt t q t1 t2 t3 t4 t5) ∈ news ∧ (t, normOf c b tb) ∈ news ∧ (c, tupOf vs) ∈ news ∧ IntsAre vs cs
theorem White.mono {w : World} {news news' : List (Addr × Obj)} {x : Addr} {cs : List Int} {b : Int} (h : White w news x cs b) (hs : ∀ p ∈ news, p ∈ news') : White w news' x cs b := by
  obtain ⟨d, z, tz, n, nt, tn, tt, t, q, t1, t2, t3, t4, t5, c, tb, vs, h1, h2, h3, h4, h5⟩ := h
  exact ⟨d, z, tz, n, nt, tn, tt, t, q, t1, t2, t3, t4, t5, c, tb, vs, hs _ h1, hs _ h2, hs _ h3, hs _ h4, h5⟩
theorem allLt_to {d : Addr} : ∀ {l : List (Addr × Obj)}, AllLt d l → ∀ p ∈ l, p.1 < d
  | [], _ => fun _ h => nomatch h
  | _ :: _, h => fun p hp => by
    rcases List.mem_cons.mp hp with rfl | hp
    · exact h.1
    · exact allLt_to h.2 p hp
section
variable {prog : Program} {w : World} {p : Program} {loose : List Str} {mean : ExcName → Option Value} {mg mb : Str → Option Value}
  {dp un : Nat} {gd : Option (List Code)} {cn : Str} {cs : Scope} {a : Addr} {ccd : Value} {cl : List (Str × Addr)} {outer : List Env} {A₀ : Around} {base h₀ : Heap} {L : Addr} {m : Str → Option Value} {s : Shared} {Q E : Value → Shared → Prop} {news : List (Addr × Obj)}
set_option maxHeartbeats 3000000

theorem tuple_vs {A : Around} {l : Addr} {vs : List Value} {nn : Nat} {Q : Value → Shared → Prop} (F : Fr h₀ L s.heap m) (N : News h₀ L s.heap news) (hm : (l, W.listOf vs.toArray nn) ∈ news) (hz : vs.length ≤ 16384)
    (h : ∀ D h', Fr h₀ L h' m → News h₀ L h' ((D, tupOf vs) :: news) → (∀ p ∈ news, p.1 < D) → Q (.ref D) { s with heap := h' }) : wpAny (model prog w) A (call (.type "tuple") [.ref l]) Q E s :=
  kde_tupleOf (zs := vs) F N (News.isList N hm) (by simpa using hz) rfl h
theorem news_ne {h : Heap} {a b : Addr} {o o' : Obj} {l : List (Addr × Obj)} (N : News h₀ L h l) (h1 : (a, o) ∈ l) (h2 : (b, o') ∈ l) (hne : o ≠ o') : @Ne Nat a b := by
  rintro rfl
  have e1 := (N _ h1).1
  have e2 := (N _ h2).1
  rw [e1] at e2
  exact hne (Option.some.inj e2)
theorem white_pack {h : Heap} {x d t c I lc : Addr} {oI ol : Obj} {z : Str} {tz : Tok} {n nt b : Int} {tn tt tb : Tok} {q : Bool} {t1 t2 t3 t4 t5 : Tok} {vs : List Value} {cs : List Int}
    (N : News h₀ L h ((t, normOf c b tb) :: (c, tupOf vs) :: (I, oI) :: (lc, ol) :: (x, instObj 83 d) :: (d, whiteDict w z tz n nt tn tt t q t1 t2 t3 t4 t5) :: news)) (hV : IntsAre vs cs) :
    ∃ ox od ot oc, News h₀ L h ((x, ox) :: (d, od) :: (t, ot) :: (c, oc) :: news) ∧ (∀ p ∈ [(x, ox), (d, od), (t, ot), (c, oc)], ∀ v, p.2.data ≠ .cell v) ∧ White w [(x, ox), (d, od), (t, ot), (c, oc)] x cs b := by
  refine ⟨instObj 83 d, whiteDict w z tz n nt tn tt t q t1 t2 t3 t4 t5, normOf c b tb, tupOf vs, fun p hp => N p ?_, ?_, ⟨d, z, tz, n, nt, tn, tt, t, q, t1, t2, t3, t4, t5, c, tb, vs, .head _, .tail _ (.head _), .tail _ (.tail _ (.head _)), .tail _ (.tail _ (.tail _ (.head _))), hV⟩⟩
  rcases List.mem_cons.mp hp with rfl | hp
  · exact .tail _ (.tail _ (.tail _ (.tail _ (.head _))))
  rcases List.mem_cons.mp hp with rfl | hp
  · exact .tail _ (.tail _ (.tail _ (.tail _ (.tail _ (.head _)))))
  rcases List.mem_cons.mp hp with rfl | hp
  · exact .head _
  rcases List.mem_cons.mp hp with rfl | hp
  · exact .tail _ (.head _)
  exact .tail _ (.tail _ (.tail _ (.tail _ (.tail _ (.tail _ hp)))))
  intro p hp v
  simp only [List.mem_cons, List.not_mem_nil, or_false] at hp
  rcases hp with rfl | rfl | rfl | rfl <;> (intro e; cases e)
theorem drop2 {h : Heap} {x y : Addr × Obj} {r : List (Addr × Obj)} (N : News h₀ L h (x :: y :: r)) : News h₀ L h (x :: r) := fun p hp => N p (by rcases List.mem_cons.mp hp with rfl | hp; exact .head _; exact .tail _ (.tail _ hp))
theorem white_call (pre rest : List Nat) (tz : Tok) (hpre : ∀ k ∈ pre, k = 32 ∨ k = 9) (hlen : pre.length ≤ 100)
    (B : Below A₀ base outer h₀) (F : Fr h₀ L s.heap m) (X : (hd.heap_39 w.params).In h₀) (N : News h₀ L s.heap news) (T : Top p loose mean mg mb h₀)
    (hk : cs.kind = .function) (hd : dp + 3 < recursionLimit) (hu : un + 24 < cLine)
    (hret : ∀ (x d t c : Addr) (ox od ot oc : Obj) (h' : Heap) (tk' : Nat), (∀ p ∈ news, p.1 < x ∧ p.1 < d ∧ p.1 < t ∧ p.1 < c) → Fr h₀ L h' m → News h₀ L h' ((x, ox) :: (d, od) :: (t, ot) :: (c, oc) :: news) → (∀ p ∈ [(x, ox), (d, od), (t, ot), (c, oc)], ∀ v, p.2.data ≠ .cell v) → White w [(x, ox), (d, od), (t, ot), (c, oc)] x (scanTo pre pre.length).count (scanTo pre pre.length).b → Q (.ref x) { s with heap := h', toks := tk' }) :
    wpAny (model prog w) (ktrTop dp un gd cn cs L a ccd cl outer) (call (.ref 83) [.str ⟨(pre ++ 120 :: rest).toArray⟩ tz]) Q E s := by
  generalize hz : (⟨(pre ++ 120 :: rest).toArray⟩ : Str) = z
  k_dflt (refine' call_cls ?k1 ?k2 ?k3 ?k4 ?k5 ?k6 ?_; (case k1 => k_asm); (case k2 => k_asm); (case k3 => k_asm); (case k4 => k_is); (case k5 => k_is); (case k6 => k_is); intro x' d' h' F' N' l1 l2; (try k_lt l1); (try k_lt2 l2))
  k_dflt (refine' code_def ?k1 ?k2 ?k3 ?k4 ?k5 ?kA ?kF ?kK ?k6 ?k7 ?k8 ?k9 ?kB ?_ ?c2 ?c3 ?c4 ?c5; (case kA => exact rfl); (case kF => exact rfl); (case kK => first | exact rfl | assumption); (case k1 => k_asm); (case k2 => k_asm); (case k3 => k_asm); (case k4 => k_asm); (case k5 => k_asm); (case k6 => k_is); (case k7 => k_is); (case k8 => ktr_room); (case k9 => exact BindsTo.of_eq rfl); (case c5 => decide); (case kB => exact locs rfl); (case c2 => exact rfl); (case c3 => exact rfl); (case c4 => exact rfl); k_whole; intro g L' h1 FG F0 N0 B' X' T'; (try dsimp only); (try k_fold))
  replace F0 := frCongr F0 (m' := fun y => if y = Str.ofString "ws" then some (.str z tz) else if y = Str.ofString "self" then some (.ref x') else none) (fun y => look2)
  (repeat (fail_if_success (with_reducible show wpAny _ _ (exec (Stmt.For _ _ _ _ _) _) _ _ _)); first | (k_unfold; (try dsimp only)) | walk1 | (dsimp only; walk1))
  refine For_invV g rfl rfl ?_
  (repeat (fail_if_success (with_reducible show wpAny _ _ (pyIter _) _ _ _)); first | (k_unfold; (try dsimp only)) | walk1 | (dsimp only; walk1))
  rename Fr _ _ _ _ => F8
  rename News _ _ _ _ => N8
  rename (_ ∧ _ ∧ _ ∧ AllLt _ _) => l8
  refine for_str (z := z) (fun i m' nx => ∃ lc vs nn tb tn tt tkr, nx = (lc, W.listOf vs.toArray nn) :: (x', instObj 83 d') :: (d', dictOf [⟨PyData.keyHash w.params (Str.ofString "raw"), .str (Str.ofString "raw") tkr, .str z tz⟩] 1) :: news ∧ i ≤ pre.length ∧ IntsAre vs (scanTo pre i).count ∧ vs.length ≤ i ∧ (@Ne Nat x' lc ∧ @Ne Nat d' lc ∧ (∀ p ∈ news, p.1 ≠ lc)) ∧ 0 ≤ (scanTo pre i).b ∧ (scanTo pre i).b ≤ i ∧
     m' (Str.ofString "self") = some (.ref x') ∧ m' (Str.ofString "S") = some (.str (Str.ofString " ") 209) ∧ m' (Str.ofString "T") = some (.str (Str.ofString "\t") 210) ∧ m' (Str.ofString "count") = some (.ref lc) ∧ m' (Str.ofString "b") = some (.int (scanTo pre i).b tb) ∧ m' (Str.ofString "n") = some (.int (scanTo pre i).n tn) ∧ m' (Str.ofString "nt") = some (.int (scanTo pre i).nt tt)) rfl F8 (drop2 N8) ?_ ?_ ?_
  · refine ⟨_, [], _, _, _, _, _, rfl, Nat.zero_le _, .nil, Nat.le_refl _, ⟨Nat.ne_of_lt l8.2.1, Nat.ne_of_lt l8.2.2.1, allLt_ne l8.2.2.2⟩, Int.le_refl _, Int.le_refl _, rfl, rfl, rfl, rfl, rfl, rfl, rfl⟩
  · rintro i ch t m₁ nx I oI sT QT hi ⟨lc, vs, nn, tb, tn, tt, tkr, rfl, hip, hV, hvl, hlc, hb0, hbi, m1, m2, m3, m4, m5, m6, m7⟩ hoff F5 N5 hQT
    replace F5 := pinX F5 (a := Str.ofString "self") (u := .ref x') (by exact m1) (by decide)
    replace F5 := pinX F5 (a := Str.ofString "S") (u := .str (Str.ofString " ") 209) (by exact m2) (by decide)
    replace F5 := pinX F5 (a := Str.ofString "T") (u := .str (Str.ofString "\t") 210) (by exact m3) (by decide)
    replace F5 := pinX F5 (a := Str.ofString "count") (u := .ref lc) (by exact m4) (by decide)
    replace F5 := pinX F5 (a := Str.ofString "b") (u := .int (scanTo pre i).b tb) (by exact m5) (by decide)
    replace F5 := pinX F5 (a := Str.ofString "n") (u := .int (scanTo pre i).n tn) (by exact m6) (by decide)
    replace F5 := pinX F5 (a := Str.ofString "nt") (u := .int (scanTo pre i).nt tt) (by exact m7) (by decide)
    have hv := hV.length
    have hI := allNe_of hoff
    have hch : (pre[i]? = some ch ∧ i < pre.length ∧ (ch = 32 ∨ ch = 9)) ∨ (i = pre.length ∧ ch = 120) := by subst hz; exact ch_at hpre hip hi
    have hI9 := allNe_to hI.2.2.2
    have hlcI : @Ne Nat I lc := hI.1
    obtain ⟨hl1, hl2, hl3⟩ := hlc
    have hgl := growTo_len hb0 hbi (by rw [← hv]; exact hvl)
    k_steps
    · rename Fr _ _ _ _ => F9
      rename News _ _ _ _ => N9
      rename (_ == Str.ofString " ") = true => hc32
      have c32 := (ch_blank hc32).mpr rfl
      obtain ⟨hp1, hp2, _⟩ := hch.resolve_right (fun q => by omega)
      have hs := scanTo_step hp1
      rw [scanStep, if_pos c32] at hs
      rw [hs] at hQT
      exact hQT _ _ (TurnEnd.intro F9 N9 (allNe_to (by exact hI)) ⟨lc, vs, nn, _, _, _, tkr, rfl, hp2, hV, Nat.le_succ_of_le hvl, ⟨hl1, hl2, hl3⟩, by show 0 ≤ _ + 1; omega, by show _ + 1 ≤ _; omega, rfl, rfl, rfl, rfl, rfl, rfl, rfl⟩)
    · rename Fr _ _ _ _ => F9
      rename News _ _ _ _ => N9
      rename (_ == Str.ofString " ") = false => hc32
      rename (_ == Str.ofString "\t") = true => hc9
      rename ((List.length _ : Nat) : Int) ≤ _ => hle
      rename IntsAre _ _ => hV9
      rename (_ ∧ _ ∧ _ ∧ _ ∧ _ ∧ _ ∧ AllLt _ _) => l9
      have c32 : ch ≠ 32 := fun q => Bool.false_ne_true ((ch_blank hc32).mp q)
      have c9 := (ch_tab hc9).mpr rfl
      obtain ⟨hp1, hp2, _⟩ := hch.resolve_right (fun q => by omega)
      have hs := scanTo_step hp1
      have hg : growTo (scanTo pre i).count (scanTo pre i).b = _ := if_pos hle
      rw [hg] at hgl
      rw [scanStep, if_neg c32, hg] at hs
      rw [hs] at hQT
      exact hQT _ _ (TurnEnd.intro F9 (fun p hp => N9 p (grow_sub hp)) (allNe_to ⟨Nat.ne_of_lt l9.2.2.1, hI.2⟩) ⟨_, _, 0, _, _, _, tkr, rfl, hp2, hV9, by rw [hV9.length, List.length_set]; exact hgl, ⟨Nat.ne_of_lt l9.2.2.2.2.1, Nat.ne_of_lt l9.2.2.2.2.2.1, allLt_ne l9.2.2.2.2.2.2⟩, Int.le_refl _, by show (0 : Int) ≤ _; omega, rfl, rfl, rfl, rfl, rfl, rfl, rfl⟩)
    · rename Fr _ _ _ _ => F9
      rename News _ _ _ _ => N9
      rename (_ == Str.ofString " ") = false => hc32
      rename (_ == Str.ofString "\t") = true => hc9
      rename ¬ ((List.length _ : Nat) : Int) ≤ _ => hle
      rename IntsAre _ _ => hV9
      have c32 : ch ≠ 32 := fun q => Bool.false_ne_true ((ch_blank hc32).mp q)
      have c9 := (ch_tab hc9).mpr rfl
      obtain ⟨hp1, hp2, _⟩ := hch.resolve_right (fun q => by omega)
      have hs := scanTo_step hp1
      have hg : growTo (scanTo pre i).count (scanTo pre i).b = _ := if_neg hle
      rw [hg] at hgl
      rw [scanStep, if_neg c32, hg] at hs
      rw [hs] at hQT
      exact hQT _ _ (TurnEnd.intro F9 N9 (allNe_to (by exact hI)) ⟨lc, _, _, _, _, _, tkr, rfl, hp2, hV9, by rw [hV9.length, List.length_set]; exact hgl, ⟨hl1, hl2, hl3⟩, Int.le_refl _, by show (0 : Int) ≤ _; omega, rfl, rfl, rfl, rfl, rfl, rfl, rfl⟩)
    · rename (_ == Str.ofString " ") = false => hc32
      rename (_ == Str.ofString "\t") = false => hc9
      have c32 : ch ≠ 32 := fun q => Bool.false_ne_true ((ch_blank hc32).mp q)
      have c9 : ch ≠ 9 := fun q => Bool.false_ne_true ((ch_tab hc9).mp q)
      obtain ⟨rfl, _⟩ := hch.resolve_left (fun q => by omega)
      refine hQT _ _ ?_
      unfold TurnPost
      dsimp only
      refine ⟨_, _, rfl, ?_⟩
      repeat (fail_if_success (with_reducible show wpAny _ _ (call (Value.type _) _) _ _ _)); first | (k_unfold; (try dsimp only)) | walk1 | (dsimp only; walk1)
      rename Fr _ _ _ _ => F4
      rename News _ _ _ _ => N4
      refine tuple_vs F4 N4 (.tail _ (.head _)) (by omega) fun t0 h40 F40 N40 l40 => ?_
      have l41 := allLt_of l40
      simp only [AllLt, and_true] at l41
      k_steps
      rename Fr _ _ _ _ => F9
      rename News _ _ _ _ => N9
      obtain ⟨ox, od, ot, oc, N7, C7, W7⟩ := white_pack N9 hV
      rename (_ < _ ∧ _ < _ ∧ _ < _ ∧ _ < _ ∧ _ < _ ∧ AllLt _ _) => l42
      have l43 := allLt_to l42.2.2.2.2.2
      have l44 := allLt_to l41.2.2.2.2
      exact hret x' d' _ t0 _ _ _ _ _ _ (fun p hp => ⟨Nat.lt_trans (l1 p hp) l2, l1 p hp, l43 p hp, l44 p hp⟩) F9 N7 C7 W7
  · rintro m₁ nx h2 tk2 ⟨lc, vs, nn, tb, tn, tt, tkr, rfl, hip, hV, hvl, hlc, hb0, hbi, m1, m2, m3, m4, m5, m6, m7⟩ F5 N5
    exfalso
    subst hz
    simp at hip
    omega
end

section
variable {prog : Program} {w : World} {p : Program} {loose : List Str} {mean : ExcName → Option Value} {mg mb : Str → Option Value}
  {dp un : Nat} {gd : Option (List Code)} {cn : Str} {cs : Scope} {a : Addr} {ccd : Value} {cl : List (Str × Addr)} {outer : List Env} {A₀ : Around} {base h₀ : Heap} {L : Addr} {m : Str → Option Value} {s : Shared} {Q E : Value → Shared → Prop} {news : List (Addr × Obj)}
set_option maxHeartbeats 3000000
theorem white_method {pl : Sem Bool} {Q : Value × List Value → Shared → Prop} {A : Around} {x : Addr} {cs : List Int} {b : Int} (F : Fr h₀ L s.heap m) (X : (hd.heap_39 w.params).In h₀) (N : News h₀ L s.heap news) (W : White w news x cs b) (h : Q (.ref 59, [.ref x]) s) :
    wpAny (model prog w) A (getMethod (.ref x) (Str.ofString "equal") pl) Q E s := by
  obtain ⟨d, z, tz, n, nt, tn, tt, t, q, t1, t2, t3, t4, t5, c, tb, vs, h1, h2, h3, h4, h5⟩ := W
  exact method_inst (C := 83) F X (InstAt.of_news N h1 h2) (by rfl) (by rfl) (by rfl) (by rfl) h
theorem white_norm {expr : Bool} {Q : Value → Shared → Prop} {A : Around} {x : Addr} {cs : List Int} {b : Int} (F : Fr h₀ L s.heap m) (X : (hd.heap_39 w.params).In h₀) (N : News h₀ L s.heap news) (W : White w news x cs b)
    (h : ∀ t c tb vs, (t, normOf c b tb) ∈ news → (c, tupOf vs) ∈ news → IntsAre vs cs → Q (.ref t) { s with toks := s.toks + 1 }) :
    wpAny (model prog w) A (getAttr (.ref x) (Str.ofString "norm") expr) Q E s := by
  obtain ⟨d, z, tz, n, nt, tn, tt, t, q, t1, t2, t3, t4, t5, c, tb, vs, h1, h2, h3, h4, h5⟩ := W
  exact get_own (C := 83) F X (InstAt.of_news N h1 h2) (by rfl) (by rfl) (by rfl) (by rfl) (by rfl) (by rfl) (h _ _ _ _ h3 h4 h5)
theorem eqv_norm (cs ds : List Int) (b e : Int) : PyData.eqv (.tuple [.tuple (cs.map PyData.int), .int b]) (.tuple [.tuple (ds.map PyData.int), .int e]) = decide (cs = ds ∧ b = e) := by
  simp only [PyData.eqv, PyData.eqvAll, ked_eqvAll, Bool.and_true]
  by_cases h : cs = ds <;> by_cases h' : b = e <;> simp [h, h']
theorem shaped_norm (cs : List Int) (b : Int) : PySem.SeqAt.shaped (.tuple [.tuple (cs.map PyData.int), .int b]) = true := by
  simp [SeqAt.shaped, PyData.canLay0, PyData.canLayAll0, PyData.depth, PyData.depthAll, ke_canLayAll0, ke_depthAll]
theorem equal_call (x y : Addr) (xs ys : List Int) (b e : Int)
    (B : Below A₀ base outer h₀) (F : Fr h₀ L s.heap m) (X : (hd.heap_39 w.params).In h₀) (N : News h₀ L s.heap news) (T : Top p loose mean mg mb h₀)
    (Wx : White w news x xs b) (Wy : White w news y ys e)
    (hk : cs.kind = .function) (hd : dp + 3 < recursionLimit) (hu : un + 80 < cLine)
    (hret : ∀ (h' : Heap) (tk' : Nat), Fr h₀ L h' m → News h₀ L h' news → Q (.bool (decide (xs = ys ∧ b = e))) { s with heap := h', toks := tk' }) :
    wpAny (model prog w) (ktrTop dp un gd cn cs L a ccd cl outer) (call (.ref 59) [.ref x, .ref y]) Q E s := by
  refine wpAny_call ?_
  k_dflt cell_enter
  rename_i g L' h1 FG F0 N0 B' X' T'
  replace F0 := frCongr F0 (m' := fun y' => if y' = Str.ofString "other" then some (.ref y) else if y' = Str.ofString "self" then some (.ref x) else none) (fun y => look2)
  obtain ⟨d, z, tz, n, nt, tn, tt, t, q, t1, t2, t3, t4, t5, c, tb, vs, hx1, hx2, hx3, hx4, hx5⟩ := Wx
  obtain ⟨d', z', tz', n', nt', tn', tt', t', q', t1', t2', t3', t4', t5', c', tb', vs', hy1, hy2, hy3, hy4, hy5⟩ := Wy
  have N1 : News g L' h1 ((x, instObj 83 d) :: (d, whiteDict w z tz n nt tn tt t q t1 t2 t3 t4 t5) :: (t, normOf c b tb) :: (c, tupOf vs) :: (y, instObj 83 d') :: (d', whiteDict w z' tz' n' nt' tn' tt' t' q' t1' t2' t3' t4' t5') :: (t', normOf c' e tb') :: (c', tupOf vs') :: news) := by
    intro p hp
    refine N0 p ?_
    rcases List.mem_cons.mp hp with rfl | hp; exact hx1
    rcases List.mem_cons.mp hp with rfl | hp; exact hx2
    rcases List.mem_cons.mp hp with rfl | hp; exact hx3
    rcases List.mem_cons.mp hp with rfl | hp; exact hx4
    rcases List.mem_cons.mp hp with rfl | hp; exact hy1
    rcases List.mem_cons.mp hp with rfl | hp; exact hy2
    rcases List.mem_cons.mp hp with rfl | hp; exact hy3
    rcases List.mem_cons.mp hp with rfl | hp; exact hy4
    exact hp
  clear N0
  generalize s.toks + _ = tk0
  k_steps
  refine eq_dataH (reads_tuple_at (News.get N1 (by k_mem)) rfl rfl (.cons (reads_tuple_at (News.get N1 (by k_mem)) rfl rfl (CarriedAll.reads _ (ke_carried hx5))) (.cons (.int _ _) .nil)))
    (reads_tuple_at (News.get N1 (by k_mem)) rfl rfl (.cons (reads_tuple_at (News.get N1 (by k_mem)) rfl rfl (CarriedAll.reads _ (ke_carried hy5))) (.cons (.int _ _) .nil))) (shaped_norm _ _) (shaped_norm _ _) (by units_room) ?_
  rw [eqv_norm]
  k_steps
  rename News _ _ _ _ => kN
  refine hret _ _ (by assumption) (fun p hp => kN p ?_)
  iterate 8 (first | exact hp | refine .tail _ ?_)
  exact hp
end

@[reducible] noncomputable def pickL {α : Type} {l : List α} {a : α} {r : List α} (_ : l = a :: r) : List α := a :: r
@[reducible] noncomputable def pickScope {l : Scope} {k : ScopeKind} {n : List (Str × NameKind)} {a b : Bool} {m : List (Str × Const)} (_ : l = ⟨k, n, a, b, m⟩) : Scope := ⟨k, n, a, b, m⟩
noncomputable def lawBody0 : List Stmt := match (PySem.defsOf PySem.Challenge.pw_wj0031_01).getLast? with | some d => d.body | none => []
noncomputable def lawScope0 : Scope := match (PySem.defsOf PySem.Challenge.pw_wj0031_01).getLast? with | some d => d.scope | none => { kind := .function, names := [], isGenerator := false, isCoroutine := false }
noncomputable def lawBody : List Stmt := pickL (l := lawBody0) rfl
noncomputable def lawScope : Scope := pickScope (l := lawScope0) rfl
noncomputable abbrev lawCells (L : Addr) : List (Str × Addr) := [(Str.ofString "b", L + 1 + 1 + 1 + 1), (Str.ofString "a", L + 1 + 1 + 1), (Str.ofString "tables", L + 1 + 1), (Str.ofString "script", L + 1)]
theorem lawCells_is (L : Addr) : cellsFrom (L + 1) lawScope.names [] = lawCells L := rfl

section
variable {prog : Program} {w : World} {A : Around} {E : Value → Shared → Prop} {s : Shared} {env : Env} {h₀ : Heap} {L : Addr} {m : Str → Option Value} {news : List (Addr × Obj)}

/-- a source of pairs -/
structure Src2 (prog : Program) (w : World) (A : Around) (h₀ : Heap) (L : Addr) (m : Str → Option Value) (news : List (Addr × Obj)) (I : Addr) (fp wr : List Addr) (n : Nat) (Pt : Nat → Array Value → Prop) (St : Nat → Heap → Prop) (Mid : Nat → Addr → Heap → Prop) (s₂ : Shared) : Prop where
  W : WalksU prog w A I fp wr n Pt St Mid
  pair : ∀ i vals, Pt i vals → ∃ v₁ v₂, vals = #[v₁, v₂]
  size : n ≤ sizeLine
  st : St 0 s₂.heap
  lt : ∀ b ∈ fp, b < s₂.heap.objs.size
  obj : ∀ i h, St i h → ∀ b ∈ wr, ∃ o, h.get? b = some o
  on : ∀ b ∈ fp, b ∈ wr ∨ (∃ o, h₀.get? b = some o) ∨ (∃ o, (b, o) ∈ news)
  new : ∀ b ∈ wr, h₀.get? b = none
  off : L ∉ wr
  offN : ∀ p ∈ news, p.1 ∉ wr
  F : Fr h₀ L s₂.heap m
  N : News h₀ L s₂.heap news

theorem fr_butL {h h' : Heap} {wr : List Addr} (F : Fr h₀ L h m) (hk : ∀ b o, b ∉ wr → h.get? b = some o → h'.get? b = some o) (hL : L ∉ wr) (hI : ∀ b ∈ wr, h₀.get? b = none) : Fr h₀ L h' m :=
  ⟨F.ns.at' fun o e => hk L o hL e, fun b o e => hk b o (fun hm => by rw [hI b hm] at e; cases e) (F.keep b o e), F.above⟩
theorem news_butL {h h' : Heap} {wr : List Addr} {nw : List (Addr × Obj)} (N : News h₀ L h nw) (hk : ∀ b o, b ∉ wr → h.get? b = some o → h'.get? b = some o) (off : ∀ p ∈ nw, p.1 ∉ wr) : News h₀ L h' nw :=
  fun p hp => ⟨hk _ _ (off p hp) (N p hp).1, (N p hp).2⟩
theorem own_ex {h : Heap} : ∀ {wr : List Addr}, (∀ b ∈ wr, ∃ o, h.get? b = some o) → ∃ own : List (Addr × Obj), (∀ b ∈ wr, ∃ o, (b, o) ∈ own) ∧ (∀ p ∈ own, p.1 ∈ wr) ∧ ∀ p ∈ own, h.get? p.1 = some p.2
  | [], _ => ⟨[], by simp, by simp, by simp⟩
  | b :: r, hb => by
    obtain ⟨own, h1, h2, h3⟩ := own_ex (wr := r) (fun b hb' => hb b (.tail _ hb'))
    obtain ⟨o, ho⟩ := hb b (.head _)
    refine ⟨(b, o) :: own, ?_, ?_, ?_⟩
    · intro c hc
      rcases List.mem_cons.mp hc with rfl | hc
      · exact ⟨o, .head _⟩
      · obtain ⟨o', ho'⟩ := h1 c hc
        exact ⟨o', .tail _ ho'⟩
    · intro p hp
      rcases List.mem_cons.mp hp with rfl | hp
      · exact .head _
      · exact .tail _ (h2 p hp)
    · intro p hp
      rcases List.mem_cons.mp hp with rfl | hp
      · exact ho
      · exact h3 p hp
theorem Src2.keepSt {I : Addr} {fp wr : List Addr} {n : Nat} {Pt : Nat → Array Value → Prop} {St : Nat → Heap → Prop} {Mid : Nat → Addr → Heap → Prop} {s₂ : Shared} (X : Src2 prog w A h₀ L m news I fp wr n Pt St Mid s₂) {i : Nat} {h h' : Heap} {m₁ m₂ : Str → Option Value} {own : List (Addr × Obj)}
    (st : St i h) (F : Fr h₀ L h m₁) (N : News h₀ L h news) (F' : Fr h₀ L h' m₂) (N' : News h₀ L h' news) (hown : ∀ b ∈ wr, ∃ o, (b, o) ∈ own) (O : ∀ p ∈ own, h.get? p.1 = some p.2) (O' : ∀ p ∈ own, h'.get? p.1 = some p.2) : St i h' := by
  refine X.W.frame _ _ _ st fun b hb o e => ?_
  rcases X.on b hb with q | ⟨o₁, q⟩ | ⟨o₁, q⟩
  · obtain ⟨o', ho'⟩ := hown b q
    have := O _ ho'
    dsimp only at this
    rw [e] at this; cases this
    exact O' _ ho'
  · have := F.keep b o₁ q
    rw [e] at this; cases this
    exact F'.keep b o q
  · have := (N _ q).1
    rw [e] at this; cases this
    exact (N' _ q).1

noncomputable def PairEnd (h₀ : Heap) (L : Addr) (m : Str → Option Value) (C D : Addr) (oC oD : Obj) (tl : List (Addr × Obj)) (wr : List Addr) (s₂ : Shared) (G : Value → List (Addr × Obj) → Prop) (y : Value) (s₅ : Shared) : Prop :=
  ∃ h5 tk5 nx, s₅ = { s₂ with heap := h5, toks := tk5 } ∧ Fr h₀ L h5 m ∧ News h₀ L h5 ((C, oC) :: (D, oD) :: (nx ++ tl)) ∧ (∀ p ∈ nx, p.1 ≠ C ∧ p.1 ≠ D ∧ p.1 ∉ wr) ∧ G y nx
theorem PairEnd.intro {h5 : Heap} {C D : Addr} {oC oD : Obj} {news own nx : List (Addr × Obj)} {wr : List Addr} {s₂ : Shared} {G : Value → List (Addr × Obj) → Prop} {y : Value} {tk5 : Nat} (add : List (Addr × Obj))
    (F : Fr h₀ L h5 m) (N : News h₀ L h5 (add ++ ((C, oC) :: (D, oD) :: (nx ++ (own ++ news))))) (hown : ∀ b ∈ wr, ∃ o, (b, o) ∈ own) (hnx : ∀ p ∈ nx, p.1 ≠ C ∧ p.1 ≠ D ∧ p.1 ∉ wr)
    (hadd : ∀ p ∈ add, ∀ q ∈ (C, oC) :: (D, oD) :: (nx ++ (own ++ news)), q.1 < p.1) (g : G y (add ++ nx)) :
    PairEnd h₀ L m C D oC oD (own ++ news) wr s₂ G y { s₂ with heap := h5, toks := tk5 } := by
  refine ⟨h5, tk5, add ++ nx, rfl, F, fun p hp => N p ?_, ?_, g⟩
  · rcases List.mem_cons.mp hp with rfl | hp
    · exact List.mem_append_right _ (.head _)
    · rcases List.mem_cons.mp hp with rfl | hp
      · exact List.mem_append_right _ (.tail _ (.head _))
      · rcases List.mem_append.mp hp with hp | hp
        · rcases List.mem_append.mp hp with hp | hp
          · exact List.mem_append_left _ hp
          · exact List.mem_append_right _ (.tail _ (.tail _ (List.mem_append_left _ hp)))
        · exact List.mem_append_right _ (.tail _ (.tail _ (List.mem_append_right _ hp)))
  · intro p hp
    rcases List.mem_append.mp hp with hp | hp
    · refine ⟨Nat.ne_of_gt (hadd p hp _ (.head _)), Nat.ne_of_gt (hadd p hp _ (.tail _ (.head _))), fun hw => ?_⟩
      obtain ⟨o, ho⟩ := hown _ hw
      exact Nat.lt_irrefl p.1 (hadd p hp (p.1, o) (.tail _ (.tail _ (List.mem_append_right _ (List.mem_append_left _ ho)))))
    · exact hnx p hp

theorem block2 {elt iter : PySem.Expr} {x x₂ : Str} {px px₂ tp : Pos} {tk : Nat} {scope : Scope} {cl : List (Str × Addr)} {pos : Pos} {RR : Value → Addr → Result → Shared → Prop} {s₂ : Shared} (hh : A.handled = none)
    (hcell : ∀ y ∈ scope.names, y.2 ≠ .cell) (hkind : scope.kind = .function) (hx : scope.names.lookup x = some .local) (hx₂ : scope.names.lookup x₂ = some .local) (hxx : x ≠ x₂)
    {I : Addr} {fp wr : List Addr} {n : Nat} {Pt : Nat → Array Value → Prop} {St : Nat → Heap → Prop} {Mid : Nat → Addr → Heap → Prop} (X : Src2 prog w A h₀ L m news I fp wr n Pt St Mid s₂) (G : Nat → List Value → List (Addr × Obj) → Prop) (g0 : G 0 [] [])
    (turn : ∀ i v₁ v₂ ys nx own oC C D m₂ (sT : Shared) (QT : Value → Shared → Prop) (E' : Value → Shared → Prop), i < n → Pt i #[v₁, v₂] → G i ys nx → LCg.NsObj oC m₂ → m₂ x = some v₁ → m₂ x₂ = some v₂ → Fr h₀ L sT.heap m → News h₀ L sT.heap ((C, oC) :: (D, LCg.lst ys) :: (nx ++ (own ++ news))) →
        (∀ b ∈ wr, ∃ o, (b, o) ∈ own) → (∀ p ∈ nx, p.1 ≠ C ∧ p.1 ≠ D ∧ p.1 ∉ wr) →
        (∀ y s₅, PairEnd h₀ L m C D oC (LCg.lst ys) (own ++ news) wr sT (fun y nx' => G (i + 1) (ys ++ [y]) nx') y s₅ → QT y s₅) →
        wpAny (model prog w) A (eval elt (compEnvC scope cl C env)) QT E' sT)
    (hRR : ∀ D C h tk m' ys nx, G n ys nx → ys.length ≤ n → Fr h₀ L h m → News h₀ L h ((D, LCg.lst ys) :: (nx ++ news)) → (∀ p ∈ news, p.1 < D) → (∀ p ∈ nx, p.1 ≠ D) → h.Ns C m' → h₀.get? C = none → C ≠ L → C ≠ D → (∀ p ∈ nx ++ news, p.1 ≠ C) → RR (.ref D) C (.ok .next) { s₂ with heap := h, toks := tk }) :
    wpAny (model prog w) A (newList []) (fun acc s₃ => wpAny (model prog w) A (newFunctionEnv scope env.globals cl [] env.qual none .none (some env)) (fun cenv s₄ =>
      codeAny (model prog w) A (.compStart (.ListComp elt [⟨.Tuple [.Name x px, .Name x₂ px₂] tk tp, iter, [], 0⟩] scope pos) 0 (.ref I) acc { cenv with scope := relabel scope env }) (RR acc cenv.locals) s₄) E s₃) E s₂ := by
  refine wpAny_newObj_type (wpAny_newFunctionEnv hcell (by intro y hy; simp at hy) (fun h₁ hns₁ hsb₁ => ?_) hkind)
  dsimp only at hns₁ hsb₁ ⊢
  generalize hH2 : s₂.heap.push { cls := .type "list", dict := none, data := .seq ([] : List Value).toArray } = H2 at hns₁ hsb₁ ⊢
  have hC : H2.objs.size = s₂.heap.objs.size + 1 := by rw [← hH2, Heap.size_push]
  have hDC : s₂.heap.objs.size ≠ H2.objs.size := by rw [hC]; exact Nat.ne_of_lt (Nat.lt_succ_self _)
  have below : ∀ b, b < s₂.heap.objs.size → b ≠ H2.objs.size ∧ b ≠ s₂.heap.objs.size := fun b hb => ⟨by rw [hC]; exact Nat.ne_of_lt (Nat.lt_succ_of_lt hb), Nat.ne_of_lt hb⟩
  have hDf : s₂.heap.objs.size ∉ fp := fun hm => Nat.lt_irrefl _ (X.lt _ hm)
  have hCf : H2.objs.size ∉ fp := fun hm => by have := X.lt _ hm; rw [hC] at this; exact Nat.lt_irrefl _ (Nat.lt_of_succ_lt this)
  have hDw : s₂.heap.objs.size ∉ wr := fun hm => hDf (X.W.sub _ hm)
  have hCw : H2.objs.size ∉ wr := fun hm => hCf (X.W.sub _ hm)
  have wlt : ∀ b ∈ wr, b < s₂.heap.objs.size := fun b hb => X.lt b (X.W.sub b hb)
  have old : ∀ b o, s₂.heap.get? b = some o → h₁.get? b = some o := fun b o e => hsb₁.extBut b o (below b (Heap.lt_size e)).1 (Heap.get?_push_of_some _ (hH2 ▸ Heap.get?_push_of_some _ e))
  have hacc : h₁.get? s₂.heap.objs.size = some (LCg.lst []) := hsb₁.extBut _ _ hDC (Heap.get?_push_of_some _ (hH2 ▸ Heap.get?_push_size _ rfl))
  have hst₁ : St 0 h₁ := X.W.frame _ _ _ X.st fun b _ o e => old b o e
  have fresh : ∀ a, s₂.heap.objs.size ≤ a → s₂.heap.get? a = none := fun a ha => by
    cases e : s₂.heap.get? a with
    | none => rfl
    | some o' => exact absurd (Heap.lt_size e) (Nat.not_lt.mpr ha)
  have fresh₀ : ∀ a, s₂.heap.objs.size ≤ a → h₀.get? a = none := fun a ha => by
    cases e : h₀.get? a with
    | none => rfl
    | some o' => have := X.F.keep a o' e; rw [fresh a ha] at this; cases this
  have hD₀ : h₀.get? s₂.heap.objs.size = none := fresh₀ _ (Nat.le_refl _)
  have hC₀ : h₀.get? H2.objs.size = none := fresh₀ _ (by rw [hC]; exact Nat.le_succ _)
  have hLlt : L < s₂.heap.objs.size := X.F.ns.lt
  have hDL : s₂.heap.objs.size ≠ L := Ne.symm (below L hLlt).2
  have hCL : H2.objs.size ≠ L := Ne.symm (below L hLlt).1
  have lastlt : ∀ p ∈ news, p.1 < s₂.heap.objs.size := fun p hp => Heap.lt_size (X.N p hp).1
  have newsC : ∀ p ∈ news, p.1 ≠ H2.objs.size := fun p hp => (below _ (lastlt p hp)).1
  have newsD : ∀ p ∈ news, p.1 ≠ s₂.heap.objs.size := fun p hp => (below _ (lastlt p hp)).2
  have loop : ∀ s₃ : Shared, s₃ = { s₂ with heap := h₁, toks := s₂.toks + ([] : List (Str × Value)).length } →
      codeAny (model prog w) A (.compLoop (.ListComp elt [⟨.Tuple [.Name x px, .Name x₂ px₂] tk tp, iter, [], 0⟩] scope pos) 0 (.ref I) (.ref s₂.heap.objs.size) (compEnvC scope cl H2.objs.size env))
        (RR (.ref s₂.heap.objs.size) H2.objs.size) s₃ := by
    rintro s₃ rfl
    refine LCp.codeAny_compLoop_pair
      (fun k s' => ∃ h' tk i ys nx m', s' = { s₂ with heap := h', toks := tk } ∧ i ≤ n ∧ k = n + 1 - i ∧ ys.length ≤ i ∧ St i h' ∧ Fr h₀ L h' m ∧ h'.Ns H2.objs.size m' ∧ News h₀ L h' ((s₂.heap.objs.size, LCg.lst ys) :: (nx ++ news)) ∧ (∀ p ∈ nx, p.1 ≠ H2.objs.size ∧ p.1 ≠ s₂.heap.objs.size ∧ p.1 ∉ wr) ∧ G i ys nx) ?_ (n + 1) ?_
    · rintro k s' ⟨h', tk, i, ys, nx, m', rfl, hi, rfl, hkl, hst', F', hn', N', hnx, g'⟩
      have offW : ∀ p ∈ (s₂.heap.objs.size, LCg.lst ys) :: (nx ++ news), p.1 ∉ wr := fun p hp => by
        rcases List.mem_cons.mp hp with rfl | hp
        · exact hDw
        · rcases List.mem_append.mp hp with hp | hp
          · exact (hnx p hp).2.2
          · exact X.offN p hp
      by_cases hlt : i < n
      · refine X.W.item i _ _ _ hlt hst' fun T vals h₂ tk₂ hPt hT₂ hMid hk₂ => ?_
        obtain ⟨v₁, v₂, rfl⟩ := X.pair _ _ hPt
        refine X.W.go _ _ _ _ _ _ _ _ hMid fun h₄ hst₄ hk₄ => ?_
        have hT₄ : h₄.IsTuple T #[v₁, v₂] := hT₂.at fun o e => hk₄ T o (X.W.apart _ _ _ hMid) e
        have kk : ∀ b o, b ∉ wr → h'.get? b = some o → h₄.get? b = some o := fun b o hb e => hk₄ b o hb (hk₂ b o hb e)
        refine assign_Tuple_tuple hh hT₄ rfl rfl fun h₅ he => ?_
        have he' : ∀ b o, h₄.get? b = some o → h₅.get? b = some o := fun b o e => he b o (Nat.ne_of_lt (Heap.lt_size e)) e
        refine assignInOrder_cons (wpAny_assign_Name (wpAny_storeName_local (lookup_relabel_local hx) ((hn'.at' fun o e => kk _ o hCw e).at' fun o e => he' _ o e) (fun h₆ hn₆ hs₆ => ?_) (by simp [compEnvC, relabel, hkind])))
        refine assignInOrder_cons (wpAny_assign_Name (wpAny_storeName_local (lookup_relabel_local hx₂) hn₆ (fun h₃ hn₃ hs₃ => ?_) (by simp [compEnvC, relabel, hkind])))
        refine assignInOrder_nil ?_
        have old3 : ∀ b o, b ≠ H2.objs.size → h₄.get? b = some o → h₃.get? b = some o := fun b o hb e => hs₃.extBut b o hb (hs₆.extBut b o hb (he' b o e))
        have hst₃ : St (i + 1) h₃ := X.W.frame _ _ _ hst₄ fun b hb o e => old3 b o (fun q => hCf (by rw [← q]; exact hb)) e
        obtain ⟨own, hown, hown2, O₃⟩ := own_ex (X.obj _ _ hst₃)
        obtain ⟨oC, heC, hoC⟩ := LCg.ns_obj hn₃
        have F₃ : Fr h₀ L h₃ m := (((fr_butL F' kk X.off X.new).keeps he').change hs₆ hCL hC₀).change hs₃ hCL hC₀
        have N₂ : News h₀ L h₄ ((s₂.heap.objs.size, LCg.lst ys) :: (nx ++ news)) := news_butL N' kk offW
        have N₃ : News h₀ L h₃ ((H2.objs.size, oC) :: (s₂.heap.objs.size, LCg.lst ys) :: (nx ++ (own ++ news))) := fun p hp => by
          rcases List.mem_cons.mp hp with rfl | hp
          · exact ⟨heC, hCL, hC₀⟩
          rcases List.mem_cons.mp hp with rfl | hp
          · have z := N₂ _ (.head _)
            exact ⟨old3 _ _ hDC z.1, z.2⟩
          rcases List.mem_append.mp hp with hp | hp
          · have z := N₂ p (.tail _ (List.mem_append_left _ hp))
            exact ⟨old3 _ _ (hnx p hp).1 z.1, z.2⟩
          rcases List.mem_append.mp hp with hp | hp
          · exact ⟨O₃ p hp, fun q => X.off (q ▸ hown2 p hp), X.new _ (hown2 p hp)⟩
          · have z := N₂ p (.tail _ (List.mem_append_right _ hp))
            exact ⟨old3 _ _ (newsC p hp) z.1, z.2⟩
        refine wpAny_mono (turn i v₁ v₂ ys nx own oC H2.objs.size s₂.heap.objs.size _ { s₂ with heap := h₃, toks := _ } _ _ hlt hPt g' hoC (by simp [hxx]) (by simp) F₃ N₃ hown hnx fun _ _ z => z) (fun y s₄ h₄ => ?_) fun _ _ e => e
        have N₃' : News h₀ L h₃ news := fun p hp => N₃ p (.tail _ (.tail _ (List.mem_append_right _ (List.mem_append_right _ hp))))
        obtain ⟨h5, tk5, nx', rfl, F₅, N₅, hnx', g₅⟩ := h₄
        have zC := (N₅ (H2.objs.size, oC) List.mem_cons_self).1
        have zD := (N₅ (s₂.heap.objs.size, LCg.lst ys) (List.mem_cons_of_mem _ List.mem_cons_self)).1
        have N₅' : News h₀ L h5 news := fun p hp => N₅ p (.tail _ (.tail _ (List.mem_append_right _ (List.mem_append_right _ hp))))
        have O₅ : ∀ p ∈ own, h5.get? p.1 = some p.2 := fun p hp => (N₅ p (.tail _ (.tail _ (List.mem_append_right _ (List.mem_append_left _ hp))))).1
        have hst₅ : St (i + 1) h5 := X.keepSt hst₃ F₃ N₃' F₅ N₅' hown O₃ O₅
        refine append_at (hsz := by show ys.toArray.size ≤ sizeLine; rw [List.size_toArray]; exact Nat.le_trans (Nat.le_trans hkl hi) X.size) zD fun h₆ hs₆ hD₆ => ?_
        refine ⟨n + 1 - (i + 1), by omega, h₆, _, i + 1, ys ++ [y], nx', _, rfl, hlt, rfl, by rw [List.length_append, List.length_singleton]; exact Nat.succ_le_succ hkl, ?_, F₅.change hs₆ hDL hD₀, (hoC.ns zC).sameBut hs₆ (Ne.symm hDC), ?_, hnx', g₅⟩
        · exact X.W.frame _ _ _ hst₅ fun b hb o e => hs₆.extBut b o (fun q => hDf (q ▸ hb)) e
        · intro p hp
          rcases List.mem_cons.mp hp with rfl | hp
          · exact ⟨hD₆.trans (congrArg some (LCg.lst_snoc ys y)), hDL, hD₀⟩
          · rcases List.mem_append.mp hp with hp | hp
            · have z := N₅ p (.tail _ (.tail _ (List.mem_append_left _ hp)))
              exact ⟨hs₆.extBut _ _ (hnx' p hp).2.1 z.1, z.2⟩
            · exact ⟨hs₆.extBut _ _ (newsD p hp) (N₅' p hp).1, (N₅' p hp).2⟩
      · obtain rfl : i = n := Nat.le_antisymm hi (Nat.not_lt.mp hlt)
        refine X.W.done _ _ _ hst' fun h₂ tk₂ hk₂ => ?_
        have F₂ := fr_butL F' hk₂ X.off X.new
        have N₂ := news_butL N' hk₂ offW
        refine hRR _ _ _ tk₂ _ ys nx g' hkl F₂ N₂ lastlt (fun p hp => (hnx p hp).2.1) (hn'.at' fun o e => hk₂ _ o hCw e) hC₀ hCL (Ne.symm hDC) (fun p hp => ?_)
        rcases List.mem_append.mp hp with hp | hp
        · exact (hnx p hp).1
        · exact newsC p hp
    · refine ⟨h₁, _, 0, [], [], _, rfl, Nat.zero_le _, rfl, Nat.le_refl _, hst₁, X.F.keeps old, hns₁, fun p hp => ?_, by simp, g0⟩
      rcases List.mem_cons.mp hp with rfl | hp
      · exact ⟨hacc, hDL, hD₀⟩
      · exact ⟨old _ _ (X.N p hp).1, (X.N p hp).2⟩
  exact codeAny_compStart_list (loop _ rfl) (X.W.self 0 _ _ _ hst₁ (loop _ rfl))

theorem ns_done {D C : Addr} {h h₃ : Heap} {ys : List Value} {nx : List (Addr × Obj)} (N : News h₀ L h ((D, LCg.lst ys) :: (nx ++ news))) (hCD : C ≠ D) (off : ∀ p ∈ nx ++ news, p.1 ≠ C) (hs : Heap.SameBut C h h₃) : News h₀ L h₃ ((D, LCg.lst ys) :: (nx ++ news)) := by
  intro p hp
  have z := N p hp
  refine ⟨hs.extBut _ _ ?_ z.1, z.2⟩
  rcases List.mem_cons.mp hp with rfl | hp
  · exact Ne.symm hCD
  · exact off p hp

theorem listComp2 {elt iter : PySem.Expr} {x x₂ : Str} {px px₂ tp : Pos} {tk : Nat} {scope : Scope} {cl : List (Str × Addr)} {pos : Pos} {Q : Value → Shared → Prop} (_F : Fr h₀ L s.heap m) (_N : News h₀ L s.heap news) (hh : A.handled = none)
    (hclos : closureFor scope env = pure cl) (hcell : ∀ y ∈ scope.names, y.2 ≠ .cell) (hkind : scope.kind = .function)
    (hnames : ∀ y ∈ scope.names, y.2 = .local → scope.names.lookup y.1 = some .local) (hx : scope.names.lookup x = some .local) (hx₂ : scope.names.lookup x₂ = some .local) (hxx : x ≠ x₂)
    (h : wpAny (model prog w) A (eval iter env) (fun xv s₁ => wpAny (model prog w) A (pyIter xv) (fun it s₂ => ∃ I fp wr n Pt St Mid news, it = .ref I ∧ Src2 prog w A h₀ L m news I fp wr n Pt St Mid s₂ ∧ ∃ G : Nat → List Value → List (Addr × Obj) → Prop, G 0 [] [] ∧
      (∀ i v₁ v₂ ys nx own oC C D m₂ (sT : Shared) (QT : Value → Shared → Prop) (E' : Value → Shared → Prop), i < n → Pt i #[v₁, v₂] → G i ys nx → LCg.NsObj oC m₂ → m₂ x = some v₁ → m₂ x₂ = some v₂ → Fr h₀ L sT.heap m → News h₀ L sT.heap ((C, oC) :: (D, LCg.lst ys) :: (nx ++ (own ++ news))) →
        (∀ b ∈ wr, ∃ o, (b, o) ∈ own) → (∀ p ∈ nx, p.1 ≠ C ∧ p.1 ≠ D ∧ p.1 ∉ wr) →
        (∀ y s₅, PairEnd h₀ L m C D oC (LCg.lst ys) (own ++ news) wr sT (fun y nx' => G (i + 1) (ys ++ [y]) nx') y s₅ → QT y s₅) →
        wpAny (model prog w) A (eval elt (compEnvC scope cl C env)) QT E' sT) ∧
      (∀ D ys nx h tk, G n ys nx → ys.length ≤ n → Fr h₀ L h m → News h₀ L h ((D, LCg.lst ys) :: (nx ++ news)) → (∀ p ∈ news, p.1 < D) → (∀ p ∈ nx, p.1 ≠ D) → Q (.ref D) { s₂ with heap := h, toks := tk })) E s₁) E s)
    (hs : ∀ x, foldedSetIterable iter env x = pure x := by intro _; rfl) :
    wpAny (model prog w) A (eval (.ListComp elt [⟨.Tuple [.Name x px, .Name x₂ px₂] tk tp, iter, [], 0⟩] scope pos) env) Q E s := by
  rw [arm_eval_ListComp]
  refine wpAny_comprehension_free (use := none) rfl hs hclos hkind hnames (wpAny_mono h (fun xv s₁ h₁ => wpAny_mono h₁ (fun it s₂ h₂ => ?_) fun _ _ e => e) fun _ _ e => e)
  obtain ⟨I, fp, wr, n, Pt, St, Mid, news, rfl, X, G, g0, turn, done⟩ := h₂
  refine block2 hh hcell hkind hx hx₂ hxx X G g0 turn fun D C h tk m' ys nx g' hkl F' N' lastlt offD hn hC₀ hCL hCD offC => ?_
  exact ⟨m', hn, fun h₃ hs₃ => done _ ys nx h₃ tk g' hkl (F'.change hs₃ hCL hC₀) (ns_done N' hCD offC hs₃) lastlt offD⟩

/-- the same, its list stored under a local name -/
theorem assignComp2 {elt iter : PySem.Expr} {x x₂ y : Str} {px px₂ tp py : Pos} {tk : Nat} {scope : Scope} {cl : List (Str × Addr)} {pos spos : Pos} {Q : Flow → Shared → Prop} (_F : Fr h₀ env.locals s.heap m) (_N : News h₀ env.locals s.heap news) (hh : A.handled = none)
    (hsw : swapsWith (.ListComp elt [⟨.Tuple [.Name x px, .Name x₂ px₂] tk tp, iter, [], 0⟩] scope pos) (some (.Name y py)) spos.line env = pure true)
    (hclos : closureFor scope env = pure cl) (hcell : ∀ y ∈ scope.names, y.2 ≠ .cell) (hkind : scope.kind = .function)
    (hnames : ∀ y ∈ scope.names, y.2 = .local → scope.names.lookup y.1 = some .local) (hx : scope.names.lookup x = some .local) (hx₂ : scope.names.lookup x₂ = some .local) (hxx : x ≠ x₂)
    (hy : env.kindOf y = some .local) (hp : (env.scope.kind == .class || (env.scope.kind == .module && env.locals != env.globals)) = false)
    (h : wpAny (model prog w) A (eval iter env) (fun xv s₁ => wpAny (model prog w) A (pyIter xv) (fun it s₂ => ∃ I fp wr n Pt St Mid news, it = .ref I ∧ Src2 prog w A h₀ env.locals m news I fp wr n Pt St Mid s₂ ∧ ∃ G : Nat → List Value → List (Addr × Obj) → Prop, G 0 [] [] ∧
      (∀ i v₁ v₂ ys nx own oC C D m₂ (sT : Shared) (QT : Value → Shared → Prop) (E' : Value → Shared → Prop), i < n → Pt i #[v₁, v₂] → G i ys nx → LCg.NsObj oC m₂ → m₂ x = some v₁ → m₂ x₂ = some v₂ → Fr h₀ env.locals sT.heap m → News h₀ env.locals sT.heap ((C, oC) :: (D, LCg.lst ys) :: (nx ++ (own ++ news))) →
        (∀ b ∈ wr, ∃ o, (b, o) ∈ own) → (∀ p ∈ nx, p.1 ≠ C ∧ p.1 ≠ D ∧ p.1 ∉ wr) →
        (∀ y s₅, PairEnd h₀ env.locals m C D oC (LCg.lst ys) (own ++ news) wr sT (fun y nx' => G (i + 1) (ys ++ [y]) nx') y s₅ → QT y s₅) →
        wpAny (model prog w) A (eval elt (compEnvC scope cl C env)) QT E' sT) ∧
      (∀ D ys nx h tk, G n ys nx → ys.length ≤ n → Fr h₀ env.locals h (fun z => if z = y then some (.ref D) else m z) → News h₀ env.locals h ((D, LCg.lst ys) :: (nx ++ news)) → (∀ p ∈ news, p.1 < D) → (∀ p ∈ nx, p.1 ≠ D) → Q .next { s₂ with heap := h, toks := tk })) E s₁) E s)
    (hs : ∀ x, foldedSetIterable iter env x = pure x := by intro _; rfl) :
    wpAny (model prog w) A (exec (.Assign [.Name y py] (.ListComp elt [⟨.Tuple [.Name x px, .Name x₂ px₂] tk tp, iter, [], 0⟩] scope pos) spos) env) Q E s := by
  rw [exec_Assign_Name_used _ _ _ _ hsw]
  refine wpAny_bind (wpAny_standAt (wpAny_bind ?_))
  show wpAny _ A (do let _ ← comprehension (.ListComp elt [⟨.Tuple [.Name x px, .Name x₂ px₂] tk tp, iter, [], 0⟩] scope pos) scope env _ (newList []) false (eval iter env) (some (assign (.Name y py) env))) _ _ s
  refine wpAny_bind (wpAny_mono (wpAny_comprehension_free (use := some (assign (.Name y py) env)) (Q := fun _ s' => Q .next s') rfl hs hclos hkind hnames
    (wpAny_mono h (fun xv s₁ h₁ => wpAny_mono h₁ (fun it s₂ h₂ => ?_) fun _ _ e => e) fun _ _ e => e)) (fun _ s' hq => wpAny_pure (wpAny_pure hq)) fun _ _ e => e)
  obtain ⟨I, fp, wr, n, Pt, St, Mid, news, rfl, X, G, g0, turn, done⟩ := h₂
  refine block2 hh hcell hkind hx hx₂ hxx X G g0 turn fun D C h tk m' ys nx g' hkl F' N' lastlt offD hn hC₀ hCL hCD offC => ?_
  show wpAny _ A (assign (.Name y py) env (.ref D)) _ _ _
  refine wpAny_assign_Name (wpAny_storeName_local hy F'.ns (fun h₂ hn₂ hs₂ => ?_) hp)
  have hL₀ : h₀.get? env.locals = none := Heap.get?_none_of_le F'.above
  have F₂ : Fr h₀ env.locals h₂ (fun z => if z = y then some (.ref D) else m z) := ⟨hn₂, fun b o e => hs₂.extBut b o (fun q => by rw [q, hL₀] at e; cases e) (F'.keep b o e), F'.above⟩
  have N₂ : News h₀ env.locals h₂ ((D, LCg.lst ys) :: (nx ++ news)) := N'.set hs₂
  exact ⟨m', hn.sameBut hs₂ hCL, fun h₃ hs₃ => done _ ys nx h₃ _ g' hkl (F₂.change hs₃ hCL hC₀) (ns_done N₂ hCD offC hs₃) lastlt offD⟩

theorem src2_enum {l : Addr} {vs : List Value} {nn : Nat} {Q : Value → Shared → Prop} (hh : A.handled = none) (hsz : vs.length ≤ sizeLine) (F : Fr h₀ L s.heap m) (N : News h₀ L s.heap news) (hm : (l, W.listOf vs.toArray nn) ∈ news)
    (h : ∀ I fp wr St Mid h', Src2 prog w A h₀ L m news I fp wr vs.length (fun i vals => ∃ t x, vs[i]? = some x ∧ vals = #[.int i t, x]) St Mid { s with heap := h' } → Q (.ref I) { s with heap := h' }) :
    wpAny (model prog w) A (call (.type "enumerate") [.ref l]) (fun xv s₁ => wpAny (model prog w) A (pyIter xv) Q E s₁) E s := by
  have hls : s.heap.IsList l vs.toArray := ⟨_, (N _ hm).1, rfl, _, rfl⟩
  have hlt : l < s.heap.objs.size := Heap.lt_size (N _ hm).1
  refine call_enumerate_list hls fun h' he hit hsz' hk => ?_
  refine wpAny_pyIter_enum he ?_
  have hne : s.heap.objs.size + 1 ≠ s.heap.objs.size := Nat.succ_ne_self _
  have hl1 : l ≠ s.heap.objs.size + 1 := Nat.ne_of_lt (Nat.lt_succ_of_lt hlt)
  have hl2 : l ≠ s.heap.objs.size := Nat.ne_of_lt hlt
  have W := (WalksT.enumerate (prog := prog) (w := w) hh (s.heap.objs.size + 1) s.heap.objs.size l hne hl1 hl2 vs.toArray).toU
  have hlen : vs.toArray.size = vs.length := by simp
  rw [hlen] at W
  simp only [List.getElem?_toArray] at W
  have big : ∀ b ∈ [s.heap.objs.size + 1, s.heap.objs.size], s.heap.objs.size ≤ b := by
    intro b hb
    rcases List.mem_cons.mp hb with rfl | hb
    · exact Nat.le_succ _
    · rw [List.mem_singleton.mp hb]; exact Nat.le_refl _
  have fresh₀ : ∀ a, s.heap.objs.size ≤ a → h₀.get? a = none := fun a ha => by
    cases e : h₀.get? a with
    | none => rfl
    | some o' => exact absurd (Heap.lt_size (F.keep a o' e)) (Nat.not_lt.mpr ha)
  have hL : L ∉ [s.heap.objs.size + 1, s.heap.objs.size] := fun hm => absurd F.ns.lt (Nat.not_lt.mpr (big _ hm))
  refine h _ _ _ _ _ h' ⟨W, ?_, hsz, ⟨⟨_, he⟩, hit, hls.at fun o e => hk _ _ e⟩, ?_, ?_, ?_, fun b hb => fresh₀ b (big b hb), hL, fun p hp hw => absurd (Heap.lt_size (N p hp).1) (Nat.not_lt.mpr (big _ hw)), F.keeps hk, fun p hp => ⟨hk _ _ (N p hp).1, (N p hp).2⟩⟩
  · rintro i vals ⟨t, x, _, rfl⟩
    exact ⟨_, _, rfl⟩
  · intro b hb
    show b < h'.objs.size
    rw [hsz']
    rcases List.mem_cons.mp hb with rfl | hb
    · exact Nat.lt_succ_self _
    rcases List.mem_cons.mp hb with rfl | hb
    · exact Nat.lt_succ_of_lt (Nat.lt_succ_self _)
    rw [List.mem_singleton.mp hb]; exact Nat.lt_succ_of_lt (Nat.lt_succ_of_lt hlt)
  · rintro i hh' ⟨⟨old, he'⟩, ⟨o, ho, _⟩, _⟩ b hb
    rcases List.mem_cons.mp hb with rfl | hb
    · exact ⟨_, he'⟩
    · rw [List.mem_singleton.mp hb]; exact ⟨o, ho⟩
  · intro b hb
    rcases List.mem_cons.mp hb with rfl | hb
    · exact .inl (.head _)
    rcases List.mem_cons.mp hb with rfl | hb
    · exact .inl (.tail _ (.head _))
    rw [List.mem_singleton.mp hb]; exact .inr (.inr ⟨_, hm⟩)

theorem src2_list {l : Addr} {ts : List (Addr × Value × Value)} {nn : Nat} {Q : Value → Shared → Prop} (hh : A.handled = none) (hsz : ts.length ≤ sizeLine) (F : Fr h₀ L s.heap m) (N : News h₀ L s.heap news)
    (hm : (l, W.listOf (ts.map fun t => Value.ref t.1).toArray nn) ∈ news) (ht : ∀ t ∈ ts, (t.1, tupOf [t.2.1, t.2.2]) ∈ news)
    (h : ∀ I fp wr St Mid h', Src2 prog w A h₀ L m news I fp wr ts.length (fun i vals => ∃ t, ts[i]? = some t ∧ vals = #[t.2.1, t.2.2]) St Mid { s with heap := h' } → Q (.ref I) { s with heap := h' }) :
    wpAny (model prog w) A (pyIter (.ref l)) Q E s := by
  have hls : s.heap.IsList l (ts.map fun t => Value.ref t.1).toArray := ⟨_, (N _ hm).1, rfl, _, rfl⟩
  have hlt : l < s.heap.objs.size := Heap.lt_size (N _ hm).1
  have hne : l ≠ s.heap.objs.size := Nat.ne_of_lt hlt
  refine wpAny_pyIter_list hls ?_
  have hlen : (ts.map fun t => Value.ref t.1).toArray.size = ts.length := by simp
  have tlt : ∀ t ∈ ts, t.1 < s.heap.objs.size := fun t htm => Heap.lt_size (N _ (ht t htm)).1
  have memD : ∀ j, j < ts.length → ts.getD j (0, .none, .none) ∈ ts := fun j hj => by
    rw [List.getD_eq_getElem?_getD, List.getElem?_eq_getElem hj, Option.getD_some]; exact List.getElem_mem hj
  have atD : ∀ j, j < ts.length → ts[j]? = some (ts.getD j (0, .none, .none)) := fun j hj => by
    rw [List.getD_eq_getElem?_getD, List.getElem?_eq_getElem hj, Option.getD_some]
  have W := (WalksU.listOfTuples (prog := prog) (w := w) hh s.heap.objs.size l hne (ts.map fun t => Value.ref t.1).toArray (fun j => (ts.getD j (0, .none, .none)).1) (fun j => #[(ts.getD j (0, .none, .none)).2.1, (ts.getD j (0, .none, .none)).2.2])
    (fun j hj => by rw [hlen] at hj; rw [List.getElem?_toArray, List.getElem?_map, atD j hj]; rfl)
    (fun j hj => by rw [hlen] at hj; exact Nat.ne_of_lt (tlt _ (memD j hj)))).bound
  rw [hlen] at W
  have hL : L ∉ [s.heap.objs.size] := fun hm => absurd F.ns.lt (by rw [List.mem_singleton.mp hm]; exact Nat.lt_irrefl _)
  have up : ∀ b o, s.heap.get? b = some o → (s.heap.push { cls := .type "list_iterator", data := .fields #[.ref l, .int 0 0] }).get? b = some o := fun b o e => Heap.get?_push_of_some _ e
  have W2 : WalksU prog w A s.heap.objs.size _ [s.heap.objs.size] ts.length (fun i vals => ∃ t, ts[i]? = some t ∧ vals = #[t.2.1, t.2.2]) _ _ :=
    ⟨W.sub, W.frame, fun i s Q E hi st hQ => W.item i s Q E hi st fun T vals h' tk hP hT hm hk => hQ T vals h' tk ⟨_, atD i hP.1, hP.2⟩ hT hm hk, W.go, W.apart, W.done, W.self⟩
  refine h _ _ _ _ _ _ ⟨W2, ?_, hsz, ⟨⟨_, Heap.get?_push_size _ rfl, rfl, rfl⟩, hls.at fun o e => up _ _ e, fun k hk => ?_⟩, ?_, ?_, ?_, fun b hb => by rw [List.mem_singleton.mp hb]; exact next_is_new F, hL, fun p hp hw => absurd (Heap.lt_size (N p hp).1) (by rw [List.mem_singleton.mp hw]; exact Nat.lt_irrefl _), F.push _, fun p hp => ⟨up _ _ (N p hp).1, (N p hp).2⟩⟩
  · rintro i vals ⟨t, _, rfl⟩
    exact ⟨_, _, rfl⟩
  · exact ⟨_, up _ _ (N _ (ht _ (memD k hk))).1, rfl, _, rfl⟩
  · intro b hb
    show b < (s.heap.push _).objs.size
    rw [Heap.size_push]
    rcases List.mem_cons.mp hb with rfl | hb
    · exact Nat.lt_succ_self _
    rcases List.mem_cons.mp hb with rfl | hb
    · exact Nat.lt_succ_of_lt hlt
    obtain ⟨k, hk, rfl⟩ := List.mem_map.mp hb
    exact Nat.lt_succ_of_lt (tlt _ (memD k (List.mem_range.mp hk)))
  · rintro i hh' ⟨⟨o, ho, _⟩, _⟩ b hb
    rw [List.mem_singleton.mp hb]; exact ⟨o, ho⟩
  · intro b hb
    rcases List.mem_cons.mp hb with rfl | hb
    · exact .inl (.head _)
    rcases List.mem_cons.mp hb with rfl | hb
    · exact .inr (.inr ⟨_, hm⟩)
    obtain ⟨k, hk, rfl⟩ := List.mem_map.mp hb
    exact .inr (.inr ⟨_, ht _ (memD k (List.mem_range.mp hk))⟩)
end

noncomputable def lawB1 : List Stmt := pickL (l := lawBody.drop 1) rfl
theorem mod_million (n : Int) : 0 ≤ n.fmod (10 ^ Int.toNat 6) ∧ n.fmod (10 ^ Int.toNat 6) < 1000000 := by
  have e : (10 ^ Int.toNat 6 : Int) = 1000000 := by decide
  rw [e]
  exact ⟨Int.fmod_nonneg_of_pos _ (by decide), Int.fmod_lt_of_pos _ (by decide)⟩
section
variable {prog : Program} {w : World} {p : Program} {loose : List Str} {mean : ExcName → Option Value} {mg mb : Str → Option Value}
  {dp un : Nat} {gd : Option (List Code)} {a : Addr} {ccd : Value} {outer : List Env} {A₀ : Around} {base h₀ : Heap} {L : Addr} {s : Shared} {Q : Flow → Shared → Prop} {E : Value → Shared → Prop}
set_option maxHeartbeats 2000000
theorem law_p1 (lsc : Addr) (vs : List Value) (ns : List Int) (ob oa ot osc : Obj) (hL : h₀.IsList lsc vs.toArray) (hI : IntsAre vs ns) (hlen : ns.length ≤ 63)
    (B : Below A₀ base outer h₀) (F : Fr h₀ L s.heap (fun _ => none)) (X : (hd.heap_39 w.params).In h₀) (N : News h₀ L s.heap [(L + 1 + 1 + 1 + 1, ob), (L + 1 + 1 + 1, oa), (L + 1 + 1, ot), (L + 1, osc)])
    (db : ob.data = .cell none) (da : oa.data = .cell none) (dt : ot.data = .cell none) (dsc : osc.data = .cell (some (.ref lsc))) (T : Top p loose mean mg mb h₀)
    (hd : dp + 10 < recursionLimit) (hu : un + 200 < cLine)
    (hrest : ∀ (D : Addr) (ys : List Value) (d0 d1 d2 : Int) (h' : Heap) (tk' : Nat), IntsAre ys [d0, d1, d2] → (0 ≤ d0 ∧ d0 < 1000000) → (0 ≤ d1 ∧ d1 < 1000000) → (0 ≤ d2 ∧ d2 < 1000000) →
      Fr h₀ L h' (fun y => if y = Str.ofString "drawn" then some (.ref D) else none) → News h₀ L h' [(D, W.listOf ys.toArray ys.length), (L + 1 + 1 + 1 + 1, ob), (L + 1 + 1 + 1, oa), (L + 1 + 1, ot), (L + 1, osc)] →
      (∀ q ∈ [(L + 1 + 1 + 1 + 1, ob), (L + 1 + 1 + 1, oa), (L + 1 + 1, ot), (L + 1, osc)], q.1 < D) →
      wpAny (model prog w) (ktrTop dp un gd (Str.ofString "law") lawScope L a ccd (lawCells L) outer) (execs lawB1 (envX (Str.ofString "law") lawScope L a ccd (lawCells L))) Q E { s with heap := h', toks := tk' }) :
    wpAny (model prog w) (ktrTop dp un gd (Str.ofString "law") lawScope L a ccd (lawCells L) outer) (execs lawBody (envX (Str.ofString "law") lawScope L a ccd (lawCells L))) Q E s := by
  unfold lawBody lawScope
  dsimp only [pickL, pickScope]
  walk1
  refine assignComp2 F N (by rfl) (by with_unfolding_all rfl) (by rfl) (by decide) rfl (by decide) rfl rfl (by decide) rfl rfl ?_
  (repeat (fail_if_success (with_reducible show wpAny _ _ (call (Value.type _) _) _ _ _)); first | (k_unfold; (try dsimp only)) | walk1 | (dsimp only; walk1))
  rename Fr _ _ _ _ => F1
  rename News _ _ _ _ => N1
  refine src2_enum (vs := [.int 118 _, .int 101 _, .int 44 _]) rfl (by rw [PySem.sizeLine_eq]; exact Nat.le_of_ble_eq_true rfl) F1 N1 (.head _) fun I fp wr St Mid h' X2 => ?_
  refine ⟨I, fp, wr, _, _, St, Mid, _, rfl, X2, fun i ys nx => nx = [] ∧ ∃ ds, IntsAre ys ds ∧ ds.length = i ∧ ∀ d ∈ ds, 0 ≤ d ∧ d < 1000000, ⟨rfl, [], .nil, rfl, by simp⟩, ?_, ?_⟩
  · rintro i v1 v2 ys nx own oC C D m2 sT QT E' hi ⟨t, x, hx, hv⟩ ⟨rfl, ds, hys, hdl, hds⟩ hC hm1 hm2 F2 N2 hown hnx hQT
    obtain ⟨rfl, rfl⟩ : v1 = .int i t ∧ v2 = x := by
      injection hv with hv
      injection hv with h1 hv
      injection hv with h2 hv
      exact ⟨h1, h2⟩
    simp only [List.nil_append] at N2
    obtain ⟨sx, tx, rfl⟩ : ∃ n t, v2 = .int n t := by
      match i, hi, hx with
      | 0, _, hx | 1, _, hx | 2, _, hx => exact ⟨_, _, (Option.some.inj hx).symm⟩
    generalize htl : own ++ _ = tl at N2 hQT ⊢
    have hsc : (L + 1, osc) ∈ tl := by rw [← htl]; exact List.mem_append_right _ (.tail _ (.tail _ (.tail _ (.tail _ (.head _)))))
    have N3 : News h₀ L sT.heap ((L + 1, osc) :: (C, oC) :: (D, LCg.lst ys) :: tl) := fun p hp => by
      rcases List.mem_cons.mp hp with rfl | hp
      · exact N2 _ (.tail _ (.tail _ hsc))
      · exact N2 p hp
    clear X2 N2 htl
    repeat (fail_if_success (with_reducible show wpAny _ _ (eval (Expr.Subscript _ _ _) _) _ _ _)); first | (k_unfold; (try dsimp only)) | walk1 | (dsimp only; walk1)
    k_steps
    rename News _ _ _ _ => N5
    rename Fr _ _ _ _ => F5
    dsimp only at N5
    have hpk := IntsAre.pick hI (some (i : Int)) none (some 3)
    generalize pickNums ns (some (i : Int)) none (some 3) = ms at hpk
    have hpl : (slicePick vs.toArray (some (i : Int)) none (some 3)).toList.length ≤ 63 := by
      have := slicePick_size_le vs.toArray (some (i : Int)) none (some 3)
      rw [Array.length_toList]
      refine Nat.le_trans this ?_
      rw [List.size_toArray, hI.length]; exact hlen
    have e5 : slicePick vs.toArray (some (i : Int)) none (some 3) = (slicePick vs.toArray (some (i : Int)) none (some 3)).toList.toArray := by simp
    rw [e5] at N5
    generalize (slicePick vs.toArray (some (i : Int)) none (some 3)).toList = zs at hpk hpl N5
    generalize sT.heap.objs.size + 1 = Z at N5 ⊢
    replace N5 : News h₀ L _ ((Z, W.listOf zs.toArray 0) :: (L + 1, osc) :: (C, oC) :: (D, LCg.lst ys) :: tl) := N5
    have hml := hpk.length
    k_steps
    rename Fr _ _ _ _ => F6
    rename News _ _ _ _ => N6
    refine hQT _ _ ⟨_, _, [], rfl, F6, fun p hp => N6 p (.tail _ (.tail _ hp)), by simp, rfl, ds ++ [_], IntsAre.append hys (.cons _ _ .nil), by simp [hdl], ?_⟩
    intro d hd
    rcases List.mem_append.mp hd with hd | hd
    · exact hds d hd
    · rw [List.mem_singleton.mp hd]
      exact mod_million _
  · rintro D ys nx h2 tk2 ⟨rfl, ds, hys, hdl, hds⟩ hyl F2 N2 hlt _
    match ds, hdl with
    | [d0, d1, d2], _ =>
      exact hrest D ys d0 d1 d2 h2 tk2 hys (hds _ (by simp)) (hds _ (by simp)) (hds _ (by simp)) F2 (fun p hp => N2 p (by
        rcases List.mem_cons.mp hp with rfl | hp
        · exact .head _
        · exact .tail _ (.tail _ hp))) (fun p hp => hlt p (.tail _ hp))
end

noncomputable def lawB9 : List Stmt := pickL (l := lawBody.drop 9) rfl
noncomputable def totOf (d2 : Int) : Nat := (4 - (d2.fdiv 64).fmod 2).toNat
noncomputable def tot3 (d2 : Int) : Nat := (4 - (d2.fdiv 128).fmod 2).toNat
noncomputable def secondOf (d0 d1 d2 : Int) : List Int := if d1.fmod 3 = 0 then runsTo (d1.fdiv 3) (totOf d2) else if d1.fmod 3 = 1 then (runsTo d0 (totOf d2)).reverse else (runsTo d0 (totOf d2)).drop 1 ++ (runsTo d0 (totOf d2)).take 1
noncomputable def bareOf (d0 : Int) : Int := (d0.fdiv 16).fmod 3
noncomputable def behOf (d0 : Int) : Int := (d0.fdiv 48).fmod 3
noncomputable def laterOf (d0 d1 : Int) : Int := if (d1.fdiv 48).fmod 4 = 1 then (behOf d0 + 1).fmod 3 else behOf d0
noncomputable def barerOf (d0 d2 : Int) : Int := if (d2.fdiv 16).fmod 4 = 1 then (bareOf d0 + 1).fmod 3 else bareOf d0
theorem fdiv_bd {n k : Int} (h : 0 ≤ n ∧ n < 1000000) (hk : 0 < k) : 0 ≤ n.fdiv k ∧ n.fdiv k < 1000000 := by
  rw [Int.fdiv_eq_ediv_of_nonneg _ (Int.le_of_lt hk)]
  refine ⟨Int.ediv_nonneg h.1 (Int.le_of_lt hk), ?_⟩
  have := Int.ediv_le_self k h.1
  omega
theorem runsTo_len (n : Int) : ∀ k, 0 < (runsTo n k).length ∧ (runsTo n k).length ≤ k + 1
  | 0 => ⟨Nat.one_pos, Nat.le_refl _⟩
  | k + 1 => by
    have := runsTo_len n k
    rw [runsTo, runStep]
    split
    · rw [List.length_append]; simp only [List.length_cons, List.length_nil]; omega
    · rw [List.length_set]; omega
theorem totOf_is (d2 : Int) : 5 - (d2.fdiv 64).fmod 2 = (totOf d2 : Int) + 1 ∧ totOf d2 ≤ 8 := by
  have h0 := Int.fmod_nonneg_of_pos (d2.fdiv 64) (show (0 : Int) < 2 by decide)
  have h1 := Int.fmod_lt_of_pos (d2.fdiv 64) (show (0 : Int) < 2 by decide)
  unfold totOf
  omega
theorem tot3_is (d2 : Int) : 5 - (d2.fdiv 128).fmod 2 = (tot3 d2 : Int) + 1 ∧ tot3 d2 ≤ 8 := by
  have h0 := Int.fmod_nonneg_of_pos (d2.fdiv 128) (show (0 : Int) < 2 by decide)
  have h1 := Int.fmod_lt_of_pos (d2.fdiv 128) (show (0 : Int) < 2 by decide)
  unfold tot3
  omega
section
variable {prog : Program} {w : World} {p : Program} {loose : List Str} {mean : ExcName → Option Value} {mg mb : Str → Option Value}
  {dp un : Nat} {gd : Option (List Code)} {a : Addr} {ccd : Value} {outer : List Env} {A₀ : Around} {base h₀ : Heap} {L : Addr} {s : Shared} {Q : Flow → Shared → Prop} {E : Value → Shared → Prop}
noncomputable def IntIs (n : Int) (s : Shared) (v : Value) (s' : Shared) : Prop := ∃ tk tk', v = .int n tk ∧ s' = { s with toks := tk' }
theorem IntIs.intro {n k : Int} {t tk' : Nat} {s : Shared} (e : k = n) : IntIs n s (.int k t) { s with toks := tk' } := ⟨_, _, by rw [e], rfl⟩
theorem cutInt {M : Model} {A : Around} {t : Sem Value} {Q E : Value → Shared → Prop} (n : Int) (h : wpAny M A t (IntIs n s) E s) (k : ∀ tk tk', Q (.int n tk) { s with toks := tk' }) : wpAny M A t Q E s :=
  wpAny_mono h (fun _ _ ⟨tk, tk', e1, e2⟩ => by subst e1; subst e2; exact k tk tk') fun _ _ e => e
theorem pick3 {A : Around} {news : List (Addr × Obj)} {value slice : PySem.Expr} {l x y z : Addr} {nn nx ny nz : Nat} {vx vy vz : List Value} {xs ys zs : List Int} {k : Int} {u : Tok} {Q E : Value → Shared → Prop} (N : News h₀ L s.heap news)
    (hm : (l, W.listOf #[.ref x, .ref y, .ref z] nn) ∈ news) (h0 : 0 ≤ k) (h1 : k < 3) (hx : (x, W.listOf vx.toArray nx) ∈ news) (hy : (y, W.listOf vy.toArray ny) ∈ news) (hz : (z, W.listOf vz.toArray nz) ∈ news)
    (ix : IntsAre vx xs) (iy : IntsAre vy ys) (iz : IntsAre vz zs)
    (h : ∀ r vr nr, (r, W.listOf vr.toArray nr) ∈ news → IntsAre vr (if k = 0 then xs else if k = 1 then ys else zs) → Q (.ref r) s)
    (hs : subscripted slice false (.ref l) (.int k u) = operate [.ref l, .int k u] (getItem (.ref l) (.int k u)) := by with_unfolding_all rfl) :
    wpAny (model prog w) A (subscriptTail value slice (.ref l) (.int k u)) Q E s := by
  have hl : s.heap.IsList l #[.ref x, .ref y, .ref z] := ⟨_, (N _ hm).1, rfl, _, rfl⟩
  have h3 : k = 0 ∨ k = 1 ∨ k = 2 := by omega
  rcases h3 with rfl | rfl | rfl
  · exact tail_any hl.typeIs slot_list_getitem.lookup (wpAny_getItem_list hl (by decide) (by decide) (by rfl) (h _ _ _ hx ix)) hs
  · exact tail_any hl.typeIs slot_list_getitem.lookup (wpAny_getItem_list hl (by decide) (by decide) (by rfl) (h _ _ _ hy iy)) hs
  · exact tail_any hl.typeIs slot_list_getitem.lookup (wpAny_getItem_list hl (by decide) (by decide) (by rfl) (h _ _ _ hz iz)) hs
set_option maxHeartbeats 2000000
theorem law_p2 (ob oa ot osc : Obj) (D : Addr) (ys : List Value) (d0 d1 d2 : Int) (hys : IntsAre ys [d0, d1, d2]) (h0 : 0 ≤ d0 ∧ d0 < 1000000) (h1 : 0 ≤ d1 ∧ d1 < 1000000) (h2 : 0 ≤ d2 ∧ d2 < 1000000)
    (hD : ∀ q ∈ [(L + 1 + 1 + 1 + 1, ob), (L + 1 + 1 + 1, oa), (L + 1 + 1, ot), (L + 1, osc)], q.1 < D)
    (B : Below A₀ base outer h₀) (F : Fr h₀ L s.heap (fun y => if y = Str.ofString "drawn" then some (.ref D) else none)) (X : (hd.heap_39 w.params).In h₀)
    (N : News h₀ L s.heap [(D, W.listOf ys.toArray ys.length), (L + 1 + 1 + 1 + 1, ob), (L + 1 + 1 + 1, oa), (L + 1 + 1, ot), (L + 1, osc)]) (T : Top p loose mean mg mb h₀)
    (hd : dp + 10 < recursionLimit) (hu : un + 200 < cLine)
    (hrest : ∀ (lf ls lt : Addr) (vf v2 vt : List Value) (nf n2 nt : Nat) (pD : Addr × Obj) (u1 u2 u3 u4 u5 : Tok) (vtot : Value) (h' : Heap) (tk' : Nat), IntsAre vf (runsTo d0 (totOf d2)) → IntsAre v2 (secondOf d0 d1 d2) → IntsAre vt (runsTo d2 (tot3 d2)) →
      Fr h₀ L h' (fun y => if y = Str.ofString "barer" then some (.int (barerOf d0 d2) u4) else if y = Str.ofString "later" then some (.int (laterOf d0 d1) u3) else if y = Str.ofString "behind" then some (.int (behOf d0) u2) else if y = Str.ofString "bare" then some (.int (bareOf d0) u1)
        else if y = Str.ofString "third" then some (.ref lt) else if y = Str.ofString "second" then some (.ref ls) else if y = Str.ofString "first" then some (.ref lf) else if y = Str.ofString "total" then some vtot else if y = Str.ofString "drawn" then some (.ref D) else none) →
      News h₀ L h' [(lt, W.listOf vt.toArray nt), (ls, W.listOf v2.toArray n2), (lf, W.listOf vf.toArray nf), pD, (L + 1 + 1 + 1 + 1, ob), (L + 1 + 1 + 1, oa), (L + 1 + 1, ot), (L + 1, osc)] →
      wpAny (model prog w) (ktrTop dp un gd (Str.ofString "law") lawScope L a ccd (lawCells L) outer) (execs lawB9 (envX (Str.ofString "law") lawScope L a ccd (lawCells L))) Q E { s with heap := h', toks := tk' }) :
    wpAny (model prog w) (ktrTop dp un gd (Str.ofString "law") lawScope L a ccd (lawCells L) outer) (execs lawB1 (envX (Str.ofString "law") lawScope L a ccd (lawCells L))) Q E s := by
  unfold lawB1 lawScope
  dsimp only [pickL, pickScope]
  obtain ⟨t0, t1, t2, rfl⟩ : ∃ t0 t1 t2, ys = [.int d0 t0, .int d1 t1, .int d2 t2] := by
    rcases hys with _ | ⟨_, t0, hys⟩
    rcases hys with _ | ⟨_, t1, hys⟩
    rcases hys with _ | ⟨_, t2, hys⟩
    cases hys
    exact ⟨t0, t1, t2, rfl⟩
  have hD' := allLt_of hD
  simp only [AllLt, and_true] at hD'
  have g0 : ([d0, d1, d2] : List Int).getD (Int.toNat 0) 0 = d0 := rfl
  have g1 : ([d0, d1, d2] : List Int).getD (Int.toNat 1) 0 = d1 := rfl
  have g2 : ([d0, d1, d2] : List Int).getD (Int.toNat 2) 0 = d2 := rfl
  obtain ⟨q1, q2⟩ := totOf_is d2
  obtain ⟨q3, q4⟩ := tot3_is d2
  (repeat (fail_if_success (with_reducible show wpAny _ _ (call (Value.ref _) _) _ _ _)); first | (k_unfold; (try dsimp only)) | walk1 | (dsimp only; walk1))
  rename Fr _ _ _ _ => F1
  rename News _ _ _ _ => N1
  rw [g2, q1] at F1
  rw [g0, g2, q1]
  generalize s.toks + 1 + 1 + 1 + 1 + 1 + 1 = tk1 at F1 ⊢
  k_dflt (refine' runs_call d0 (totOf d2) _ _ q2 h0.1 h0.2 ?k1 ?k2 ?k3 ?k4 ?k5 ?kK ?kd ?ku ?kR; (case k1 => k_asm); (case k2 => k_asm); (case k3 => k_asm); (case k4 => k_asm); (case k5 => k_asm); (case kK => first | exact rfl | assumption); (case kd => ktr_room); (case ku => ktr_units))
  intro lf vf nf h3 tk3 F3 N3 l3 hf
  have l3' := allLt_of l3
  simp only [AllLt, and_true] at l3'
  clear N1 F1
  (repeat (fail_if_success (with_reducible show wpAny _ _ (call (Value.ref _) _) _ _ _)); first | (k_unfold; (try dsimp only)) | walk1 | (dsimp only; walk1))
  rename Fr _ _ _ _ => F4
  rename News _ _ _ _ => N4
  rw [g1]
  dsimp only at F4
  k_dflt (refine' runs_call (d1.fdiv 3) (totOf d2) _ _ q2 (fdiv_bd h1 (by decide)).1 (fdiv_bd h1 (by decide)).2 ?b1 ?b2 ?b3 ?b4 ?b5 ?bK ?bd ?bu ?bR; (case b1 => k_asm); (case b2 => k_asm); (case b3 => k_asm); (case b4 => k_asm); (case b5 => k_asm); (case bK => first | exact rfl | assumption); (case bd => ktr_room); (case bu => ktr_units))
  intro lg vg ng h5 tk5 F5 N5 l5 hg
  have l5' := allLt_of l5
  simp only [AllLt, and_true] at l5'
  clear N4 F4
  have hvf := hf.length
  have hvg := hg.length
  have hlf := runsTo_len d0 (totOf d2)
  have hlg := runsTo_len (d1.fdiv 3) (totOf d2)
  repeat (fail_if_success (with_reducible show wpAny _ _ (subscriptTail _ _ (Value.ref _) (Value.int _ _)) _ _ _)); first | (k_unfold; (try dsimp only)) | walk1 | (dsimp only; walk1)
  walk1
  rw [g1]
  walk1
  walk1
  rename Fr _ _ _ _ => F6
  rename News _ _ _ _ => N6
  rename IntsAre _ (_ ++ _) => hcat
  rename IntsAre _ (List.reverse _) => hrev
  have hmod0 := Int.fmod_nonneg_of_pos d1 (show (0 : Int) < 3 by decide)
  have hmod1 := Int.fmod_lt_of_pos d1 (show (0 : Int) < 3 by decide)
  refine pick3 N6 (.head _) hmod0 hmod1 (.tail _ (.tail _ (.tail _ (.tail _ (.tail _ (.head _)))))) (.tail _ (.tail _ (.tail _ (.tail _ (.head _))))) (.tail _ (.head _)) hg hrev hcat fun ls v2 n2 hms h2nd => ?_
  replace h2nd : IntsAre v2 (secondOf d0 d1 d2) := h2nd
  have N7 : News h₀ L _ [(ls, W.listOf v2.toArray n2), (lf, W.listOf vf.toArray nf), (D, W.listOf [Value.int d0 t0, Value.int d1 t1, Value.int d2 t2].toArray 3), (L + 1 + 1 + 1 + 1, ob), (L + 1 + 1 + 1, oa), (L + 1 + 1, ot), (L + 1, osc)] := fun p hp => N6 p (by
    rcases List.mem_cons.mp hp with rfl | hp
    · exact hms
    · exact .tail _ (.tail _ (.tail _ (.tail _ (.tail _ (.tail _ hp))))))
  clear N6 hms hrev hcat l5 l3
  (repeat (fail_if_success (with_reducible show wpAny _ _ (call (Value.ref _) _) _ _ _)); first | (k_unfold; (try dsimp only)) | walk1 | (dsimp only; walk1))
  rename Fr _ _ _ _ => F8
  rename News _ _ _ _ => N8
  rw [g2, q3]
  k_dflt (refine' runs_call d2 (tot3 d2) _ _ q4 h2.1 h2.2 ?e1 ?e2 ?e3 ?e4 ?e5 ?eK ?ed ?eu ?eR; (case e1 => k_asm); (case e2 => k_asm); (case e3 => k_asm); (case e4 => k_asm); (case e5 => k_asm); (case eK => first | exact rfl | assumption); (case ed => ktr_room); (case eu => ktr_units))
  intro lt vt nt h9 tk9 F9 N9 l9 ht
  have l9' := allLt_of l9
  simp only [AllLt, and_true] at l9'
  clear N8 F8
  (repeat (fail_if_success (with_reducible show wpAny _ _ (eval (Expr.IfExp _ _ _ _) _) _ _ _)); first | (k_unfold; (try dsimp only)) | walk1 | (dsimp only; walk1))
  refine cutInt (laterOf d0 d1) ?_ fun tl1 tl2 => ?_
  · k_steps
    · rename Int.fmod _ 4 = 1 => hc
      refine IntIs.intro ?_
      rw [g1] at hc
      rw [laterOf, if_pos hc]
      rfl
    · rename Int.fmod _ 4 ≠ 1 => hc
      refine IntIs.intro ?_
      rw [g1] at hc
      rw [laterOf, if_neg hc]
      rfl
  (repeat (fail_if_success (with_reducible show wpAny _ _ (eval (Expr.IfExp _ _ _ _) _) _ _ _)); first | (k_unfold; (try dsimp only)) | walk1 | (dsimp only; walk1))
  refine cutInt (barerOf d0 d2) ?_ fun tl3 tl4 => ?_
  · k_steps
    · rename Int.fmod _ 4 = 1 => hc
      refine IntIs.intro ?_
      rw [g2] at hc
      rw [barerOf, if_pos hc]
      rfl
    · rename Int.fmod _ 4 ≠ 1 => hc
      refine IntIs.intro ?_
      rw [g2] at hc
      rw [barerOf, if_neg hc]
      rfl
  (repeat (fail_if_success (with_reducible show wpAny _ _ (execs [_, _, _, _, _, _, _] _) _ _ _)); first | (k_unfold; (try dsimp only)) | walk1 | (dsimp only; walk1))
  rename Fr _ _ _ _ => FZ
  rename News _ _ _ _ => NZ
  exact hrest lf ls lt vf v2 vt nf n2 nt (D, _) _ _ _ _ 0 _ _ _ hf h2nd ht FZ NZ
end

noncomputable def lawB11 : List Stmt := pickL (l := lawBody.drop 11) rfl
noncomputable def zerosOf (b : Int) : List Int := (List.replicate b.toNat [(0 : Int)]).flatten
noncomputable def lead1 (d0 d2 : Int) : List Int := zerosOf (bareOf d0) ++ runsTo d0 (totOf d2)
noncomputable def lead2 (d0 d1 d2 : Int) : List Int := secondOf d0 d1 d2 ++ zerosOf (bareOf d0)
noncomputable def lead3 (d0 d2 : Int) : List Int := (runsTo d2 (tot3 d2)).take 1 ++ zerosOf (barerOf d0 d2) ++ (runsTo d2 (tot3 d2)).drop 1
theorem mod3_bd (n : Int) : 0 ≤ n.fmod 3 ∧ n.fmod 3 < 3 := ⟨Int.fmod_nonneg_of_pos _ (by decide), Int.fmod_lt_of_pos _ (by decide)⟩
theorem bareOf_bd (d : Int) : 0 ≤ bareOf d ∧ bareOf d < 3 := mod3_bd _
theorem behOf_bd (d : Int) : 0 ≤ behOf d ∧ behOf d < 3 := mod3_bd _
theorem laterOf_bd (d e : Int) : 0 ≤ laterOf d e ∧ laterOf d e < 3 := by
  unfold laterOf; split
  · exact mod3_bd _
  · exact mod3_bd _
theorem barerOf_bd (d e : Int) : 0 ≤ barerOf d e ∧ barerOf d e < 3 := by
  unfold barerOf; split
  · exact mod3_bd _
  · exact mod3_bd _
theorem zeros_len {b : Int} (h : 0 ≤ b ∧ b < 3) : (zerosOf b).length ≤ 2 := by
  unfold zerosOf
  simp
  omega
theorem second_len (d0 d1 d2 : Int) : (secondOf d0 d1 d2).length ≤ 9 := by
  have h1 := runsTo_len d0 (totOf d2)
  have h2 := runsTo_len (d1.fdiv 3) (totOf d2)
  have h3 := (totOf_is d2).2
  unfold secondOf
  split
  · omega
  split
  · rw [List.length_reverse]; omega
  · rw [List.length_append, List.length_drop, List.length_take]; omega
noncomputable def NoCell (tl : List (Addr × Obj)) : Prop := ∀ p ∈ tl, ∀ v, p.2.data ≠ .cell v
noncomputable def LeadsIn (tl : List (Addr × Obj)) (ld : Addr) (P : List (List Int × Int)) : Prop :=
  ∃ (ts : List (Addr × Value × Value)) (nn : Nat), (ld, W.listOf (ts.map fun t => Value.ref t.1).toArray nn) ∈ tl ∧ (∀ t ∈ ts, (t.1, tupOf [t.2.1, t.2.2]) ∈ tl) ∧ ts.length = P.length ∧
    ∀ (i : Nat) (t : Addr × Value × Value), ts[i]? = some t → ∃ q, P[i]? = some q ∧ ∃ p vp np tb, t.2 = (.ref p, .int q.2 tb) ∧ (p, W.listOf vp.toArray np) ∈ tl ∧ IntsAre vp q.1
noncomputable def EndsIn (tl : List (Addr × Obj)) (le : Addr) (P : List (Int × Int)) : Prop :=
  ∃ (ts : List (Addr × Value × Value)) (nn : Nat), (le, W.listOf (ts.map fun t => Value.ref t.1).toArray nn) ∈ tl ∧ (∀ t ∈ ts, (t.1, tupOf [t.2.1, t.2.2]) ∈ tl) ∧ ts.length = P.length ∧
    ∀ (i : Nat) (t : Addr × Value × Value), ts[i]? = some t → ∃ q, P[i]? = some q ∧ ∃ ta tb, t.2 = (.int q.1 ta, .int q.2 tb)
theorem LeadsIn.mono {tl tl' : List (Addr × Obj)} {ld : Addr} {P : List (List Int × Int)} (h : LeadsIn tl ld P) (hs : ∀ p ∈ tl, p ∈ tl') : LeadsIn tl' ld P := by
  obtain ⟨ts, nn, h1, h2, h3, h4⟩ := h
  refine ⟨ts, nn, hs _ h1, fun t ht => hs _ (h2 t ht), h3, fun i t hi => ?_⟩
  obtain ⟨q, hq, p, vp, np, tb, e, hm, hI⟩ := h4 i t hi
  exact ⟨q, hq, p, vp, np, tb, e, hs _ hm, hI⟩
theorem EndsIn.mono {tl tl' : List (Addr × Obj)} {ld : Addr} {P : List (Int × Int)} (h : EndsIn tl ld P) (hs : ∀ p ∈ tl, p ∈ tl') : EndsIn tl' ld P := by
  obtain ⟨ts, nn, h1, h2, h3, h4⟩ := h
  exact ⟨ts, nn, hs _ h1, fun t ht => hs _ (h2 t ht), h3, h4⟩
noncomputable def leadsL (d0 d1 d2 : Int) : List (List Int × Int) := [(lead1 d0 d2, behOf d0), (lead2 d0 d1 d2, laterOf d0 d1), (lead3 d0 d2, behOf d0)]
noncomputable def endsL (d0 d1 d2 : Int) : List (Int × Int) := [(bareOf d0, behOf d0), (bareOf d0, laterOf d0 d1), (barerOf d0 d2, behOf d0)]
theorem pack3 {h₀ h : Heap} {L : Addr} {cells : List (Addr × Obj)} {le e1 e2 e3 ld t1 t2 t3 p1 p2 p3 : Addr} {q1 q2 q3 q4 q5 q6 q7 q8 q9 q10 q11 q12 q13 : Addr × Obj} {vp1 vp2 vp3 : List Value}
    {a1 a2 a3 c1 c2 c3 b1 b2 b3 : Int} {ta1 ta2 ta3 tc1 tc2 tc3 tb1 tb2 tb3 : Tok} {l1 l2 l3 : List Int}
    (N : News h₀ L h ([(le, W.listOf #[.ref e1, .ref e2, .ref e3] 0), (e3, tupOf [.int a3 ta3, .int c3 tc3]), (e2, tupOf [.int a2 ta2, .int c2 tc2]), (e1, tupOf [.int a1 ta1, .int c1 tc1]),
      (ld, W.listOf #[.ref t1, .ref t2, .ref t3] 0), (t3, tupOf [.ref p3, .int b3 tb3]), (p3, W.listOf vp3.toArray 0), q1, q2, q3, q4, q5,
      (t2, tupOf [.ref p2, .int b2 tb2]), (p2, W.listOf vp2.toArray 0), q6, q7,
      (t1, tupOf [.ref p1, .int b1 tb1]), (p1, W.listOf vp1.toArray 0), q8, q9, q10, q11, q12, q13] ++ cells))
    (h1 : IntsAre vp1 l1) (h2 : IntsAre vp2 l2) (h3 : IntsAre vp3 l3) :
    ∃ tl, News h₀ L h (cells ++ tl) ∧ NoCell tl ∧ LeadsIn tl ld [(l1, b1), (l2, b2), (l3, b3)] ∧ EndsIn tl le [(a1, c1), (a2, c2), (a3, c3)] := by
  refine ⟨[(le, W.listOf #[.ref e1, .ref e2, .ref e3] 0), (e3, tupOf [.int a3 ta3, .int c3 tc3]), (e2, tupOf [.int a2 ta2, .int c2 tc2]), (e1, tupOf [.int a1 ta1, .int c1 tc1]),
      (ld, W.listOf #[.ref t1, .ref t2, .ref t3] 0), (t3, tupOf [.ref p3, .int b3 tb3]), (p3, W.listOf vp3.toArray 0), (t2, tupOf [.ref p2, .int b2 tb2]), (p2, W.listOf vp2.toArray 0), (t1, tupOf [.ref p1, .int b1 tb1]), (p1, W.listOf vp1.toArray 0)], fun p hp => N p ?_, ?_, ?_, ?_⟩
  · rcases List.mem_append.mp hp with hp | hp
    · exact List.mem_append_right _ hp
    · refine List.mem_append_left _ (List.Sublist.mem hp ?_)
      exact .cons₂ _ (.cons₂ _ (.cons₂ _ (.cons₂ _ (.cons₂ _ (.cons₂ _ (.cons₂ _ (.cons _ (.cons _ (.cons _ (.cons _ (.cons _ (.cons₂ _ (.cons₂ _ (.cons _ (.cons _ (.cons₂ _ (.cons₂ _ (.cons _ (.cons _ (.cons _ (.cons _ (.cons _ (.cons _ .slnil)))))))))))))))))))))))
  · intro p hp v
    simp only [List.mem_cons, List.not_mem_nil, or_false] at hp
    rcases hp with rfl | rfl | rfl | rfl | rfl | rfl | rfl | rfl | rfl | rfl | rfl <;> (intro e; cases e)
  · refine ⟨[(t1, .ref p1, .int b1 tb1), (t2, .ref p2, .int b2 tb2), (t3, .ref p3, .int b3 tb3)], 0, ?_, ?_, rfl, ?_⟩
    · exact .tail _ (.tail _ (.tail _ (.tail _ (.head _))))
    · intro t ht
      simp only [List.mem_cons, List.not_mem_nil, or_false] at ht
      rcases ht with rfl | rfl | rfl
      · exact .tail _ (.tail _ (.tail _ (.tail _ (.tail _ (.tail _ (.tail _ (.tail _ (.tail _ (.head _)))))))))
      · exact .tail _ (.tail _ (.tail _ (.tail _ (.tail _ (.tail _ (.tail _ (.head _)))))))
      · exact .tail _ (.tail _ (.tail _ (.tail _ (.tail _ (.head _)))))
    · intro i t hi
      match i, hi with
      | 0, hi => cases hi; exact ⟨_, rfl, p1, vp1, 0, tb1, rfl, .tail _ (.tail _ (.tail _ (.tail _ (.tail _ (.tail _ (.tail _ (.tail _ (.tail _ (.tail _ (.head _)))))))))), h1⟩
      | 1, hi => cases hi; exact ⟨_, rfl, p2, vp2, 0, tb2, rfl, .tail _ (.tail _ (.tail _ (.tail _ (.tail _ (.tail _ (.tail _ (.tail _ (.head _)))))))), h2⟩
      | 2, hi => cases hi; exact ⟨_, rfl, p3, vp3, 0, tb3, rfl, .tail _ (.tail _ (.tail _ (.tail _ (.tail _ (.tail _ (.head _)))))), h3⟩
      | n + 3, hi => cases hi
  · refine ⟨[(e1, .int a1 ta1, .int c1 tc1), (e2, .int a2 ta2, .int c2 tc2), (e3, .int a3 ta3, .int c3 tc3)], 0, .head _, ?_, rfl, ?_⟩
    · intro t ht
      simp only [List.mem_cons, List.not_mem_nil, or_false] at ht
      rcases ht with rfl | rfl | rfl
      · exact .tail _ (.tail _ (.tail _ (.head _)))
      · exact .tail _ (.tail _ (.head _))
      · exact .tail _ (.head _)
    · intro i t hi
      match i, hi with
      | 0, hi => cases hi; exact ⟨_, rfl, _, _, rfl⟩
      | 1, hi => cases hi; exact ⟨_, rfl, _, _, rfl⟩
      | 2, hi => cases hi; exact ⟨_, rfl, _, _, rfl⟩
      | n + 3, hi => cases hi
section
variable {prog : Program} {w : World} {p : Program} {loose : List Str} {mean : ExcName → Option Value} {mg mb : Str → Option Value}
  {dp un : Nat} {gd : Option (List Code)} {a : Addr} {ccd : Value} {outer : List Env} {A₀ : Around} {base h₀ : Heap} {L : Addr} {s : Shared} {Q : Flow → Shared → Prop} {E : Value → Shared → Prop}
theorem mulZ {A : Around} {m : Str → Option Value} {news : List (Addr × Obj)} {l : Addr} {t u : Tok} {nn : Nat} {x : Int} {Q E : Value → Shared → Prop} (F : Fr h₀ L s.heap m) (N : News h₀ L s.heap news) (hm : (l, W.listOf #[.int 0 t] nn) ∈ news) (h0 : 0 ≤ x ∧ x < 3)
    (h : ∀ D h' ws, IntsAre ws (zerosOf x) → Fr h₀ L h' m → News h₀ L h' ((D, W.listOf ws.toArray 0) :: news) → (∀ p ∈ news, p.1 < D) → Q (.ref D) { s with heap := h' }) :
    wpAny (model prog w) A (binaryOp .Mult (.ref l) (.int x u)) Q E s := by
  refine KMa.mul (vs := [.int 0 t]) (ws := (List.replicate x.toNat [Value.int 0 t]).flatten) F N ⟨_, (N _ hm).1, rfl, _, rfl⟩ (by omega) (by omega) (by simp; omega) rfl fun D h' F' N' l' => h D h' _ ?_ F' N' l'
  exact KM.ints_rep (.cons _ _ .nil) _
set_option maxHeartbeats 2000000
theorem law_p3 (ob oa ot osc : Obj) (D : Addr) (d0 d1 d2 : Int)
    (lf ls lt : Addr) (vf v2 vt : List Value) (nf n2 nt : Nat) (pD : Addr × Obj) (u1 u2 u3 u4 u5 : Tok) (vtot : Value) (hf : IntsAre vf (runsTo d0 (totOf d2))) (h2 : IntsAre v2 (secondOf d0 d1 d2)) (ht : IntsAre vt (runsTo d2 (tot3 d2)))
    (B : Below A₀ base outer h₀) (F : Fr h₀ L s.heap (fun y => if y = Str.ofString "barer" then some (.int (barerOf d0 d2) u4) else if y = Str.ofString "later" then some (.int (laterOf d0 d1) u3) else if y = Str.ofString "behind" then some (.int (behOf d0) u2) else if y = Str.ofString "bare" then some (.int (bareOf d0) u1)
        else if y = Str.ofString "third" then some (.ref lt) else if y = Str.ofString "second" then some (.ref ls) else if y = Str.ofString "first" then some (.ref lf) else if y = Str.ofString "total" then some vtot else if y = Str.ofString "drawn" then some (.ref D) else none))
    (X : (hd.heap_39 w.params).In h₀)
    (N : News h₀ L s.heap [(lt, W.listOf vt.toArray nt), (ls, W.listOf v2.toArray n2), (lf, W.listOf vf.toArray nf), pD, (L + 1 + 1 + 1 + 1, ob), (L + 1 + 1 + 1, oa), (L + 1 + 1, ot), (L + 1, osc)]) (T : Top p loose mean mg mb h₀)
    (hd : dp + 10 < recursionLimit) (hu : un + 200 < cLine)
    (hrest : ∀ (tl : List (Addr × Obj)) (ld le : Addr) (m₁ : Str → Option Value) (h' : Heap) (tk' : Nat),
      Fr h₀ L h' (fun y => if y = Str.ofString "ends" then some (.ref le) else if y = Str.ofString "leads" then some (.ref ld) else m₁ y) →
      News h₀ L h' ((L + 1 + 1 + 1 + 1, ob) :: (L + 1 + 1 + 1, oa) :: (L + 1 + 1, ot) :: (L + 1, osc) :: tl) → NoCell tl → LeadsIn tl ld (leadsL d0 d1 d2) → EndsIn tl le (endsL d0 d1 d2) →
      wpAny (model prog w) (ktrTop dp un gd (Str.ofString "law") lawScope L a ccd (lawCells L) outer) (execs lawB11 (envX (Str.ofString "law") lawScope L a ccd (lawCells L))) Q E { s with heap := h', toks := tk' }) :
    wpAny (model prog w) (ktrTop dp un gd (Str.ofString "law") lawScope L a ccd (lawCells L) outer) (execs lawB9 (envX (Str.ofString "law") lawScope L a ccd (lawCells L))) Q E s := by
  unfold lawB9 lawScope
  dsimp only [pickL, pickScope]
  have hvf := hf.length
  have hv2 := h2.length
  have hvt := ht.length
  have hlf := runsTo_len d0 (totOf d2)
  have hlt := runsTo_len d2 (tot3 d2)
  obtain ⟨-, q2⟩ := totOf_is d2
  obtain ⟨-, q4⟩ := tot3_is d2
  have hzb := zeros_len (bareOf_bd d0)
  have hzr := zeros_len (barerOf_bd d0 d2)
  have hs2 := second_len d0 d1 d2
  (repeat (fail_if_success (with_reducible show wpAny _ _ (binaryOp Operator.Mult _ _) _ _ _)); first | (k_unfold; (try dsimp only)) | walk1 | (dsimp only; walk1))
  rename Fr _ _ _ _ => F1
  rename News _ _ _ _ => N1
  refine mulZ F1 N1 (.head _) (bareOf_bd d0) fun z1 h1 w1 hw1 F1' N1' l1' => ?_
  have hwl1 := hw1.length
  have l1'' := allLt_of l1'
  simp only [AllLt, and_true] at l1''
  clear F1 N1
  (repeat (fail_if_success (with_reducible show wpAny _ _ (binaryOp Operator.Mult _ _) _ _ _)); first | (k_unfold; (try dsimp only)) | walk1 | (dsimp only; walk1))
  rename Fr _ _ _ _ => F2
  rename News _ _ _ _ => N2
  rename IntsAre _ (zerosOf _ ++ _) => hp1
  refine mulZ F2 N2 (.head _) (bareOf_bd d0) fun z2 h2' w2 hw2 F2' N2' l2' => ?_
  have hwl2 := hw2.length
  have l2'' := allLt_of l2'
  simp only [AllLt, and_true] at l2''
  clear F2 N2
  (repeat (fail_if_success (with_reducible show wpAny _ _ (binaryOp Operator.Mult _ _) _ _ _)); first | (k_unfold; (try dsimp only)) | walk1 | (dsimp only; walk1))
  rename Fr _ _ _ _ => F3
  rename News _ _ _ _ => N3
  rename IntsAre _ (secondOf _ _ _ ++ _) => hp2
  refine mulZ F3 N3 (.head _) (barerOf_bd d0 d2) fun z3 h3' w3 hw3 F3' N3' l3' => ?_
  have hwl3 := hw3.length
  have l3'' := allLt_of l3'
  simp only [AllLt, and_true] at l3''
  clear F3 N3
  (repeat (fail_if_success (with_reducible show wpAny _ _ (execs [_, _, _, _, _] _) _ _ _)); first | (k_unfold; (try dsimp only)) | walk1 | (dsimp only; walk1))
  rename IntsAre _ (_ ++ zerosOf _ ++ _) => hp3
  rename Fr _ _ _ _ => FZ
  rename News _ _ _ _ => NZ
  obtain ⟨tl, N9, c9, hld, hle⟩ := pack3 (cells := [(L + 1 + 1 + 1 + 1, ob), (L + 1 + 1 + 1, oa), (L + 1 + 1, ot), (L + 1, osc)]) NZ hp1 hp2 hp3
  exact hrest tl _ _ _ _ _ FZ N9 c9 hld hle
end

noncomputable def lawB12 : List Stmt := pickL (l := lawBody.drop 12) rfl
noncomputable def tabOf (q : List Int × Int) : List (Int × Int) := match tblTo q.1 q.1.length with
  | some R => shiftTo R q.2 R.length
  | none => []
noncomputable def TableIn (prog : Program) (w : World) (nx : List (Addr × Obj)) (r : Addr) (c : List (Int × Int)) : Prop :=
  ∃ o kvs, (r, o) ∈ nx ∧ Obj.IsDictOf (PySem.intKind prog w) o kvs ∧ FlatPairs PyData.int kvs (kdfD c) ∧ (r == sysModules) = false
theorem TableIn.mono {prog : Program} {w : World} {nx nx' : List (Addr × Obj)} {r : Addr} {c : List (Int × Int)} (h : TableIn prog w nx r c) (hs : ∀ p ∈ nx, p ∈ nx') : TableIn prog w nx' r c := by
  obtain ⟨o, kvs, h1, h2⟩ := h
  exact ⟨o, kvs, hs _ h1, h2⟩
noncomputable def TablesIn (prog : Program) (w : World) (nx : List (Addr × Obj)) (ys : List Value) (n : Nat) (P : List (List Int × Int)) : Prop :=
  ∃ rs : List Addr, ys = rs.map Value.ref ∧ rs.length = n ∧ ∀ (j : Nat) (r : Addr), rs[j]? = some r → ∃ q, P[j]? = some q ∧ TableIn prog w nx r (tabOf q)
theorem noCell_dict {prog : Program} {w : World} {o : Obj} {kvs : List (Int × Value)} (h : Obj.IsDictOf (PySem.intKind prog w) o kvs) : ∀ v, o.data ≠ .cell v := by
  intro v e
  obtain ⟨es, ep, _, hd, _⟩ := h
  rw [hd] at e
  cases e
section
variable {prog : Program} {w : World} {p : Program} {loose : List Str} {mean : ExcName → Option Value} {mg mb : Str → Option Value}
  {dp un : Nat} {gd : Option (List Code)} {a : Addr} {ccd : Value} {outer : List Env} {A₀ : Around} {base h₀ : Heap} {L : Addr} {s : Shared} {Q : Flow → Shared → Prop} {E : Value → Shared → Prop}
theorem cell_ne {h : Heap} {l : List (Addr × Obj)} {c : Addr} {oc : Obj} {v : Option Value} (N : News h₀ L h l) (hc : (c, oc) ∈ l) (dc : oc.data = .cell v) {tl : List (Addr × Obj)} (hs : ∀ p ∈ tl, p ∈ l) (nc : NoCell tl) : ∀ p ∈ tl, p.1 ≠ c := by
  intro p hp e
  have z := (N p (hs p hp)).1
  have zc := (N _ hc).1
  dsimp only at zc
  rw [e, zc] at z
  exact nc p hp v ((congrArg (fun o : Obj => o.data) (Option.some.inj z)).symm.trans dc)
set_option maxHeartbeats 2000000
theorem law_p4 (ob oa ot osc : Obj) (P : List (List Int × Int)) (hPl : P.length = 3) (hP : ∀ q ∈ P, (∃ R, tblTo q.1 q.1.length = some R ∧ small R = true) ∧ 0 ≤ q.2 ∧ q.2 ≤ 2)
    (db : ob.data = .cell none) (da : oa.data = .cell none) (dt : ot.data = .cell none) {vsc : Option Value} (dsc : osc.data = .cell vsc)
    (tl : List (Addr × Obj)) (ld le : Addr) (m₁ : Str → Option Value) (nc : NoCell tl) (hld : LeadsIn tl ld P)
    (B : Below A₀ base outer h₀) (F : Fr h₀ L s.heap (fun y => if y = Str.ofString "ends" then some (.ref le) else if y = Str.ofString "leads" then some (.ref ld) else m₁ y))
    (X : (hd.heap_39 w.params).In h₀)
    (N : News h₀ L s.heap ((L + 1 + 1 + 1 + 1, ob) :: (L + 1 + 1 + 1, oa) :: (L + 1 + 1, ot) :: (L + 1, osc) :: tl)) (T : Top p loose mean mg mb h₀)
    (hd : dp + 10 < recursionLimit) (hu : un + 200 < cLine)
    (hrest : ∀ (tl' : List (Addr × Obj)) (lt : Addr) (ys : List Value) (nt : Nat) (ot' : Obj) (h' : Heap) (tk' : Nat), ot'.data = .cell (some (.ref lt)) → (∀ p ∈ tl, p ∈ tl') → NoCell tl' → (lt, W.listOf ys.toArray nt) ∈ tl' → TablesIn prog w tl' ys 3 P →
      Fr h₀ L h' (fun y => if y = Str.ofString "ends" then some (.ref le) else if y = Str.ofString "leads" then some (.ref ld) else m₁ y) →
      News h₀ L h' ((L + 1 + 1 + 1 + 1, ob) :: (L + 1 + 1 + 1, oa) :: (L + 1 + 1, ot') :: (L + 1, osc) :: tl') →
      wpAny (model prog w) (ktrTop dp un gd (Str.ofString "law") lawScope L a ccd (lawCells L) outer) (execs lawB12 (envX (Str.ofString "law") lawScope L a ccd (lawCells L))) Q E { s with heap := h', toks := tk' }) :
    wpAny (model prog w) (ktrTop dp un gd (Str.ofString "law") lawScope L a ccd (lawCells L) outer) (execs lawB11 (envX (Str.ofString "law") lawScope L a ccd (lawCells L))) Q E s := by
  unfold lawB11 lawScope
  dsimp only [pickL, pickScope]
  walk1
  refine wpAny_Assign_Name ?_
  refine listComp2 F N (by rfl) (by rfl) (by decide) rfl (by decide) rfl rfl (by decide) ?_
  (repeat (fail_if_success (with_reducible show wpAny _ _ (pyIter _) _ _ _)); first | (k_unfold; (try dsimp only)) | walk1 | (dsimp only; walk1))
  obtain ⟨ts, nn, hm, htup, htl, hts⟩ := hld
  refine src2_list (ts := ts) rfl (by rw [PySem.sizeLine_eq, htl, hPl]; exact Nat.le_of_ble_eq_true rfl) F N (.tail _ (.tail _ (.tail _ (.tail _ hm)))) (fun t ht => .tail _ (.tail _ (.tail _ (.tail _ (htup t ht))))) fun I fp wr St Mid h' X2 => ?_
  refine ⟨I, fp, wr, _, _, St, Mid, _, rfl, X2, fun i ys nx => TablesIn prog w nx ys i P ∧ NoCell nx, ⟨⟨[], rfl, rfl, by simp⟩, fun _ h => nomatch h⟩, ?_, ?_⟩
  · rintro i v1 v2 ys nx own oC C D m2 sT QT E' hi ⟨t, hti, hv⟩ ⟨⟨rs, rfl, hrl, hrs⟩, hnc⟩ hC hm1 hm2 F2 N2 hown hnx hQT
    obtain ⟨q, hq, pp, vp, np, tb, e2, hmp, hIp⟩ := hts i t hti
    obtain ⟨t1, v1', v2'⟩ := t
    cases e2
    cases hv
    obtain ⟨⟨R, hR, hsm⟩, hq0, hq2⟩ := hP q (List.mem_of_getElem? hq)
    clear X2
    generalize htl2 : nx ++ (own ++ _) = tl2 at N2
    (repeat (fail_if_success (with_reducible show wpAny _ _ (call (Value.ref _) _) _ _ _)); first | (k_unfold; (try dsimp only)) | walk1 | (dsimp only; walk1))
    rename Fr _ _ _ _ => F3
    rename News _ _ _ _ => N3
    have hmp3 : (pp, W.listOf vp.toArray np) ∈ (C, oC) :: (D, LCg.lst (List.map Value.ref rs)) :: tl2 := by
      rw [← htl2]
      exact .tail _ (.tail _ (List.mem_append_right _ (List.mem_append_right _ (.tail _ (.tail _ (.tail _ (.tail _ hmp)))))))
    k_dflt (refine' table_call pp vp q.1 np q.2 tb hIp hmp3 R hR hsm hq0 hq2 ?k1 ?k2 ?k3 ?k4 ?k5 ?kK ?kd ?ku ?kR; (case k1 => k_asm); (case k2 => k_asm); (case k3 => k_asm); (case k4 => k_asm); (case k5 => k_asm); (case kK => first | exact rfl | assumption); (case kd => ktr_room); (case ku => ktr_units))
    intro r o kvs h4 tk4 hod hfl hsy hlt F4 N4
    subst htl2
    refine hQT _ _ (PairEnd.intro [(r, o)] F4 N4 hown hnx (fun p hp q' hq' => ?_) ⟨⟨rs ++ [r], by simp, by simp [hrl], fun j r' hj => ?_⟩, ?_⟩)
    · rw [List.mem_singleton.mp hp]; exact hlt q' hq'
    · rcases Nat.lt_or_ge j rs.length with hj1 | hj1
      · rw [List.getElem?_append_left hj1] at hj
        obtain ⟨q', hq', ht'⟩ := hrs j r' hj
        exact ⟨q', hq', ht'.mono fun p hp => .tail _ hp⟩
      · rw [List.getElem?_append_right hj1] at hj
        have hj2 : j = i := by
          have := (List.getElem?_eq_some_iff.mp hj).1
          simp only [List.length_cons, List.length_nil] at this
          omega
        subst hj2
        rw [hrl, Nat.sub_self] at hj
        cases hj
        exact ⟨q, hq, o, kvs, .head _, hod, by rw [tabOf, hR]; exact hfl, hsy⟩
    · intro p hp v
      rcases List.mem_cons.mp hp with rfl | hp
      · exact noCell_dict hod v
      · exact hnc p hp v
  · rintro D ys nx h2 tk2 ⟨hT, hnc⟩ hyl F2 N2 hlt hnD
    have N3 : News h₀ L h2 ((L + 1 + 1 + 1 + 1, ob) :: (L + 1 + 1 + 1, oa) :: (L + 1 + 1, ot) :: (L + 1, osc) :: (D, W.listOf ys.toArray ys.length) :: (nx ++ tl)) := fun p hp => N2 p (mem_front hp)
    have nc2 : NoCell ((D, W.listOf ys.toArray ys.length) :: (nx ++ tl)) := by
      intro p hp v
      rcases List.mem_cons.mp hp with rfl | hp
      · intro e; cases e
      · rcases List.mem_append.mp hp with hp | hp
        · exact hnc p hp v
        · exact nc p hp v
    have ne1 := cell_ne N3 (.tail _ (.tail _ (.head _))) dt (fun p hp => .tail _ (.tail _ (.tail _ (.tail _ hp)))) nc2
    clear N2
    generalize htl2 : (D, W.listOf ys.toArray ys.length) :: (nx ++ tl) = tl2 at N3 nc2 ne1
    (repeat (fail_if_success (with_reducible show wpAny _ _ (execs [_, _, _, _] _) _ _ _)); first | (k_unfold; (try dsimp only)) | walk1 | (dsimp only; walk1))
    rename Fr _ _ _ _ => F4
    rename News _ _ _ _ => N4
    rename Obj.data _ = Data.cell (some (Value.ref D)) => d9
    rw [htl, hPl] at hT
    subst htl2
    exact hrest _ D ys ys.length _ _ _ d9 (fun p hp => .tail _ (List.mem_append_right _ hp)) nc2 (.head _) (by
      obtain ⟨rs, e1, e2, e3⟩ := hT
      refine ⟨rs, e1, e2, fun j r hj => ?_⟩
      obtain ⟨q, hq, ht⟩ := e3 j r hj
      exact ⟨q, hq, ht.mono fun p hp => .tail _ (List.mem_append_left _ hp)⟩) F4 N4
end

noncomputable def encP (ps : List Int) : List Nat := (ps.map fun z => List.replicate z.toNat 32 ++ [9]).flatten
noncomputable def encL (q : List Int × Int) : List Nat := encP q.1 ++ List.replicate q.2.toNat 32
noncomputable def normL (q : List Int × Int) : List Int × Int := ((scanTo (encL q) (encL q).length).count, (scanTo (encL q) (encL q).length).b)
noncomputable def restL : List Nat := [32, 9]
theorem str_ext {x y : Str} (h : x.cps.toList = y.cps.toList) : x = y := by
  cases x; cases y
  simp only at h
  congr 1
  exact Array.toList_inj.mp h
theorem app_codes (x y : Str) : (x ++ y).cps.toList = x.cps.toList ++ y.cps.toList := by
  show (x.cps ++ y.cps).toList = _
  simp
theorem emptyS : PySem.Str.ofString "" = ⟨#[]⟩ := by decide +kernel
theorem tailS : PySem.Str.ofString "x \t" = ⟨#[120, 32, 9]⟩ := by decide +kernel
theorem join_codes : ∀ R : List Str, (PySem.Txt.join (PySem.Str.ofString "") R).cps.toList = (R.map fun x => x.cps.toList).flatten := by
  intro R
  have e : PySem.Txt.join (PySem.Str.ofString "") R = Str.join (PySem.Str.ofString "") R := StrLaws.glued_eq_join _ _
  rw [e, emptyS]
  clear e
  induction R with
  | nil => rfl
  | cons x r ih =>
    cases r with
    | nil => simp [Str.join]
    | cons y r =>
      rw [Str.join, app_codes, app_codes, ih]
      · simp
      · intro h; cases h
noncomputable def pieceS (z : Int) : Str := ⟨(List.replicate z.toNat 32 ++ [9]).toArray⟩
theorem mul_blank (z : Int) : (Txt.mul (PySem.Str.ofString " ") z).cps.toList = List.replicate z.toNat 32 := by
  rw [blankS, mul_one_list]
theorem mul_tab (z : Int) : (Txt.mul (PySem.Str.ofString "\t") z).cps.toList = List.replicate z.toNat 9 := by
  rw [tabS, mul_one_list]
theorem piece_is (z : Int) : Txt.mul (PySem.Str.ofString " ") z ++ PySem.Str.ofString "\t" = pieceS z := by
  apply str_ext
  rw [app_codes, mul_blank, tabS]
  simp [pieceS]
theorem lead_text (q : List Int × Int) : PySem.Txt.join (PySem.Str.ofString "") (q.1.map pieceS) ++ Txt.mul (PySem.Str.ofString " ") q.2 ++ PySem.Str.ofString "x \t" = ⟨(encL q ++ 120 :: restL).toArray⟩ := by
  apply str_ext
  rw [app_codes, app_codes, join_codes, mul_blank, tailS]
  simp [encL, encP, pieceS, restL, List.map_map, Function.comp_def]
theorem plain_text (n m : Int) : Txt.mul (PySem.Str.ofString "\t") n ++ Txt.mul (PySem.Str.ofString " ") m ++ PySem.Str.ofString "x \t" = ⟨((List.replicate n.toNat 9 ++ List.replicate m.toNat 32) ++ 120 :: restL).toArray⟩ := by
  apply str_ext
  rw [app_codes, app_codes, mul_tab, mul_blank, tailS]
  simp [restL]
theorem encP_zero (n : Int) : encP (List.replicate n.toNat 0) = List.replicate n.toNat 9 := by
  unfold encP
  generalize n.toNat = k
  induction k with
  | zero => rfl
  | succ k ih => rw [List.replicate_succ, List.replicate_succ, List.map_cons, List.flatten_cons, ih]; rfl
theorem plain_enc (n m : Int) : List.replicate n.toNat 9 ++ List.replicate m.toNat 32 = encL (List.replicate n.toNat 0, m) := by
  unfold encL
  rw [encP_zero]
theorem encP_codes (ps : List Int) : ∀ k ∈ encP ps, k = 32 ∨ k = 9 := by
  intro k hk
  unfold encP at hk
  obtain ⟨l, hl, hk⟩ := List.mem_flatten.mp hk
  obtain ⟨z, _, rfl⟩ := List.mem_map.mp hl
  rcases List.mem_append.mp hk with hk | hk
  · exact .inl (List.eq_of_mem_replicate hk)
  · exact .inr (List.mem_singleton.mp hk)
theorem encL_codes (q : List Int × Int) : ∀ k ∈ encL q, k = 32 ∨ k = 9 := by
  intro k hk
  rcases List.mem_append.mp hk with hk | hk
  · exact encP_codes _ k hk
  · exact .inl (List.eq_of_mem_replicate hk)
theorem encP_len {b : Nat} : ∀ {ps : List Int}, (∀ z ∈ ps, 0 ≤ z ∧ z ≤ (b : Int)) → (encP ps).length ≤ ps.length * (b + 1)
  | [], _ => Nat.le_of_eq (by simp [encP])
  | z :: r, h => by
    have ih := encP_len (ps := r) fun x hx => h x (.tail _ hx)
    have hz := h z (.head _)
    have e : encP (z :: r) = List.replicate z.toNat 32 ++ [9] ++ encP r := by simp [encP]
    rw [e, List.length_append, List.length_append, List.length_replicate]
    simp only [List.length_cons, List.length_nil]
    rw [Nat.add_one_mul]
    omega
theorem encL_len {q : List Int × Int} (h : ∀ z ∈ q.1, 0 ≤ z ∧ z ≤ 5) (hl : q.1.length ≤ 9) (hb : q.2 ≤ 2) : (encL q).length ≤ 100 := by
  have := encP_len (b := 5) (ps := q.1) h
  rw [encL, List.length_append, List.length_replicate]
  omega
theorem pieceS_len {z : Int} (h : z ≤ 5) : (pieceS z).length ≤ 6 := by
  show (List.replicate z.toNat 32 ++ [9]).toArray.size ≤ 6
  simp
  omega
theorem joinOk_pieces {ps : List Int} (h : ∀ z ∈ ps, 0 ≤ z ∧ z ≤ 5) (hl : ps.length ≤ 9) : JoinOk (PySem.Str.ofString "") (ps.map pieceS) = true := by
  refine joinOk_of ?_
  have e : (PySem.Str.ofString "").length = 0 := by rw [emptyS]; rfl
  rw [e, Nat.mul_zero, Nat.add_zero]
  have : ∀ {l : List Int}, (∀ z ∈ l, 0 ≤ z ∧ z ≤ 5) → ((l.map pieceS).map (·.length)).sum ≤ l.length * 6 := by
    intro l
    induction l with
    | nil => intro _; simp
    | cons z r ih =>
      intro h
      have h1 := ih fun x hx => h x (.tail _ hx)
      have h2 := pieceS_len (h z (.head _)).2
      simp only [List.map_cons, List.sum_cons, List.length_cons]
      omega
  have := this h
  omega
theorem join_len {ps : List Int} (h : ∀ z ∈ ps, 0 ≤ z ∧ z ≤ 5) (hl : ps.length ≤ 9) : (PySem.Txt.join (PySem.Str.ofString "") (ps.map pieceS)).length ≤ 54 := by
  have e : (PySem.Txt.join (PySem.Str.ofString "") (ps.map pieceS)).length = (encP ps).length := by
    show (PySem.Txt.join (PySem.Str.ofString "") (ps.map pieceS)).cps.size = _
    rw [← Array.length_toList, join_codes]
    simp [encP, pieceS, List.map_map, Function.comp_def]
  rw [e]
  have := encP_len (b := 5) (ps := ps) h
  omega

noncomputable def lawB13 : List Stmt := pickL (l := lawBody.drop 13) rfl
noncomputable def WhitesIn (w : World) (nx : List (Addr × Obj)) (ys : List Value) (n : Nat) (Nm : List (List Int × Int)) : Prop :=
  ∃ rs : List Addr, ys = rs.map Value.ref ∧ rs.length = n ∧ ∀ (j : Nat) (r : Addr), rs[j]? = some r → ∃ q, Nm[j]? = some q ∧ White w nx r q.1 q.2
theorem take_map_snocS {f : Int → Str} {Rw : List Int} {i : Nat} {w : Int} (h : Rw[i]? = some w) : (Rw.take (i + 1)).map f = (Rw.take i).map f ++ [f w] := by
  rw [List.take_add_one, h]; simp
section
variable {prog : Program} {w : World} {p : Program} {loose : List Str} {mean : ExcName → Option Value} {mg mb : Str → Option Value}
  {dp un : Nat} {gd : Option (List Code)} {a : Addr} {ccd : Value} {outer : List Env} {A₀ : Around} {base h₀ : Heap} {L : Addr} {s : Shared} {Q : Flow → Shared → Prop} {E : Value → Shared → Prop}
set_option maxHeartbeats 2000000
theorem law_p5 (c1 c2 c3 c4 : Addr × Obj) (P : List (List Int × Int)) (hPl : P.length = 3) (hP : ∀ q ∈ P, (∀ z ∈ q.1, 0 ≤ z ∧ z ≤ 5) ∧ q.1.length ≤ 9 ∧ 0 ≤ q.2 ∧ q.2 ≤ 2)
    (tl : List (Addr × Obj)) (ld le : Addr) (m₁ : Str → Option Value) (nc : NoCell tl) (hld : LeadsIn tl ld P)
    (B : Below A₀ base outer h₀) (F : Fr h₀ L s.heap (fun y => if y = Str.ofString "ends" then some (.ref le) else if y = Str.ofString "leads" then some (.ref ld) else m₁ y))
    (X : (hd.heap_39 w.params).In h₀)
    (N : News h₀ L s.heap (c1 :: c2 :: c3 :: c4 :: tl)) (T : Top p loose mean mg mb h₀)
    (hd : dp + 10 < recursionLimit) (hu : un + 200 < cLine)
    (hrest : ∀ (tl' : List (Addr × Obj)) (lw : Addr) (ys : List Value) (nt : Nat) (h' : Heap) (tk' : Nat), (∀ p ∈ tl, p ∈ tl') → NoCell tl' → (lw, W.listOf ys.toArray nt) ∈ tl' → WhitesIn w tl' ys 3 (P.map normL) →
      Fr h₀ L h' (fun y => if y = Str.ofString "whites" then some (.ref lw) else if y = Str.ofString "ends" then some (.ref le) else if y = Str.ofString "leads" then some (.ref ld) else m₁ y) →
      News h₀ L h' (c1 :: c2 :: c3 :: c4 :: tl') →
      wpAny (model prog w) (ktrTop dp un gd (Str.ofString "law") lawScope L a ccd (lawCells L) outer) (execs lawB13 (envX (Str.ofString "law") lawScope L a ccd (lawCells L))) Q E { s with heap := h', toks := tk' }) :
    wpAny (model prog w) (ktrTop dp un gd (Str.ofString "law") lawScope L a ccd (lawCells L) outer) (execs lawB12 (envX (Str.ofString "law") lawScope L a ccd (lawCells L))) Q E s := by
  unfold lawB12 lawScope
  dsimp only [pickL, pickScope]
  walk1
  refine assignComp2 F N (by rfl) (by with_unfolding_all rfl) (by rfl) (by decide) rfl (by decide) rfl rfl (by decide) rfl rfl ?_
  (repeat (fail_if_success (with_reducible show wpAny _ _ (pyIter _) _ _ _)); first | (k_unfold; (try dsimp only)) | walk1 | (dsimp only; walk1))
  obtain ⟨ts, nn, hm, htup, htl, hts⟩ := hld
  refine src2_list (ts := ts) rfl (by rw [PySem.sizeLine_eq, htl, hPl]; exact Nat.le_of_ble_eq_true rfl) F N (.tail _ (.tail _ (.tail _ (.tail _ hm)))) (fun t ht => .tail _ (.tail _ (.tail _ (.tail _ (htup t ht))))) fun I fp wr St Mid h' X2 => ?_
  refine ⟨I, fp, wr, _, _, St, Mid, _, rfl, X2, fun i ys nx => WhitesIn w nx ys i (P.map normL) ∧ NoCell nx, ⟨⟨[], rfl, rfl, by simp⟩, fun _ h => nomatch h⟩, ?_, ?_⟩
  · rintro i v1 v2 ys nx own oC C D m2 sT QT E' hi ⟨t, hti, hv⟩ ⟨⟨rs, rfl, hrl, hrs⟩, hnc⟩ hC hm1 hm2 F2 N2 hown hnx hQT
    obtain ⟨q, hq, pp, vp, np, tb, e2, hmp, hIp⟩ := hts i t hti
    obtain ⟨t1, v1', v2'⟩ := t
    cases e2
    cases hv
    obtain ⟨hz, hql, hq0, hq2⟩ := hP q (List.mem_of_getElem? hq)
    clear X2
    replace hm1 : m2 (Str.ofString "pieces") = some (.ref pp) := hm1
    replace hm2 : m2 (Str.ofString "blanks") = some (.int q.2 tb) := hm2
    generalize htl2 : nx ++ (own ++ _) = tl2 at N2
    (repeat (fail_if_success (with_reducible show wpAny _ _ (eval (Expr.ListComp _ _ _ _) _) _ _ _)); first | (k_unfold; (try dsimp only)) | walk1 | (dsimp only; walk1))
    have hmp3 : (pp, W.listOf vp.toArray np) ∈ (C, oC) :: (D, LCg.lst (List.map Value.ref rs)) :: tl2 := by
      rw [← htl2]
      exact .tail _ (.tail _ (List.mem_append_right _ (List.mem_append_right _ (.tail _ (.tail _ (.tail _ (.tail _ hmp)))))))
    replace F2 : Fr h₀ L sT.heap _ := F2
    replace N2 : News h₀ L sT.heap _ := N2
    refine listComp0 F2 N2 (by rfl) (by decide) rfl (by decide) rfl ?_
    (repeat (fail_if_success (with_reducible show wpAny _ _ (pyIter _) _ _ _)); first | (k_unfold; (try dsimp only)) | walk1 | (dsimp only; walk1))
    have hvl := hIp.length
    refine src_list (vs := vp) (nn := np) rfl (by rw [PySem.sizeLine_eq]; omega) F2 N2 hmp3 fun I5 St5 h8 XS => ⟨I5, _, _, _, St5, _, rfl, XS, fun i ys => StrsAre ys ((q.1.take i).map pieceS), .nil, ?_, ?_⟩
    · rintro i5 v5 ys5 oI5 C5 oC5 D5 m5 sV QV E5 hi5 hv5 hGy hCo hx F8 N8 off ne hQV
      obtain ⟨z, tz, rfl, hzi⟩ := IntsAre.at hIp i5 v5 hv5
      obtain ⟨hz0, hz5⟩ := hz z (List.mem_of_getElem? hzi)
      clear XS
      k_steps
      rename Fr _ _ _ _ => F9
      rename News _ _ _ _ => N9
      rw [piece_is]
      refine hQV _ _ (ListEnd.intro F9 N9 ?_)
      show StrsAre _ _
      rw [take_map_snocS hzi]
      exact StrsAre.append' hGy (.cons _ _ .nil)
    · rintro Dk ysK h21 tk21 hGk hkl F8 N8 hDk
      clear XS
      replace hGk : StrsAre ysK (q.1.map pieceS) := by
        have e : q.1.take vp.length = q.1 := by rw [hvl, List.take_length]
        rw [e] at hGk
        exact hGk
      obtain ⟨lp, e1, e2⟩ := strs_pairs hGk
      subst e1
      have hJ := joinOk_pieces hz hql
      have hjl := join_len hz hql
      k_steps
      refine SC.join (News.isList N8 (.head _)) e2 hJ fun t' k => ?_
      generalize hjx : PySem.Txt.join (PySem.Str.ofString "") (q.1.map pieceS) = jx at hjl ⊢
      (repeat (fail_if_success (with_reducible show wpAny _ _ (call (Value.ref _) _) _ _ _)); first | (k_unfold; (try dsimp only)) | walk1 | (dsimp only; walk1))
      subst hjx
      rw [lead_text]
      rename Fr _ _ _ _ => F9
      rename News _ _ _ _ => N9
      k_dflt (refine' white_call (encL q) restL _ (encL_codes q) (encL_len hz hql hq2) ?k1 ?k2 ?k3 ?k4 ?k5 ?kK ?kd ?ku ?kR; (case k1 => k_asm); (case k2 => k_asm); (case k3 => k_asm); (case k4 => k_asm); (case k5 => k_asm); (case kK => first | exact rfl | assumption); (case kd => ktr_room); (case ku => ktr_units))
      intro x d t c ox od ot oc h9 tk9 hgt F10 N10 C10 W10
      subst htl2
      refine hQT _ _ (PairEnd.intro [(x, ox), (d, od), (t, ot), (c, oc)] F10 (fun p hp => N10 p ?_) hown hnx (fun p hp q' hq' => ?_) ⟨⟨rs ++ [x], by simp, by simp [hrl], fun j r' hj => ?_⟩, ?_⟩)
      · rcases List.mem_append.mp hp with hp | hp
        · simp only [List.mem_cons, List.not_mem_nil, or_false] at hp
          rcases hp with rfl | rfl | rfl | rfl <;> simp
        · exact .tail _ (.tail _ (.tail _ (.tail _ (.tail _ hp))))
      · have z := hgt q' (.tail _ hq')
        simp only [List.mem_cons, List.not_mem_nil, or_false] at hp
        rcases hp with rfl | rfl | rfl | rfl
        · exact z.1
        · exact z.2.1
        · exact z.2.2.1
        · exact z.2.2.2
      · rcases Nat.lt_or_ge j rs.length with hj1 | hj1
        · rw [List.getElem?_append_left hj1] at hj
          obtain ⟨q', hq', ht'⟩ := hrs j r' hj
          exact ⟨q', hq', ht'.mono fun p hp => List.mem_append_right _ hp⟩
        · rw [List.getElem?_append_right hj1] at hj
          have hj2 : j = i := by
            have := (List.getElem?_eq_some_iff.mp hj).1
            simp only [List.length_cons, List.length_nil] at this
            omega
          subst hj2
          rw [hrl, Nat.sub_self] at hj
          cases hj
          exact ⟨normL q, by rw [List.getElem?_map, hq]; rfl, W10.mono fun p hp => List.mem_append_left _ hp⟩
      · intro p hp v
        rcases List.mem_append.mp hp with hp | hp
        · exact C10 p hp v
        · exact hnc p hp v
  · rintro D ys nx h2 tk2 ⟨hT, hnc⟩ hyl F2 N2 hlt hnD
    replace F2 : Fr h₀ L h2 _ := F2
    replace N2 : News h₀ L h2 _ := N2
    have N3 : News h₀ L h2 (c1 :: c2 :: c3 :: c4 :: (D, W.listOf ys.toArray ys.length) :: (nx ++ tl)) := fun p hp => N2 p (mem_front hp)
    have nc2 : NoCell ((D, W.listOf ys.toArray ys.length) :: (nx ++ tl)) := by
      intro p hp v
      rcases List.mem_cons.mp hp with rfl | hp
      · intro e; cases e
      · rcases List.mem_append.mp hp with hp | hp
        · exact hnc p hp v
        · exact nc p hp v
    rw [htl, hPl] at hT
    exact hrest _ D ys ys.length _ _ (fun p hp => .tail _ (List.mem_append_right _ hp)) nc2 (.head _) (by
      obtain ⟨rs, e1, e2, e3⟩ := hT
      refine ⟨rs, e1, e2, fun j r hj => ?_⟩
      obtain ⟨q, hq, ht⟩ := e3 j r hj
      exact ⟨q, hq, ht.mono fun p hp => .tail _ (List.mem_append_left _ hp)⟩) F2 N3
end

noncomputable def lawB14 : List Stmt := pickL (l := lawBody.drop 14) rfl
noncomputable def plainL (q : Int × Int) : List Int × Int := normL (List.replicate q.1.toNat 0, q.2)
section
variable {prog : Program} {w : World} {p : Program} {loose : List Str} {mean : ExcName → Option Value} {mg mb : Str → Option Value}
  {dp un : Nat} {gd : Option (List Code)} {a : Addr} {ccd : Value} {outer : List Env} {A₀ : Around} {base h₀ : Heap} {L : Addr} {s : Shared} {Q : Flow → Shared → Prop} {E : Value → Shared → Prop}
set_option maxHeartbeats 2000000
theorem law_p6 (c1 c2 c3 c4 : Addr × Obj) (P : List (Int × Int)) (hPl : P.length = 3) (hP : ∀ q ∈ P, 0 ≤ q.1 ∧ q.1 ≤ 2 ∧ 0 ≤ q.2 ∧ q.2 ≤ 2)
    (tl : List (Addr × Obj)) (lw le : Addr) (m₁ : Str → Option Value) (nc : NoCell tl) (hle : EndsIn tl le P)
    (B : Below A₀ base outer h₀) (F : Fr h₀ L s.heap (fun y => if y = Str.ofString "whites" then some (.ref lw) else if y = Str.ofString "ends" then some (.ref le) else m₁ y))
    (X : (hd.heap_39 w.params).In h₀)
    (N : News h₀ L s.heap (c1 :: c2 :: c3 :: c4 :: tl)) (T : Top p loose mean mg mb h₀)
    (hd : dp + 10 < recursionLimit) (hu : un + 200 < cLine)
    (hrest : ∀ (tl' : List (Addr × Obj)) (lp : Addr) (ys : List Value) (nt : Nat) (h' : Heap) (tk' : Nat), (∀ p ∈ tl, p ∈ tl') → NoCell tl' → (lp, W.listOf ys.toArray nt) ∈ tl' → WhitesIn w tl' ys 3 (P.map plainL) →
      Fr h₀ L h' (fun y => if y = Str.ofString "plain" then some (.ref lp) else if y = Str.ofString "whites" then some (.ref lw) else if y = Str.ofString "ends" then some (.ref le) else m₁ y) →
      News h₀ L h' (c1 :: c2 :: c3 :: c4 :: tl') →
      wpAny (model prog w) (ktrTop dp un gd (Str.ofString "law") lawScope L a ccd (lawCells L) outer) (execs lawB14 (envX (Str.ofString "law") lawScope L a ccd (lawCells L))) Q E { s with heap := h', toks := tk' }) :
    wpAny (model prog w) (ktrTop dp un gd (Str.ofString "law") lawScope L a ccd (lawCells L) outer) (execs lawB13 (envX (Str.ofString "law") lawScope L a ccd (lawCells L))) Q E s := by
  unfold lawB13 lawScope
  dsimp only [pickL, pickScope]
  walk1
  refine assignComp2 F N (by rfl) (by with_unfolding_all rfl) (by rfl) (by decide) rfl (by decide) rfl rfl (by decide) rfl rfl ?_
  (repeat (fail_if_success (with_reducible show wpAny _ _ (pyIter _) _ _ _)); first | (k_unfold; (try dsimp only)) | walk1 | (dsimp only; walk1))
  obtain ⟨ts, nn, hm, htup, htl, hts⟩ := hle
  refine src2_list (ts := ts) rfl (by rw [PySem.sizeLine_eq, htl, hPl]; exact Nat.le_of_ble_eq_true rfl) F N (.tail _ (.tail _ (.tail _ (.tail _ hm)))) (fun t ht => .tail _ (.tail _ (.tail _ (.tail _ (htup t ht))))) fun I fp wr St Mid h' X2 => ?_
  refine ⟨I, fp, wr, _, _, St, Mid, _, rfl, X2, fun i ys nx => WhitesIn w nx ys i (P.map plainL) ∧ NoCell nx, ⟨⟨[], rfl, rfl, by simp⟩, fun _ h => nomatch h⟩, ?_, ?_⟩
  · rintro i v1 v2 ys nx own oC C D m2 sT QT E' hi ⟨t, hti, hv⟩ ⟨⟨rs, rfl, hrl, hrs⟩, hnc⟩ hC hm1 hm2 F2 N2 hown hnx hQT
    obtain ⟨q, hq, ta, tb, e2⟩ := hts i t hti
    obtain ⟨t1, v1', v2'⟩ := t
    cases e2
    cases hv
    obtain ⟨hn0, hn2, hq0, hq2⟩ := hP q (List.mem_of_getElem? hq)
    clear X2
    replace hm1 : m2 (Str.ofString "tabs") = some (.int q.1 ta) := hm1
    replace hm2 : m2 (Str.ofString "blanks") = some (.int q.2 tb) := hm2
    replace F2 : Fr h₀ L sT.heap _ := F2
    replace N2 : News h₀ L sT.heap _ := N2
    generalize htl2 : nx ++ (own ++ _) = tl2 at N2
    (repeat (fail_if_success (with_reducible show wpAny _ _ (call (Value.ref _) _) _ _ _)); first | (k_unfold; (try dsimp only)) | walk1 | (dsimp only; walk1))
    rw [plain_text, plain_enc]
    rename Fr _ _ _ _ => F9
    rename News _ _ _ _ => N9
    k_dflt (refine' white_call (encL (List.replicate q.1.toNat 0, q.2)) restL _ (encL_codes _) (encL_len (fun z hz => by rw [List.eq_of_mem_replicate hz]; decide) (by rw [List.length_replicate]; omega) hq2) ?k1 ?k2 ?k3 ?k4 ?k5 ?kK ?kd ?ku ?kR; (case k1 => k_asm); (case k2 => k_asm); (case k3 => k_asm); (case k4 => k_asm); (case k5 => k_asm); (case kK => first | exact rfl | assumption); (case kd => ktr_room); (case ku => ktr_units))
    intro x d t c ox od ot oc h9 tk9 hgt F10 N10 C10 W10
    subst htl2
    refine hQT _ _ (PairEnd.intro [(x, ox), (d, od), (t, ot), (c, oc)] F10 (fun p hp => N10 p ?_) hown hnx (fun p hp q' hq' => ?_) ⟨⟨rs ++ [x], by simp, by simp [hrl], fun j r' hj => ?_⟩, ?_⟩)
    · exact hp
    · have z := hgt q' hq'
      simp only [List.mem_cons, List.not_mem_nil, or_false] at hp
      rcases hp with rfl | rfl | rfl | rfl
      · exact z.1
      · exact z.2.1
      · exact z.2.2.1
      · exact z.2.2.2
    · rcases Nat.lt_or_ge j rs.length with hj1 | hj1
      · rw [List.getElem?_append_left hj1] at hj
        obtain ⟨q', hq', ht'⟩ := hrs j r' hj
        exact ⟨q', hq', ht'.mono fun p hp => List.mem_append_right _ hp⟩
      · rw [List.getElem?_append_right hj1] at hj
        have hj2 : j = i := by
          have := (List.getElem?_eq_some_iff.mp hj).1
          simp only [List.length_cons, List.length_nil] at this
          omega
        subst hj2
        rw [hrl, Nat.sub_self] at hj
        cases hj
        exact ⟨plainL q, by rw [List.getElem?_map, hq]; rfl, W10.mono fun p hp => List.mem_append_left _ hp⟩
    · intro p hp v
      rcases List.mem_append.mp hp with hp | hp
      · exact C10 p hp v
      · exact hnc p hp v
  · rintro D ys nx h2 tk2 ⟨hT, hnc⟩ hyl F2 N2 hlt hnD
    replace F2 : Fr h₀ L h2 _ := F2
    replace N2 : News h₀ L h2 _ := N2
    have N3 : News h₀ L h2 (c1 :: c2 :: c3 :: c4 :: (D, W.listOf ys.toArray ys.length) :: (nx ++ tl)) := fun p hp => N2 p (mem_front hp)
    have nc2 : NoCell ((D, W.listOf ys.toArray ys.length) :: (nx ++ tl)) := by
      intro p hp v
      rcases List.mem_cons.mp hp with rfl | hp
      · intro e; cases e
      · rcases List.mem_append.mp hp with hp | hp
        · exact hnc p hp v
        · exact nc p hp v
    rw [htl, hPl] at hT
    exact hrest _ D ys ys.length _ _ (fun p hp => .tail _ (List.mem_append_right _ hp)) nc2 (.head _) (by
      obtain ⟨rs, e1, e2, e3⟩ := hT
      refine ⟨rs, e1, e2, fun j r hj => ?_⟩
      obtain ⟨q, hq, ht⟩ := e3 j r hj
      exact ⟨q, hq, ht.mono fun p hp => .tail _ (List.mem_append_left _ hp)⟩) F2 N3
end

section
variable {prog : Program} {w : World} {A : Around} {E : Value → Shared → Prop} {s : Shared} {env : Env} {h₀ : Heap} {x : Str} {body : List Stmt} {Q : Flow → Shared → Prop}
/-- a for over range(b), its name stored by the walk (a captured name) -/
theorem forRangeC {px pos : Pos} {iter : PySem.Expr} {b₀ : Int} {n : Nat} {m₀ : Str → Option Value} {news : List (Addr × Obj)} (J : Nat → (Str → Option Value) → List (Addr × Obj) → Prop)
    (hh : A.handled = none)
    (h : wpAny (model prog w) A (eval iter env) (fun xv s₁ => ∃ r t₀ u₀ v₀ H tk, xv = .ref r ∧ s₁ = { s with heap := H, toks := tk } ∧ IsRange s₁.heap r 0 b₀ 1 t₀ u₀ v₀ ∧ Fr h₀ env.locals s₁.heap m₀ ∧ News h₀ env.locals s₁.heap news) E s)
    (hsmall : Builtin.Range.small 0 b₀ 1 = true) (hn : Builtin.Range.rangeSize 0 b₀ 1 = (n : Int)) (hj : J 0 m₀ news)
    (turn : ∀ (i : Nat) t m₁ nx I oI (sT : Shared) (QT : Flow → Shared → Prop), i < n → J i m₁ nx → (∀ p ∈ nx, p.1 ≠ I) → Fr h₀ env.locals sT.heap m₁ → News h₀ env.locals sT.heap ((I, oI) :: nx) →
      (∀ f s₂, TurnPost h₀ env.locals (J (i + 1)) I oI s sT Q f s₂ → QT f s₂) →
      wpAny (model prog w) A (assign (.Name x px) env (.int (i : Int) t)) (fun _ s₂ => wpAny (model prog w) A (execs body env) QT E s₂) E sT)
    (done : ∀ m₁ nx h tk, J n m₁ nx → Fr h₀ env.locals h m₁ → News h₀ env.locals h nx → Q .next { s with heap := h, toks := tk })
    (hs : ∀ x, foldedSetIterable iter env x = pure x := by intro _; rfl)
    (hE : PassesOwn (model prog w) A env E := by passes_own) :
    wpAny (model prog w) A (exec (.For (.Name x px) iter body [] pos) env) Q E s := by
  refine wpAny_For (wpAny_mono h (fun xv s₁ h₁ => ?_) fun _ _ e => e) hs
  obtain ⟨r, t₀, u₀, v₀, H, tk, rfl, rfl, hr, F, N⟩ := h₁
  refine wpAny_pyIter_range hr hsmall ?_
  have W : Walks prog w A H.objs.size [H.objs.size] [H.objs.size] n (fun i v => i < n ∧ ∃ t, v = .int (0 + i * 1) t)
      (fun i h => IsRangeIter h H.objs.size (0 + (i : Nat) * 1) ((n : Int) - (i : Nat)) 1) := (Walks.range hh _ 0 1 n).bound
  have hL : env.locals ≠ H.objs.size := fun e => absurd F.ns.lt (e ▸ Nat.lt_irrefl _)
  have hI : h₀.get? H.objs.size = none := next_is_new F
  dsimp only
  generalize hIe : H.objs.size = I at W hL hI ⊢
  refine codeAny_forLoop (R := fun r s' => match r with | .ok f => Q f s' | .error e => cameBackBy (model prog w) A env E e s')
    (fun k s' => ∃ h' tk m' nx i, s' = { s with heap := h', toks := tk } ∧ IsRangeIter h' I (0 + (i : Nat) * 1) ((n : Int) - (i : Nat)) 1 ∧ Fr h₀ env.locals h' m' ∧ News h₀ env.locals h' nx ∧ (∀ p ∈ nx, p.1 ≠ I) ∧ J i m' nx ∧ i ≤ n ∧ k = n + 1 - i) ?_ (n + 1)
    ⟨_, tk, m₀, news, 0, rfl, ?_, F.push _, (fun p hp => ⟨Heap.get?_push_of_some _ (N p hp).1, (N p hp).2⟩), (fun p hp => hIe ▸ Nat.ne_of_lt (Heap.lt_size (N p hp).1)), hj, Nat.zero_le _, rfl⟩
  · rintro k s' ⟨h', tk, m', nx, i, rfl, hst', F', N', hoff, hJ, hi, rfl⟩
    have old : ∀ b o, h₀.get? b = some o → b ≠ I := fun b o e q => by rw [q, hI] at e; cases e
    have next : ∀ h₁ : Heap, (∀ b o, b ∉ [I] → h'.get? b = some o → h₁.get? b = some o) → Fr h₀ env.locals h₁ m' ∧ News h₀ env.locals h₁ nx := fun h₁ hk₁ =>
      ⟨⟨F'.ns.at' fun o e => hk₁ _ o (fun q => hL (List.mem_singleton.mp q)) e, fun b o e => hk₁ b o (fun q => old b o e (List.mem_singleton.mp q)) (F'.keep b o e), F'.above⟩,
        fun p hp => ⟨hk₁ _ _ (fun q => hoff p hp (List.mem_singleton.mp q)) (N' p hp).1, (N' p hp).2⟩⟩
    by_cases hlt : i < n
    · refine W.item i _ _ _ hlt hst' fun v h₁ tk₁ hP hst₁ hk₁ => ?_
      obtain ⟨F₁, N₁⟩ := next h₁ hk₁
      obtain ⟨_, t, rfl⟩ := hP
      obtain ⟨oI, hoI⟩ : ∃ o, h₁.get? I = some o := ⟨_, hst₁⟩
      have N₂ : News h₀ env.locals h₁ ((I, oI) :: nx) := by
        intro p hp
        rcases List.mem_cons.mp hp with rfl | hp
        · exact ⟨hoI, Ne.symm hL, hI⟩
        · exact N₁ p hp
      have e1 : (0 : Int) + (i : Int) * 1 = (i : Int) := by omega
      rw [e1]
      refine wpAny_mono (wpAny_passesOwn hE (turn i t m' nx I oI _ _ hlt hJ hoff F₁ N₂ fun _ _ z => z)) (fun _ s₂ h₂ => wpAny_mono (wpAny_passesOwn hE h₂) (fun f s₃ h₃ => ?_) fun _ _ e => e) fun _ _ e => e
      have fin : TurnEnd h₀ env.locals (J (i + 1)) I oI { s with heap := h₁, toks := tk₁ } s₃ → ∃ m_1, m_1 < n + 1 - i ∧ ∃ h' tk m' nx i_1, s₃ = { s with heap := h', toks := tk } ∧ IsRangeIter h' I (0 + (i_1 : Nat) * 1) ((n : Int) - (i_1 : Nat)) 1 ∧ Fr h₀ env.locals h' m' ∧ News h₀ env.locals h' nx ∧ (∀ p ∈ nx, p.1 ≠ I) ∧ J i_1 m' nx ∧ i_1 ≤ n ∧ m_1 = n + 1 - i_1 := by
        rintro ⟨h₃', tk₃, m₂, nx₂, rfl, F₃, N₃, ha₃, hJ₃⟩
        refine ⟨n + 1 - (i + 1), by omega, h₃', tk₃, m₂, nx₂, i + 1, rfl, ?_, F₃, (fun p hp => N₃ p (.tail _ hp)), ha₃, hJ₃, hlt, rfl⟩
        have q1 := (N₃ _ (.head _)).1
        have q2 : some oI = _ := hoI.symm.trans hst₁
        cases q2
        exact q1
      cases f with
      | ret v =>
        obtain ⟨_, _, rfl, h₃⟩ := h₃
        exact h₃
      | brk =>
        obtain ⟨_, _, rfl, h₃⟩ := h₃
        exact h₃
      | next => exact fin h₃
      | cont => exact fin h₃
    · have hin : i = n := by omega
      subst hin
      refine W.done _ _ _ hst' fun h₁ tk₁ hk₁ => wpAny_execs_nil ?_
      obtain ⟨F₁, N₁⟩ := next h₁ hk₁
      exact done m' nx h₁ tk₁ hJ F₁ N₁
  · show IsRangeIter _ _ _ _ _
    rw [hn, ← hIe]
    simpa using Heap.get?_push_size _ rfl

/-- an item of a list of references of the ledger -/
theorem pickRef {h₀ : Heap} {L : Addr} {news : List (Addr × Obj)} {value slice : PySem.Expr} {l r : Addr} {nn i : Nat} {rs : List Addr} {u : Tok} {Q : Value → Shared → Prop} (N : News h₀ L s.heap news)
    (hm : (l, W.listOf (rs.map Value.ref).toArray nn) ∈ news) (hi : rs[i]? = some r) (hb : i < 1000) (h : Q (.ref r) s)
    (hs : subscripted slice false (.ref l) (.int (i : Int) u) = operate [.ref l, .int (i : Int) u] (getItem (.ref l) (.int (i : Int) u)) := by with_unfolding_all rfl) :
    wpAny (model prog w) A (subscriptTail value slice (.ref l) (.int (i : Int) u)) Q E s := by
  have hl : s.heap.IsList l (rs.map Value.ref).toArray := ⟨_, (N _ hm).1, rfl, _, rfl⟩
  exact tail_any hl.typeIs slot_list_getitem.lookup (wpAny_getItem_list hl (by omega) (by omega) (by simp [hi]) h) hs
/-- a test that comes out known -/
theorem cutBool {h₀ : Heap} {L : Addr} {m : Str → Option Value} {news : List (Addr × Obj)} {t : Sem Bool} {Q : Bool → Shared → Prop} (F : Fr h₀ L s.heap m) (N : News h₀ L s.heap news) (b₀ : Bool)
    (h : ∀ (sT : Shared) (QB : Bool → Shared → Prop), Fr h₀ L sT.heap m → News h₀ L sT.heap news → (∀ b h' tk', b = b₀ → Fr h₀ L h' m → News h₀ L h' news → QB b { sT with heap := h', toks := tk' }) → wpAny (model prog w) A t QB E sT)
    (k : ∀ h' tk', Fr h₀ L h' m → News h₀ L h' news → Q b₀ { s with heap := h', toks := tk' }) : wpAny (model prog w) A t Q E s :=
  h s Q F N fun b h' tk' e F N => by subst e; exact k h' tk' F N
theorem eq_pair {h₀ : Heap} {L : Addr} {news : List (Addr × Obj)} {t u : Addr} {a b c d : Int} {x y z v : Tok} {Q : Value → Shared → Prop} (N : News h₀ L s.heap news) (h1 : (t, tupOf [.int a x, .int b y]) ∈ news) (h2 : (u, tupOf [.int c z, .int d v]) ∈ news)
    (hu : A.units + 64 < cLine) (h : Q (.bool (decide ((a, b) = (c, d)))) s) : wpAny (model prog w) A (compareOp .Eq (.ref t) (.ref u)) Q E s := by
  refine eq_dataH (reads_tuple_at (News.get N h1) rfl rfl (.cons (.int _ _) (.cons (.int _ _) .nil))) (reads_tuple_at (News.get N h2) rfl rfl (.cons (.int _ _) (.cons (.int _ _) .nil))) rfl rfl hu ?_
  have e : PyData.eqv (.tuple [.int a, .int b]) (.tuple [.int c, .int d]) = decide ((a, b) = (c, d)) := by
    simp only [PyData.eqv, PyData.eqvAll, Bool.and_true, Prod.mk.injEq]
    by_cases h : a = c <;> by_cases h' : b = d <;> simp [h, h']
  rw [e]
  exact h
theorem tup0 {h₀ : Heap} {L : Addr} {news : List (Addr × Obj)} {value slice : PySem.Expr} {t c : Addr} {y : Value} {u : Tok} {Q : Value → Shared → Prop} (N : News h₀ L s.heap news) (hm : (t, ({ cls := .type "tuple", data := .seq #[.ref c, y] 0 } : Obj)) ∈ news) (h : Q (.ref c) s)
    (hs : subscripted slice false (.ref t) (.int 0 u) = operate [.ref t, .int 0 u] (getItem (.ref t) (.int 0 u)) := by with_unfolding_all rfl) :
    wpAny (model prog w) A (subscriptTail value slice (.ref t) (.int 0 u)) Q E s := by
  have hj : PySem.seqIndex? 0 2 = some 0 := by decide
  exact item_tupleT (l := [.ref c, y]) (j := 0) (News.isTup N hm) (by decide) (by decide) hj rfl h hs
end

noncomputable def prodOf (c e : List (Int × Int)) : Int := (c.map fun p => kdfLook c p.1 0 * kdfLook e p.1 0).sum
noncomputable def lowB (c : List (Int × Int)) : Bool := decide (c.length ≤ 1000) && c.all fun p => decide (-1000 ≤ p.2) && decide (p.2 ≤ 1000)
/-- what a turn asks of two leads: their table, norm, plain norm, end -/
noncomputable def Check (ta tb : List (Int × Int)) (na nb pa pb : List Int × Int) (ea eb : Int × Int) : Prop :=
  lowB ta = true ∧ lowB tb = true ∧ (pa = pb ↔ ea = eb) ∧ na ≠ pb ∧ (prodOf ta tb = 0 ↔ na ≠ nb) ∧ (prodOf ta tb ≠ 0 → 0 < na.1.length ∧ na.1.length ≤ 20 ∧ oftTo na.1 (na.1.length - 1) = some (prodOf ta tb))
theorem room1 {a k m c : Nat} (h : a + m < c) (hk : k ≤ m) : a + k < c := Nat.lt_of_le_of_lt (Nat.add_le_add_left hk a) h
theorem room2 {a j k m c : Nat} (h : a + m < c) (hk : j + k ≤ m) : a + j + k < c := by omega
theorem room3 {a i j k m c : Nat} (h : a + m < c) (hk : i + j + k ≤ m) : a + i + j + k < c := by omega
theorem lt_len {i n k : Nat} (h : k = n) (hi : i < n) : i < k := h ▸ hi
theorem lt_len2 {i j n k : Nat} (h : k = n) (hi : i < n) (hj : j < i + 1) : j < k := by omega
local macro_rules | `(tactic| ktr_room) => `(tactic| ((try simp only [depth_under_make, depth_under_kw, depth_in1, depth_deeper, depth_caller]); (try dsimp only [ktrTop]); first
  | exact room1 (by assumption) (by decide) | exact room2 (by assumption) (by decide) | exact room3 (by assumption) (by decide)))
local macro_rules | `(tactic| ktr_units) => `(tactic| ((try simp only [units_in1, units_deeper, Around.mark_units, units_caller]); (try dsimp only [ktrTop]); first
  | exact room1 (by assumption) (by decide) | exact room2 (by assumption) (by decide) | exact room3 (by assumption) (by decide) | (trace_state; fail)))
theorem low_len {c : List (Int × Int)} (h : lowB c = true) : c.length ≤ 1000 := by
  unfold lowB at h
  rw [Bool.and_eq_true] at h
  exact of_decide_eq_true h.1
theorem low_look {c : List (Int × Int)} (h : lowB c = true) (k : Int) : -1000 ≤ kdfLook c k 0 ∧ kdfLook c k 0 ≤ 1000 := by
  unfold lowB at h
  rw [Bool.and_eq_true] at h
  have h2 := List.all_eq_true.mp h.2
  clear h
  unfold kdfLook
  cases e : c.find? _ with
  | none => simp
  | some p =>
    have := h2 _ (List.mem_of_find?_eq_some e)
    rw [Bool.and_eq_true] at this
    exact ⟨of_decide_eq_true this.1, of_decide_eq_true this.2⟩
theorem take_map_snocP {f : Int × Int → Int} {c : List (Int × Int)} {i : Nat} {k v : Int} (h : c[i]? = some (k, v)) : (c.take (i + 1)).map f = (c.take i).map f ++ [f (k, v)] := by
  rw [List.take_add_one, h]; simp
theorem in6 {a b c d e f p : Addr × Obj} {tl : List (Addr × Obj)} (h : p ∈ tl) : p ∈ a :: b :: c :: d :: e :: f :: tl := .tail _ (.tail _ (.tail _ (.tail _ (.tail _ (.tail _ h)))))
section
variable {prog : Program} {w : World} {p : Program} {loose : List Str} {mean : ExcName → Option Value} {mg mb : Str → Option Value}
  {dp un : Nat} {gd : Option (List Code)} {a : Addr} {ccd : Value} {outer : List Env} {A₀ : Around} {base h₀ : Heap} {L : Addr} {s : Shared} {Q : Flow → Shared → Prop} {E : Value → Shared → Prop}
set_option maxHeartbeats 2000000
theorem law_p7 (ob oa ot osc : Obj) (P : List (List Int × Int)) (Es : List (Int × Int)) (hPl : P.length = 3) (hEl : Es.length = 3)
    (hgood : ∀ (i k : Nat) (x y : List Int × Int) (e g : Int × Int), k ≤ i → P[i]? = some x → P[k]? = some y → Es[i]? = some e → Es[k]? = some g → Check (tabOf x) (tabOf y) (normL x) (normL y) (plainL e) (plainL g) e g)
    {vsc : Option Value} (lt : Addr) (yt : List Value) (nt : Nat)
    (db : ob.data = .cell none) (da : oa.data = .cell none) (dt : ot.data = .cell (some (.ref lt))) (dsc : osc.data = .cell vsc)
    (tl : List (Addr × Obj)) (lp lw le : Addr) (yp yw : List Value) (np nw : Nat) (m₁ : Str → Option Value) (nc : NoCell tl) (hle : EndsIn tl le Es) (hlt : (lt, W.listOf yt.toArray nt) ∈ tl) (hT : TablesIn prog w tl yt 3 P)
    (hlw : (lw, W.listOf yw.toArray nw) ∈ tl) (hW : WhitesIn w tl yw 3 (P.map normL)) (hlp : (lp, W.listOf yp.toArray np) ∈ tl) (hPn : WhitesIn w tl yp 3 (Es.map plainL))
    (B : Below A₀ base outer h₀) (F : Fr h₀ L s.heap (fun y => if y = Str.ofString "plain" then some (.ref lp) else if y = Str.ofString "whites" then some (.ref lw) else if y = Str.ofString "ends" then some (.ref le) else m₁ y))
    (X : (hd.heap_39 w.params).In h₀)
    (N : News h₀ L s.heap ((L + 1 + 1 + 1 + 1, ob) :: (L + 1 + 1 + 1, oa) :: (L + 1 + 1, ot) :: (L + 1, osc) :: tl)) (T : Top p loose mean mg mb h₀)
    (hd : dp + 10 < recursionLimit) (hu : un + 200 < cLine)
    (hPE : PassesOwn (model prog w) (ktrTop dp un gd (Str.ofString "law") lawScope L a ccd (lawCells L) outer) (envX (Str.ofString "law") lawScope L a ccd (lawCells L)) E)
    (hret : ∀ (h' : Heap) (tk' : Nat) (m' : Str → Option Value), Fr h₀ L h' m' → Q (.ret (.bool true)) { s with heap := h', toks := tk' }) :
    wpAny (model prog w) (ktrTop dp un gd (Str.ofString "law") lawScope L a ccd (lawCells L) outer) (execs lawB14 (envX (Str.ofString "law") lawScope L a ccd (lawCells L))) Q E s := by
  unfold lawScope at hPE
  unfold lawB14 lawScope
  dsimp only [pickL, pickScope] at hPE ⊢
  obtain ⟨rt, rfl, hrt, htab⟩ := hT
  obtain ⟨rw', rfl, hrw, hwh⟩ := hW
  obtain ⟨rp, rfl, hrp, hpl⟩ := hPn
  obtain ⟨les, lnn, hle1, hle2, hle3, hle4⟩ := hle
  have hle1 : (le, W.listOf ((les.map (·.1)).map Value.ref).toArray lnn) ∈ tl := by rw [List.map_map]; exact hle1
  (repeat (fail_if_success (with_reducible show wpAny _ _ (exec (Stmt.For _ _ _ _ _) _) _ _ _)); first | (k_unfold; (try dsimp only)) | walk1 | (dsimp only; walk1))
  refine forRangeC (h₀ := h₀) (b₀ := 3) (n := 3) (fun i m' nx => ∃ ob oa, nx = (L + 1 + 1 + 1 + 1, ob) :: (L + 1 + 1 + 1, oa) :: (L + 1 + 1, ot) :: (L + 1, osc) :: tl ∧ (∃ v, ob.data = .cell v) ∧ (∃ v, oa.data = .cell v) ∧ m' (Str.ofString "plain") = some (.ref lp) ∧ m' (Str.ofString "whites") = some (.ref lw) ∧ m' (Str.ofString "ends") = some (.ref le))
    (m₀ := fun y => if y = Str.ofString "plain" then some (.ref lp) else if y = Str.ofString "whites" then some (.ref lw) else if y = Str.ofString "ends" then some (.ref le) else m₁ y)
    (news := (L + 1 + 1 + 1 + 1, ob) :: (L + 1 + 1 + 1, oa) :: (L + 1 + 1, ot) :: (L + 1, osc) :: tl) rfl ?_ ?_ ?_ ?_ ?_ ?_ (hE := hPE)
  · k_steps
    all_goals assumption
  · rfl
  · rfl
  · exact ⟨ob, oa, rfl, ⟨_, db⟩, ⟨_, da⟩, rfl, rfl, rfl⟩
  · rintro i ti m₁ nx I oI sT QT hi ⟨ob, oa, rfl, ⟨vb, db⟩, ⟨va, da⟩, hm1, hm2, hm3⟩ hoff F1 N1 hQT
    have hO := allNe_of hoff
    have hI3 := allNe_to hO.2.2.2.2
    have ne1 := cell_ne N1 (.tail _ (.head _)) db (fun p hp => .tail _ (.tail _ (.tail _ (.tail _ (.tail _ hp))))) nc
    have ne2 := cell_ne N1 (.tail _ (.tail _ (.head _))) da (fun p hp => .tail _ (.tail _ (.tail _ (.tail _ (.tail _ hp))))) nc
    (repeat (fail_if_success (with_reducible show wpAny _ _ (exec (Stmt.For _ _ _ _ _) _) _ _ _)); first | (k_unfold; (try dsimp only)) | walk1 | (dsimp only; walk1))
    rename Fr _ _ _ _ => F2
    rename News _ _ _ _ => N2
    rename Obj.data _ = Data.cell (some (Value.int (i : Int) ti)) => da2
    rename PySem.Obj => oa2
    clear F1 N1
    refine forRangeC (h₀ := h₀) (b₀ := (i : Int) + 1) (n := i + 1) (fun k m' nx => ∃ ob, nx = (I, oI) :: (L + 1 + 1 + 1 + 1, ob) :: (L + 1 + 1 + 1, oa2) :: (L + 1 + 1, ot) :: (L + 1, osc) :: tl ∧ (∃ v, ob.data = .cell v) ∧ m' (Str.ofString "plain") = some (.ref lp) ∧ m' (Str.ofString "whites") = some (.ref lw) ∧ m' (Str.ofString "ends") = some (.ref le))
      (m₀ := m₁) (news := (I, oI) :: (L + 1 + 1 + 1 + 1, ob) :: (L + 1 + 1 + 1, oa2) :: (L + 1 + 1, ot) :: (L + 1, osc) :: tl) rfl ?_ ?_ ?_ ?_ ?_ ?_ (hE := hPE)
    · k_steps
      all_goals assumption
    · exact small_one (by omega) (by omega) (by omega) (by omega)
    · rw [rangeSize_nat]; omega
    · exact ⟨ob, rfl, ⟨_, db⟩, hm1, hm2, hm3⟩
    · rintro k tb m₂ nx I2 oI2 sU QU hk ⟨ob, rfl, ⟨vb, db⟩, hm1, hm2, hm3⟩ hoff2 F3 N3 hQU
      have hO2 := allNe_of hoff2
      have hI5 := allNe_to hO2.2.2.2.2.2
      have ne3 := cell_ne N3 (.tail _ (.tail _ (.head _))) db (fun p hp => .tail _ (.tail _ (.tail _ (.tail _ (.tail _ (.tail _ hp)))))) nc
      replace F3 := pin (pin (pin F3 hm1) (a := Str.ofString "whites") (by exact hm2)) (a := Str.ofString "ends") (by exact hm3)
      have hk3 : k < 3 := Nat.lt_of_lt_of_le hk hi
      obtain ⟨pa, hpa⟩ : ∃ r, rp[i]? = some r := ⟨_, List.getElem?_eq_getElem (by first | exact lt_len hrp hi | exact lt_len (hrp.trans hPl) hi | omega)⟩
      obtain ⟨pb, hpb⟩ : ∃ r, rp[k]? = some r := ⟨_, List.getElem?_eq_getElem (by first | exact lt_len hrp hk3 | exact lt_len (hrp.trans hPl) hk3 | omega)⟩
      obtain ⟨wa, hwa⟩ : ∃ r, rw'[i]? = some r := ⟨_, List.getElem?_eq_getElem (by first | exact lt_len hrw hi | exact lt_len (hrw.trans hPl) hi | omega)⟩
      obtain ⟨wb, hwb⟩ : ∃ r, rw'[k]? = some r := ⟨_, List.getElem?_eq_getElem (by first | exact lt_len hrw hk3 | exact lt_len (hrw.trans hPl) hk3 | omega)⟩
      obtain ⟨qa, hqa⟩ : ∃ r, rt[i]? = some r := ⟨_, List.getElem?_eq_getElem (by first | exact lt_len hrt hi | exact lt_len (hrt.trans hPl) hi | omega)⟩
      obtain ⟨qb, hqb⟩ : ∃ r, rt[k]? = some r := ⟨_, List.getElem?_eq_getElem (by first | exact lt_len hrt hk3 | exact lt_len (hrt.trans hPl) hk3 | omega)⟩
      obtain ⟨x, hx⟩ : ∃ r, P[i]? = some r := ⟨_, List.getElem?_eq_getElem (by first | exact lt_len hPl hi | exact lt_len (hPl.trans hPl) hi | omega)⟩
      obtain ⟨y, hy⟩ : ∃ r, P[k]? = some r := ⟨_, List.getElem?_eq_getElem (by first | exact lt_len hPl hk3 | exact lt_len (hPl.trans hPl) hk3 | omega)⟩
      obtain ⟨ea, hea⟩ : ∃ r, Es[i]? = some r := ⟨_, List.getElem?_eq_getElem (by first | exact lt_len hEl hi | exact lt_len (hEl.trans hPl) hi | omega)⟩
      obtain ⟨eb, heb⟩ : ∃ r, Es[k]? = some r := ⟨_, List.getElem?_eq_getElem (by first | exact lt_len hEl hk3 | exact lt_len (hEl.trans hPl) hk3 | omega)⟩
      have hck := hgood i k x y ea eb (Nat.le_of_lt_succ hk) hx hy hea heb
      have hWpa : White w tl pa (plainL ea).1 (plainL ea).2 := by
        obtain ⟨q, hq, hw⟩ := hpl i pa hpa
        rw [List.getElem?_map, hea] at hq
        cases hq; exact hw
      have hWpb : White w tl pb (plainL eb).1 (plainL eb).2 := by
        obtain ⟨q, hq, hw⟩ := hpl k pb hpb
        rw [List.getElem?_map, heb] at hq
        cases hq; exact hw
      have hWwa : White w tl wa (normL x).1 (normL x).2 := by
        obtain ⟨q, hq, hw⟩ := hwh i wa hwa
        rw [List.getElem?_map, hx] at hq
        cases hq; exact hw
      have hWwb : White w tl wb (normL y).1 (normL y).2 := by
        obtain ⟨q, hq, hw⟩ := hwh k wb hwb
        rw [List.getElem?_map, hy] at hq
        cases hq; exact hw
      have hTa : TableIn prog w tl qa (tabOf x) := by
        obtain ⟨q, hq, hw⟩ := htab i qa hqa
        rw [hx] at hq
        cases hq; exact hw
      have hTb : TableIn prog w tl qb (tabOf y) := by
        obtain ⟨q, hq, hw⟩ := htab k qb hqb
        rw [hy] at hq
        cases hq; exact hw
      obtain ⟨t1, u1, hta1, hta2⟩ : ∃ (t1 : Addr) (u1 : Tok × Tok), (les.map (·.1))[i]? = some t1 ∧ (t1, tupOf [.int ea.1 u1.1, .int ea.2 u1.2]) ∈ tl := by
        obtain ⟨t, ht⟩ : ∃ t, les[i]? = some t := ⟨_, List.getElem?_eq_getElem (by omega)⟩
        obtain ⟨q, hq, u1, u2, e⟩ := hle4 i t ht
        rw [hea] at hq
        cases hq
        obtain ⟨t1, v1, v2⟩ := t
        cases e
        exact ⟨t1, (u1, u2), by rw [List.getElem?_map, ht]; rfl, hle2 _ (List.mem_of_getElem? ht)⟩
      obtain ⟨t2, u2, htb1, htb2⟩ : ∃ (t1 : Addr) (u1 : Tok × Tok), (les.map (·.1))[k]? = some t1 ∧ (t1, tupOf [.int eb.1 u1.1, .int eb.2 u1.2]) ∈ tl := by
        obtain ⟨t, ht⟩ : ∃ t, les[k]? = some t := ⟨_, List.getElem?_eq_getElem (by omega)⟩
        obtain ⟨q, hq, u1, u2, e⟩ := hle4 k t ht
        rw [heb] at hq
        cases hq
        obtain ⟨t1, v1, v2⟩ := t
        cases e
        exact ⟨t1, (u1, u2), by rw [List.getElem?_map, ht]; rfl, hle2 _ (List.mem_of_getElem? ht)⟩
      clear hgood hwh hpl htab
      generalize normL x = na at hck hWwa
      generalize normL y = nb at hck hWwb
      generalize plainL ea = xa at hck hWpa
      generalize plainL eb = xb at hck hWpb
      generalize tabOf x = ta at hck hTa
      generalize tabOf y = tb' at hck hTb
      (repeat (fail_if_success (with_reducible show wpAny _ _ (subscriptTail _ _ (Value.ref _) (Value.int _ _)) _ _ _)); first | (k_unfold; (try dsimp only)) | walk1 | (dsimp only; walk1))
      clear F3 N3
      rename Fr _ _ _ _ => F4
      rename News _ _ _ _ => N4
      rename Obj.data _ = Data.cell (some (Value.int (k : Int) tb)) => db2
      rename PySem.Obj => ob2
      refine pickRef N4 (in6 hlp) hpa (by omega) ?_
      (repeat (fail_if_success (with_reducible show wpAny _ _ (getMethod (Value.ref _) _ _) _ _ _)); first | (k_unfold; (try dsimp only)) | walk1 | (dsimp only; walk1))
      refine white_method F4 X N4 (hWpa.mono fun _ => in6) ?_
      (repeat (fail_if_success (with_reducible show wpAny _ _ (subscriptTail _ _ (Value.ref _) (Value.int _ _)) _ _ _)); first | (k_unfold; (try dsimp only)) | walk1 | (dsimp only; walk1))
      refine pickRef N4 (in6 hlp) hpb (by omega) ?_
      (repeat (fail_if_success (with_reducible show wpAny _ _ (call (Value.ref _) _) _ _ _)); first | (k_unfold; (try dsimp only)) | walk1 | (dsimp only; walk1))
      k_dflt (refine' equal_call _ _ _ _ _ _ ?a1 ?a2 ?a3 ?a4 ?a5 (White.mono hWpa fun _ => in6) (White.mono hWpb fun _ => in6) ?aK ?ad ?au ?aR; (case a1 => k_asm); (case a2 => k_asm); (case a3 => k_asm); (case a4 => k_asm); (case a5 => k_asm); (case aK => first | exact rfl | assumption); (case ad => ktr_room); (case au => ktr_units))
      intro h5 tk5 F5 N5
      clear F4 N4
      have ealike : decide (xa.1 = xb.1 ∧ xa.2 = xb.2) = decide (ea = eb) := by
        have e1 : (xa.1 = xb.1 ∧ xa.2 = xb.2) ↔ xa = xb := ⟨fun h => Prod.ext h.1 h.2, fun h => by rw [h]; exact ⟨rfl, rfl⟩⟩
        exact decide_eq_decide.mpr (e1.trans hck.2.2.1)
      rw [ealike]
      (repeat (fail_if_success (with_reducible show wpAny _ _ (isTrue _ _ _) _ _ _)); first | (k_unfold; (try dsimp only)) | walk1 | (dsimp only; walk1))
      rename Fr _ _ _ _ => F6
      rename News _ _ _ _ => N6
      refine cutBool F6 N6 false ?_ fun h7 tk7 F7 N7 => ?_
      · intro sA QA F6 N6 hQA
        repeat (fail_if_success (with_reducible show wpAny _ _ (isTrue (Expr.IfExp _ _ _ _) _ _) _ _ _)); first | (k_unfold; (try dsimp only)) | walk1 | (dsimp only; walk1)
        refine cutBool F6 N6 false ?_ fun h8 tk8 F8 N8 => ?_
        · intro sB QB F6 N6 hQB
          (repeat (fail_if_success (with_reducible show wpAny _ _ (subscriptTail _ _ (Value.ref _) (Value.int _ _)) _ _ _)); first | (k_unfold; (try dsimp only)) | walk1 | (dsimp only; walk1))
          refine pickRef N6 (in6 hle1) hta1 (by omega) ?_
          (repeat (fail_if_success (with_reducible show wpAny _ _ (subscriptTail _ _ (Value.ref _) (Value.int _ _)) _ _ _)); first | (k_unfold; (try dsimp only)) | walk1 | (dsimp only; walk1))
          refine pickRef N6 (in6 hle1) htb1 (by omega) ?_
          repeat (fail_if_success (with_reducible show wpAny _ _ (compareOp _ _ _) _ _ _)); first | (k_unfold; (try dsimp only)) | walk1 | (dsimp only; walk1)
          refine eq_pair N6 (in6 hta2) (in6 htb2) (by units_room) ?_
          by_cases hE : ea = eb
          · have e1 : decide ((ea.1, ea.2) = (eb.1, eb.2)) = true := by rw [hE]; simp
            rw [e1] at F6 hQB ⊢
            k_steps
            rename Fr _ _ _ _ => F9
            rename News _ _ _ _ => N9
            exact hQB _ _ _ rfl F9 N9
          · have e1 : decide ((ea.1, ea.2) = (eb.1, eb.2)) = false := decide_eq_false hE
            rw [e1] at F6 hQB ⊢
            k_steps
            rename Fr _ _ _ _ => F9
            rename News _ _ _ _ => N9
            exact hQB _ _ _ rfl F9 N9
        · clear F6 N6
          (repeat (fail_if_success (with_reducible show wpAny _ _ (subscriptTail _ _ (Value.ref _) (Value.int _ _)) _ _ _)); first | (k_unfold; (try dsimp only)) | walk1 | (dsimp only; walk1))
          refine pickRef N8 (in6 hlw) hwa (by omega) ?_
          (repeat (fail_if_success (with_reducible show wpAny _ _ (getMethod (Value.ref _) _ _) _ _ _)); first | (k_unfold; (try dsimp only)) | walk1 | (dsimp only; walk1))
          refine white_method F8 X N8 (hWwa.mono fun _ => in6) ?_
          (repeat (fail_if_success (with_reducible show wpAny _ _ (subscriptTail _ _ (Value.ref _) (Value.int _ _)) _ _ _)); first | (k_unfold; (try dsimp only)) | walk1 | (dsimp only; walk1))
          refine pickRef N8 (in6 hlp) hpb (by omega) ?_
          (repeat (fail_if_success (with_reducible show wpAny _ _ (call (Value.ref _) _) _ _ _)); first | (k_unfold; (try dsimp only)) | walk1 | (dsimp only; walk1))
          k_dflt (refine' equal_call _ _ _ _ _ _ ?b1 ?b2 ?b3 ?b4 ?b5 (White.mono hWwa fun _ => in6) (White.mono hWpb fun _ => in6) ?bK ?bd ?bu ?bR; (case b1 => k_asm); (case b2 => k_asm); (case b3 => k_asm); (case b4 => k_asm); (case b5 => k_asm); (case bK => first | exact rfl | assumption); (case bd => ktr_room); (case bu => ktr_units))
          intro h9 tk9 F9 N9
          have e2 : decide (na.1 = xb.1 ∧ na.2 = xb.2) = false := decide_eq_false fun h => hck.2.2.2.1 (Prod.ext h.1 h.2)
          rw [e2]
          k_steps
          rename Fr _ _ _ _ => F9
          rename News _ _ _ _ => N9
          exact hQA _ _ _ rfl F9 N9
      · clear F6 N6
        obtain ⟨oda, kva, hma, hda, hfa, loa⟩ := hTa
        obtain ⟨odb, kvb, hmb, hdb, hfb, lob⟩ := hTb
        have hla := flat_len hfa
        have hlowa := low_len hck.1
        (repeat (fail_if_success (with_reducible show wpAny _ _ (eval (Expr.ListComp _ _ _ _) _) _ _ _)); first | (k_unfold; (try dsimp only)) | walk1 | (dsimp only; walk1))
        refine listComp0 F7 N7 (by rfl) (by decide) rfl (by decide) rfl ?_
        (repeat (fail_if_success (with_reducible show wpAny _ _ (subscriptTail _ _ (Value.ref _) (Value.int _ _)) _ _ _)); first | (k_unfold; (try dsimp only)) | walk1 | (dsimp only; walk1))
        refine pickRef N7 (in6 hlt) hqa (by omega) ?_
        (repeat (fail_if_success (with_reducible show wpAny _ _ (pyIter _) _ _ _)); first | (k_unfold; (try dsimp only)) | walk1 | (dsimp only; walk1))
        refine src_dict rfl loa hda (by rw [PySem.sizeLine_eq]; omega) F7 N7 (in6 hma) fun I8 St8 h8 XS => ⟨I8, _, _, _, St8, _, rfl, XS, fun j ys => IntsAre ys ((ta.take j).map fun p => kdfLook ta p.1 0 * kdfLook tb' p.1 0), .nil, ?_, ?_⟩
        · rintro j v ys oI8 C oC D8 m8 sW QW E' hj ⟨kk, xx, hkx, hkv⟩ hG8 hC8 hx8 F9 N9 off ne hQW
          clear XS
          obtain ⟨t5, rfl⟩ := PySem.Value.isInt_shape hkv
          obtain ⟨v5, hcv⟩ := flat_at hfa hkx
          have hhas := kdfHas_of hcv
          have hb1 := low_look hck.1 kk
          have hb2 := low_look hck.2.1 kk
          replace N9 : News h₀ L sW.heap ((qa, oda) :: (qb, odb) :: (I8, oI8) :: (C, oC) :: (D8, LCg.lst ys) :: (I2, oI2) :: (I, oI) :: (L + 1 + 1 + 1 + 1, ob2) :: (L + 1 + 1 + 1, oa2) :: (L + 1 + 1, ot) :: (L + 1, osc) :: tl) := fun p hp => by
            rcases List.mem_cons.mp hp with rfl | hp
            · exact N9 _ (.tail _ (.tail _ (.tail _ (in6 hma))))
            rcases List.mem_cons.mp hp with rfl | hp
            · exact N9 _ (.tail _ (.tail _ (.tail _ (in6 hmb))))
            exact N9 p hp
          (repeat (fail_if_success (with_reducible show wpAny _ _ (subscriptTail _ _ (Value.ref _) (Value.int _ _)) _ _ _)); first | (k_unfold; (try dsimp only)) | walk1 | (dsimp only; walk1))
          refine pickRef N9 (in6 (.tail _ (.tail _ (.tail _ (.tail _ (.tail _ hlt)))))) hqa (by omega) ?_
          walk1
          walk1
          obtain ⟨vv, hvv, hfl⟩ := FlatPairs.of_lookup (fun a b => rfl) hfa (kdfD_item hhas)
          obtain ⟨tv, rfl⟩ := PyProof.V.Flat.int_inv hfl
          refine wpAny_getItem_of (intKind_is _ _ _ _) (kda_dict N9 (.head _) hda).mapOf hvv ?_
          (repeat (fail_if_success (with_reducible show wpAny _ _ (subscriptTail _ _ (Value.ref _) (Value.int _ _)) _ _ _)); first | (k_unfold; (try dsimp only)) | walk1 | (dsimp only; walk1))
          rename Fr _ _ _ _ => F10
          rename News _ _ _ _ => N10
          refine pickRef N10 (in6 (.tail _ (.tail _ (.tail _ (.tail _ (.tail _ hlt)))))) hqb (by omega) ?_
          k_steps
          rename Fr _ _ _ _ => F11
          rename News _ _ _ _ => N11
          refine hQW _ _ (ListEnd.intro F11 (fun p hp => N11 p (.tail _ (.tail _ hp))) ?_)
          show IntsAre _ _
          rw [take_map_snocP hcv]
          exact IntsAre.append hG8 (.cons _ _ .nil)
        · rintro Dk ysk h9 tk9 hGk hkl F9 N9 hDk
          clear XS
          rw [hla, List.take_length] at hGk
          have hkl2 := hGk.length
          rw [List.length_map] at hkl2
          replace N9 : News h₀ L h9 ((Dk, W.listOf ysk.toArray ysk.length) :: (I2, oI2) :: (I, oI) :: (L + 1 + 1 + 1 + 1, ob2) :: (L + 1 + 1 + 1, oa2) :: (L + 1 + 1, ot) :: (L + 1, osc) :: tl) := N9
          (repeat (fail_if_success (with_reducible show wpAny _ _ (subscriptTail _ _ (Value.ref _) (Value.int _ _)) _ _ _)); first | (k_unfold; (try dsimp only)) | walk1 | (dsimp only; walk1))
          rename Fr _ _ _ _ => F12
          rename News _ _ _ _ => N12
          have hpe : (ta.map fun p => kdfLook ta p.1 0 * kdfLook tb' p.1 0).sum = prodOf ta tb' := rfl
          rw [hpe] at F12
          obtain ⟨-, -, -, -, hc1, hc2⟩ := hck
          generalize prodOf ta tb' = pr at hc1 hc2 F12
          have eab : decide (na.1 = nb.1 ∧ na.2 = nb.2) = decide (na = nb) := decide_eq_decide.mpr ⟨fun h => Prod.ext h.1 h.2, fun h => by rw [h]; exact ⟨rfl, rfl⟩⟩
          have eba : decide (nb.1 = na.1 ∧ nb.2 = na.2) = decide (na = nb) := decide_eq_decide.mpr ⟨fun h => (Prod.ext h.1 h.2).symm, fun h => by rw [h]; exact ⟨rfl, rfl⟩⟩
          replace N12 : News h₀ L _ ((I2, oI2) :: (I, oI) :: (L + 1 + 1 + 1 + 1, ob2) :: (L + 1 + 1 + 1, oa2) :: (L + 1 + 1, ot) :: (L + 1, osc) :: tl) := fun p hp => N12 p (.tail _ hp)
          clear hDk hpe
          refine pickRef N12 (in6 hlw) hwa (by omega) ?_
          (repeat (fail_if_success (with_reducible show wpAny _ _ (getMethod (Value.ref _) _ _) _ _ _)); first | (k_unfold; (try dsimp only)) | walk1 | (dsimp only; walk1))
          refine white_method F12 X N12 (hWwa.mono fun _ => in6) ?_
          (repeat (fail_if_success (with_reducible show wpAny _ _ (subscriptTail _ _ (Value.ref _) (Value.int _ _)) _ _ _)); first | (k_unfold; (try dsimp only)) | walk1 | (dsimp only; walk1))
          refine pickRef N12 (in6 hlw) hwb (by omega) ?_
          (repeat (fail_if_success (with_reducible show wpAny _ _ (call (Value.ref _) _) _ _ _)); first | (k_unfold; (try dsimp only)) | walk1 | (dsimp only; walk1))
          k_dflt (refine' equal_call _ _ _ _ _ _ ?c1 ?c2 ?c3 ?c4 ?c5 (White.mono hWwa fun _ => in6) (White.mono hWwb fun _ => in6) ?cK ?cd ?cu ?cR; (case c1 => k_asm); (case c2 => k_asm); (case c3 => k_asm); (case c4 => k_asm); (case c5 => k_asm); (case cK => first | exact rfl | assumption); (case cd => ktr_room); (case cu => ktr_units))
          intro h13 tk13 F13 N13
          clear F12 N12
          rw [eab]
          (repeat (fail_if_success (with_reducible show wpAny _ _ (subscriptTail _ _ (Value.ref _) (Value.int _ _)) _ _ _)); first | (k_unfold; (try dsimp only)) | walk1 | (dsimp only; walk1))
          rename Fr _ _ _ _ => F14
          rename News _ _ _ _ => N14
          refine pickRef N14 (in6 hlw) hwb (by omega) ?_
          (repeat (fail_if_success (with_reducible show wpAny _ _ (getMethod (Value.ref _) _ _) _ _ _)); first | (k_unfold; (try dsimp only)) | walk1 | (dsimp only; walk1))
          refine white_method F14 X N14 (hWwb.mono fun _ => in6) ?_
          (repeat (fail_if_success (with_reducible show wpAny _ _ (subscriptTail _ _ (Value.ref _) (Value.int _ _)) _ _ _)); first | (k_unfold; (try dsimp only)) | walk1 | (dsimp only; walk1))
          refine pickRef N14 (in6 hlw) hwa (by omega) ?_
          (repeat (fail_if_success (with_reducible show wpAny _ _ (call (Value.ref _) _) _ _ _)); first | (k_unfold; (try dsimp only)) | walk1 | (dsimp only; walk1))
          k_dflt (refine' equal_call _ _ _ _ _ _ ?d1 ?d2 ?d3 ?d4 ?d5 (White.mono hWwb fun _ => in6) (White.mono hWwa fun _ => in6) ?dK ?dd ?du ?dR; (case d1 => k_asm); (case d2 => k_asm); (case d3 => k_asm); (case d4 => k_asm); (case d5 => k_asm); (case dK => first | exact rfl | assumption); (case dd => ktr_room); (case du => ktr_units))
          intro h15 tk15 F15 N15
          clear F14 N14
          rw [eba]
          (repeat (fail_if_success (with_reducible show wpAny _ _ (isTrue _ _ _) _ _ _)); first | (k_unfold; (try dsimp only)) | walk1 | (dsimp only; walk1))
          rename Fr _ _ _ _ => F16
          rename News _ _ _ _ => N16
          refine cutBool F16 N16 false ?_ fun h17 tk17 F17 N17 => ?_
          · intro sC QC F16 N16 hQC
            by_cases hpr : pr = 0
            · have e1 : decide (na = nb) = false := decide_eq_false (hc1.mp hpr)
              rw [e1] at F16 hQC
              k_steps
              all_goals first | (exfalso; omega) | skip
              rename Fr _ _ _ _ => F18
              rename News _ _ _ _ => N18
              exact hQC _ _ _ rfl F18 N18
            · k_steps
              all_goals first | (exfalso; omega) | skip
              rename Fr _ _ _ _ => F18
              rename News _ _ _ _ => N18
              exact hQC _ _ _ rfl F18 N18
          · clear F16 N16
            (repeat (fail_if_success (with_reducible show wpAny _ _ (isTrue _ _ _) _ _ _)); first | (k_unfold; (try dsimp only)) | walk1 | (dsimp only; walk1))
            refine cutBool F17 N17 false ?_ fun h19 tk19 F19 N19 => ?_
            · intro sD QD F17 N17 hQD
              by_cases hpr : pr = 0
              · k_steps
                all_goals first | (exfalso; omega) | skip
                rename Fr _ _ _ _ => F20
                rename News _ _ _ _ => N20
                exact hQD _ _ _ rfl F20 N20
              · obtain ⟨hn0, hn20, hof⟩ := hc2 hpr
                have hnn : na = nb := Decidable.byContradiction fun h => hpr (hc1.mpr h)
                have e1 : decide (na = nb) = true := decide_eq_true hnn
                rw [e1] at F17 hQD
                (repeat (fail_if_success (with_reducible show wpAny _ _ (subscriptTail _ _ (Value.ref _) (Value.int _ _)) _ _ _)); first | (k_unfold; (try dsimp only)) | walk1 | (dsimp only; walk1))
                all_goals first | (exfalso; omega) | skip
                refine pickRef N17 (in6 hlw) hwa (by omega) ?_
                refine white_norm F17 X N17 (hWwa.mono fun _ => in6) fun t9 c9 tb9 vs9 g1 g2 g3 => ?_
                walk1
                refine tup0 N17 g1 ?_
                (repeat (fail_if_success (with_reducible show wpAny _ _ (call (Value.ref _) _) _ _ _)); first | (k_unfold; (try dsimp only)) | walk1 | (dsimp only; walk1))
                k_dflt (refine' often_call _ _ na.1 pr hof hn0 hn20 ?f0 ?f9 ?f1 ?f2 ?f3 ?f4 ?f5 ?fK ?fd ?fu ?fR; (case f0 => exact g3); (case f9 => exact g2); (case f1 => k_asm); (case f2 => k_asm); (case f3 => k_asm); (case f4 => k_asm); (case f5 => k_asm); (case fK => first | exact rfl | assumption); (case fd => ktr_room); (case fu => ktr_units))
                intro t21 h21 tk21 F21 N21
                k_steps
                all_goals first | (exfalso; omega) | skip
                rename Fr _ _ _ _ => F20
                rename News _ _ _ _ => N20
                exact hQD _ _ _ (by simp) F20 N20
            · clear F17 N17
              k_steps
              rename Fr _ _ _ _ => F20
              rename News _ _ _ _ => N20
              exact hQU _ _ (TurnEnd.intro F20 N20 (allNe_to (by exact hO2)) ⟨ob2, rfl, ⟨_, db2⟩, rfl, rfl, rfl⟩)
    · rintro m₂ nx h2 tk2 ⟨ob, rfl, ⟨vb, db⟩, hm1, hm2, hm3⟩ F3 N3
      k_steps
      exact hQT _ _ (TurnEnd.intro F3 N3 (allNe_to (by exact hO)) ⟨ob, oa2, rfl, ⟨_, db⟩, ⟨_, da2⟩, hm1, hm2, hm3⟩)
  · rintro m₁ nx h tk ⟨ob, oa, rfl, ⟨vb, db⟩, ⟨va, da⟩, hm1, hm2, hm3⟩ F1 N1
    k_steps
    exact hret _ _ _ (by assumption)
end

/-- the standings that a run meets, their places, their text, the commas in it -/
noncomputable def placesTab : List (Nat × List Nat × List Nat × List Nat) := [
  (31, [0, 1, 2, 3, 4], [79, 80, 84, 73, 77, 73, 90, 69, 68, 44, 32, 78, 69, 87, 76, 79, 67, 65, 76, 83, 44, 32, 86, 65, 82, 65, 82, 71, 83, 44, 32, 86, 65, 82, 75, 69, 89, 87, 79, 82, 68, 83, 44, 32, 78, 69, 83, 84, 69, 68], [9, 20, 29, 42]),
  (248, [3, 4, 5, 6, 7], [86, 65, 82, 75, 69, 89, 87, 79, 82, 68, 83, 44, 32, 78, 69, 83, 84, 69, 68, 44, 32, 71, 69, 78, 69, 82, 65, 84, 79, 82, 44, 32, 78, 79, 70, 82, 69, 69, 44, 32, 67, 79, 82, 79, 85, 84, 73, 78, 69], [11, 19, 30, 38]),
  (1984, [6, 7, 8, 9, 10], [78, 79, 70, 82, 69, 69, 44, 32, 67, 79, 82, 79, 85, 84, 73, 78, 69, 44, 32, 73, 84, 69, 82, 65, 66, 76, 69, 95, 67, 79, 82, 79, 85, 84, 73, 78, 69, 44, 32, 65, 83, 89, 78, 67, 95, 71, 69, 78, 69, 82, 65, 84, 79, 82, 44, 32, 48, 120, 52, 48, 48], [6, 17, 37, 54]),
  (47, [0, 1, 2, 3, 5], [79, 80, 84, 73, 77, 73, 90, 69, 68, 44, 32, 78, 69, 87, 76, 79, 67, 65, 76, 83, 44, 32, 86, 65, 82, 65, 82, 71, 83, 44, 32, 86, 65, 82, 75, 69, 89, 87, 79, 82, 68, 83, 44, 32, 71, 69, 78, 69, 82, 65, 84, 79, 82], [9, 20, 29, 42]),
  (376, [3, 4, 5, 6, 8], [86, 65, 82, 75, 69, 89, 87, 79, 82, 68, 83, 44, 32, 78, 69, 83, 84, 69, 68, 44, 32, 71, 69, 78, 69, 82, 65, 84, 79, 82, 44, 32, 78, 79, 70, 82, 69, 69, 44, 32, 73, 84, 69, 82, 65, 66, 76, 69, 95, 67, 79, 82, 79, 85, 84, 73, 78, 69], [11, 19, 30, 38]),
  (3008, [6, 7, 8, 9, 11], [78, 79, 70, 82, 69, 69, 44, 32, 67, 79, 82, 79, 85, 84, 73, 78, 69, 44, 32, 73, 84, 69, 82, 65, 66, 76, 69, 95, 67, 79, 82, 79, 85, 84, 73, 78, 69, 44, 32, 65, 83, 89, 78, 67, 95, 71, 69, 78, 69, 82, 65, 84, 79, 82, 44, 32, 48, 120, 56, 48, 48], [6, 17, 37, 54]),
  (79, [0, 1, 2, 3, 6], [79, 80, 84, 73, 77, 73, 90, 69, 68, 44, 32, 78, 69, 87, 76, 79, 67, 65, 76, 83, 44, 32, 86, 65, 82, 65, 82, 71, 83, 44, 32, 86, 65, 82, 75, 69, 89, 87, 79, 82, 68, 83, 44, 32, 78, 79, 70, 82, 69, 69], [9, 20, 29, 42]),
  (632, [3, 4, 5, 6, 9], [86, 65, 82, 75, 69, 89, 87, 79, 82, 68, 83, 44, 32, 78, 69, 83, 84, 69, 68, 44, 32, 71, 69, 78, 69, 82, 65, 84, 79, 82, 44, 32, 78, 79, 70, 82, 69, 69, 44, 32, 65, 83, 89, 78, 67, 95, 71, 69, 78, 69, 82, 65, 84, 79, 82], [11, 19, 30, 38]),
  (5056, [6, 7, 8, 9, 12], [78, 79, 70, 82, 69, 69, 44, 32, 67, 79, 82, 79, 85, 84, 73, 78, 69, 44, 32, 73, 84, 69, 82, 65, 66, 76, 69, 95, 67, 79, 82, 79, 85, 84, 73, 78, 69, 44, 32, 65, 83, 89, 78, 67, 95, 71, 69, 78, 69, 82, 65, 84, 79, 82, 44, 32, 48, 120, 49, 48, 48, 48], [6, 17, 37, 54]),
  (55, [0, 1, 2, 4, 5], [79, 80, 84, 73, 77, 73, 90, 69, 68, 44, 32, 78, 69, 87, 76, 79, 67, 65, 76, 83, 44, 32, 86, 65, 82, 65, 82, 71, 83, 44, 32, 78, 69, 83, 84, 69, 68, 44, 32, 71, 69, 78, 69, 82, 65, 84, 79, 82], [9, 20, 29, 37]),
  (440, [3, 4, 5, 7, 8], [86, 65, 82, 75, 69, 89, 87, 79, 82, 68, 83, 44, 32, 78, 69, 83, 84, 69, 68, 44, 32, 71, 69, 78, 69, 82, 65, 84, 79, 82, 44, 32, 67, 79, 82, 79, 85, 84, 73, 78, 69, 44, 32, 73, 84, 69, 82, 65, 66, 76, 69, 95, 67, 79, 82, 79, 85, 84, 73, 78, 69], [11, 19, 30, 41]),
  (3520, [6, 7, 8, 10, 11], [78, 79, 70, 82, 69, 69, 44, 32, 67, 79, 82, 79, 85, 84, 73, 78, 69, 44, 32, 73, 84, 69, 82, 65, 66, 76, 69, 95, 67, 79, 82, 79, 85, 84, 73, 78, 69, 44, 32, 48, 120, 52, 48, 48, 44, 32, 48, 120, 56, 48, 48], [6, 17, 37, 44]),
  (143, [0, 1, 2, 3, 7], [79, 80, 84, 73, 77, 73, 90, 69, 68, 44, 32, 78, 69, 87, 76, 79, 67, 65, 76, 83, 44, 32, 86, 65, 82, 65, 82, 71, 83, 44, 32, 86, 65, 82, 75, 69, 89, 87, 79, 82, 68, 83, 44, 32, 67, 79, 82, 79, 85, 84, 73, 78, 69], [9, 20, 29, 42]),
  (1144, [3, 4, 5, 6, 10], [86, 65, 82, 75, 69, 89, 87, 79, 82, 68, 83, 44, 32, 78, 69, 83, 84, 69, 68, 44, 32, 71, 69, 78, 69, 82, 65, 84, 79, 82, 44, 32, 78, 79, 70, 82, 69, 69, 44, 32, 48, 120, 52, 48, 48], [11, 19, 30, 38]),
  (9152, [6, 7, 8, 9, 13], [78, 79, 70, 82, 69, 69, 44, 32, 67, 79, 82, 79, 85, 84, 73, 78, 69, 44, 32, 73, 84, 69, 82, 65, 66, 76, 69, 95, 67, 79, 82, 79, 85, 84, 73, 78, 69, 44, 32, 65, 83, 89, 78, 67, 95, 71, 69, 78, 69, 82, 65, 84, 79, 82, 44, 32, 48, 120, 50, 48, 48, 48], [6, 17, 37, 54]),
  (87, [0, 1, 2, 4, 6], [79, 80, 84, 73, 77, 73, 90, 69, 68, 44, 32, 78, 69, 87, 76, 79, 67, 65, 76, 83, 44, 32, 86, 65, 82, 65, 82, 71, 83, 44, 32, 78, 69, 83, 84, 69, 68, 44, 32, 78, 79, 70, 82, 69, 69], [9, 20, 29, 37]),
  (696, [3, 4, 5, 7, 9], [86, 65, 82, 75, 69, 89, 87, 79, 82, 68, 83, 44, 32, 78, 69, 83, 84, 69, 68, 44, 32, 71, 69, 78, 69, 82, 65, 84, 79, 82, 44, 32, 67, 79, 82, 79, 85, 84, 73, 78, 69, 44, 32, 65, 83, 89, 78, 67, 95, 71, 69, 78, 69, 82, 65, 84, 79, 82], [11, 19, 30, 41]),
  (5568, [6, 7, 8, 10, 12], [78, 79, 70, 82, 69, 69, 44, 32, 67, 79, 82, 79, 85, 84, 73, 78, 69, 44, 32, 73, 84, 69, 82, 65, 66, 76, 69, 95, 67, 79, 82, 79, 85, 84, 73, 78, 69, 44, 32, 48, 120, 52, 48, 48, 44, 32, 48, 120, 49, 48, 48, 48], [6, 17, 37, 44]),
  (59, [0, 1, 3, 4, 5], [79, 80, 84, 73, 77, 73, 90, 69, 68, 44, 32, 78, 69, 87, 76, 79, 67, 65, 76, 83, 44, 32, 86, 65, 82, 75, 69, 89, 87, 79, 82, 68, 83, 44, 32, 78, 69, 83, 84, 69, 68, 44, 32, 71, 69, 78, 69, 82, 65, 84, 79, 82], [9, 20, 33, 41]),
  (472, [3, 4, 6, 7, 8], [86, 65, 82, 75, 69, 89, 87, 79, 82, 68, 83, 44, 32, 78, 69, 83, 84, 69, 68, 44, 32, 78, 79, 70, 82, 69, 69, 44, 32, 67, 79, 82, 79, 85, 84, 73, 78, 69, 44, 32, 73, 84, 69, 82, 65, 66, 76, 69, 95, 67, 79, 82, 79, 85, 84, 73, 78, 69], [11, 19, 27, 38]),
  (3776, [6, 7, 9, 10, 11], [78, 79, 70, 82, 69, 69, 44, 32, 67, 79, 82, 79, 85, 84, 73, 78, 69, 44, 32, 65, 83, 89, 78, 67, 95, 71, 69, 78, 69, 82, 65, 84, 79, 82, 44, 32, 48, 120, 52, 48, 48, 44, 32, 48, 120, 56, 48, 48], [6, 17, 34, 41]),
  (271, [0, 1, 2, 3, 8], [79, 80, 84, 73, 77, 73, 90, 69, 68, 44, 32, 78, 69, 87, 76, 79, 67, 65, 76, 83, 44, 32, 86, 65, 82, 65, 82, 71, 83, 44, 32, 86, 65, 82, 75, 69, 89, 87, 79, 82, 68, 83, 44, 32, 73, 84, 69, 82, 65, 66, 76, 69, 95, 67, 79, 82, 79, 85, 84, 73, 78, 69], [9, 20, 29, 42]),
  (2168, [3, 4, 5, 6, 11], [86, 65, 82, 75, 69, 89, 87, 79, 82, 68, 83, 44, 32, 78, 69, 83, 84, 69, 68, 44, 32, 71, 69, 78, 69, 82, 65, 84, 79, 82, 44, 32, 78, 79, 70, 82, 69, 69, 44, 32, 48, 120, 56, 48, 48], [11, 19, 30, 38]),
  (17344, [6, 7, 8, 9, 14], [78, 79, 70, 82, 69, 69, 44, 32, 67, 79, 82, 79, 85, 84, 73, 78, 69, 44, 32, 73, 84, 69, 82, 65, 66, 76, 69, 95, 67, 79, 82, 79, 85, 84, 73, 78, 69, 44, 32, 65, 83, 89, 78, 67, 95, 71, 69, 78, 69, 82, 65, 84, 79, 82, 44, 32, 48, 120, 52, 48, 48, 48], [6, 17, 37, 54]),
  (151, [0, 1, 2, 4, 7], [79, 80, 84, 73, 77, 73, 90, 69, 68, 44, 32, 78, 69, 87, 76, 79, 67, 65, 76, 83, 44, 32, 86, 65, 82, 65, 82, 71, 83, 44, 32, 78, 69, 83, 84, 69, 68, 44, 32, 67, 79, 82, 79, 85, 84, 73, 78, 69], [9, 20, 29, 37]),
  (1208, [3, 4, 5, 7, 10], [86, 65, 82, 75, 69, 89, 87, 79, 82, 68, 83, 44, 32, 78, 69, 83, 84, 69, 68, 44, 32, 71, 69, 78, 69, 82, 65, 84, 79, 82, 44, 32, 67, 79, 82, 79, 85, 84, 73, 78, 69, 44, 32, 48, 120, 52, 48, 48], [11, 19, 30, 41]),
  (9664, [6, 7, 8, 10, 13], [78, 79, 70, 82, 69, 69, 44, 32, 67, 79, 82, 79, 85, 84, 73, 78, 69, 44, 32, 73, 84, 69, 82, 65, 66, 76, 69, 95, 67, 79, 82, 79, 85, 84, 73, 78, 69, 44, 32, 48, 120, 52, 48, 48, 44, 32, 48, 120, 50, 48, 48, 48], [6, 17, 37, 44]),
  (103, [0, 1, 2, 5, 6], [79, 80, 84, 73, 77, 73, 90, 69, 68, 44, 32, 78, 69, 87, 76, 79, 67, 65, 76, 83, 44, 32, 86, 65, 82, 65, 82, 71, 83, 44, 32, 71, 69, 78, 69, 82, 65, 84, 79, 82, 44, 32, 78, 79, 70, 82, 69, 69], [9, 20, 29, 40]),
  (824, [3, 4, 5, 8, 9], [86, 65, 82, 75, 69, 89, 87, 79, 82, 68, 83, 44, 32, 78, 69, 83, 84, 69, 68, 44, 32, 71, 69, 78, 69, 82, 65, 84, 79, 82, 44, 32, 73, 84, 69, 82, 65, 66, 76, 69, 95, 67, 79, 82, 79, 85, 84, 73, 78, 69, 44, 32, 65, 83, 89, 78, 67, 95, 71, 69, 78, 69, 82, 65, 84, 79, 82], [11, 19, 30, 50]),
  (6592, [6, 7, 8, 11, 12], [78, 79, 70, 82, 69, 69, 44, 32, 67, 79, 82, 79, 85, 84, 73, 78, 69, 44, 32, 73, 84, 69, 82, 65, 66, 76, 69, 95, 67, 79, 82, 79, 85, 84, 73, 78, 69, 44, 32, 48, 120, 56, 48, 48, 44, 32, 48, 120, 49, 48, 48, 48], [6, 17, 37, 44]),
  (91, [0, 1, 3, 4, 6], [79, 80, 84, 73, 77, 73, 90, 69, 68, 44, 32, 78, 69, 87, 76, 79, 67, 65, 76, 83, 44, 32, 86, 65, 82, 75, 69, 89, 87, 79, 82, 68, 83, 44, 32, 78, 69, 83, 84, 69, 68, 44, 32, 78, 79, 70, 82, 69, 69], [9, 20, 33, 41]),
  (728, [3, 4, 6, 7, 9], [86, 65, 82, 75, 69, 89, 87, 79, 82, 68, 83, 44, 32, 78, 69, 83, 84, 69, 68, 44, 32, 78, 79, 70, 82, 69, 69, 44, 32, 67, 79, 82, 79, 85, 84, 73, 78, 69, 44, 32, 65, 83, 89, 78, 67, 95, 71, 69, 78, 69, 82, 65, 84, 79, 82], [11, 19, 27, 38]),
  (5824, [6, 7, 9, 10, 12], [78, 79, 70, 82, 69, 69, 44, 32, 67, 79, 82, 79, 85, 84, 73, 78, 69, 44, 32, 65, 83, 89, 78, 67, 95, 71, 69, 78, 69, 82, 65, 84, 79, 82, 44, 32, 48, 120, 52, 48, 48, 44, 32, 48, 120, 49, 48, 48, 48], [6, 17, 34, 41]),
  (61, [0, 2, 3, 4, 5], [79, 80, 84, 73, 77, 73, 90, 69, 68, 44, 32, 86, 65, 82, 65, 82, 71, 83, 44, 32, 86, 65, 82, 75, 69, 89, 87, 79, 82, 68, 83, 44, 32, 78, 69, 83, 84, 69, 68, 44, 32, 71, 69, 78, 69, 82, 65, 84, 79, 82], [9, 18, 31, 39]),
  (488, [3, 5, 6, 7, 8], [86, 65, 82, 75, 69, 89, 87, 79, 82, 68, 83, 44, 32, 71, 69, 78, 69, 82, 65, 84, 79, 82, 44, 32, 78, 79, 70, 82, 69, 69, 44, 32, 67, 79, 82, 79, 85, 84, 73, 78, 69, 44, 32, 73, 84, 69, 82, 65, 66, 76, 69, 95, 67, 79, 82, 79, 85, 84, 73, 78, 69], [11, 22, 30, 41]),
  (3904, [6, 8, 9, 10, 11], [78, 79, 70, 82, 69, 69, 44, 32, 73, 84, 69, 82, 65, 66, 76, 69, 95, 67, 79, 82, 79, 85, 84, 73, 78, 69, 44, 32, 65, 83, 89, 78, 67, 95, 71, 69, 78, 69, 82, 65, 84, 79, 82, 44, 32, 48, 120, 52, 48, 48, 44, 32, 48, 120, 56, 48, 48], [6, 26, 43, 50])]
noncomputable def wordsC : List (List Nat) := [[79, 80, 84, 73, 77, 73, 90, 69, 68], [78, 69, 87, 76, 79, 67, 65, 76, 83], [86, 65, 82, 65, 82, 71, 83], [86, 65, 82, 75, 69, 89, 87, 79, 82, 68, 83], [78, 69, 83, 84, 69, 68], [71, 69, 78, 69, 82, 65, 84, 79, 82], [78, 79, 70, 82, 69, 69], [67, 79, 82, 79, 85, 84, 73, 78, 69], [73, 84, 69, 82, 65, 66, 76, 69, 95, 67, 79, 82, 79, 85, 84, 73, 78, 69], [65, 83, 89, 78, 67, 95, 71, 69, 78, 69, 82, 65, 84, 79, 82], [48, 120, 52, 48, 48], [48, 120, 56, 48, 48], [48, 120, 49, 48, 48, 48], [48, 120, 50, 48, 48, 48], [48, 120, 52, 48, 48, 48]]
noncomputable def mkS (l : List Nat) : Str := ⟨l.toArray⟩
noncomputable def wordsL : List Str := wordsC.map mkS
theorem words_lit : words = wordsL := by decide +kernel
theorem sep_lit : PySem.Str.ofString ", " = ⟨#[44, 32]⟩ := by decide +kernel
theorem empty_lit : PySem.Str.ofString "" = ⟨#[]⟩ := by decide +kernel
noncomputable def nx (m n : Nat) : Nat := m + n - 2 * (m &&& n)
theorem nx_is (m n : Nat) : Builtin.bitXor (m : Int) (n : Int) = (nx m n : Int) := by
  have h1 : m &&& n ≤ m := Nat.and_le_left
  have h2 : m &&& n ≤ n := Nat.and_le_right
  rw [bitXor_and, bitAnd_pp (Int.natCast_nonneg _) (Int.natCast_nonneg _), Int.toNat_natCast, Int.toNat_natCast]
  unfold nx
  omega
theorem and_is (m n : Nat) : Builtin.bitAnd (m : Int) (n : Int) = ((m &&& n : Nat) : Int) := by
  rw [bitAnd_pp (Int.natCast_nonneg _) (Int.natCast_nonneg _), Int.toNat_natCast, Int.toNat_natCast]
noncomputable def pfI : Nat → Nat → Nat → List Nat → Option (List Nat)
  | _, 0, _, _ => none
  | i, k + 1, f, ns =>
    if f &&& 2 ^ i = 0 then pfI (i + 1) k f ns
    else if i < 15 then
      if nx f (2 ^ i) = 0 then some (ns ++ [i]) else pfI (i + 1) k (nx f (2 ^ i)) (ns ++ [i])
    else none
noncomputable def wd (i : Nat) : Str := wordsL.getD i ⟨#[]⟩
noncomputable def wdC (i : Nat) : List Nat := wordsC.getD i []
theorem wd_C (i : Nat) : wd i = mkS (wdC i) := by
  unfold wd wdC wordsL
  rw [List.getD_eq_getElem?_getD, List.getD_eq_getElem?_getD, List.getElem?_map]
  cases wordsC[i]? <;> rfl
theorem pf_I : ∀ (k i f : Nat) (ns : List Nat), pf i k (f : Int) (ns.map wd) = (pfI i k f ns).map fun P => P.map wd
  | 0, _, _, _ => rfl
  | k + 1, i, f, ns => by
    have e2 : ((2 : Int) ^ i) = ((2 ^ i : Nat) : Int) := by simp
    have ew : ns.map wd ++ [wd i] = (ns ++ [i]).map wd := by simp
    have e0 : ∀ n : Nat, ((n : Int) = 0) ↔ n = 0 := fun n => by omega
    have es : words.getD i (PySem.Str.ofString "") = wd i := by rw [words_lit, empty_lit]; rfl
    rw [pf_succ, pfI, e2, and_is, nx_is, es, ew, pf_I k, pf_I k]
    simp only [ne_eq, e0]
    by_cases h : f &&& 2 ^ i = 0
    · simp [h]
    · by_cases h2 : i < 15
      · by_cases h3 : nx f (2 ^ i) = 0
        · simp [h, h2, h3]
        · simp [h, h2, h3]
      · simp [h, h2]
noncomputable def joinL (sep : List Nat) : List (List Nat) → List Nat
  | [] => []
  | [x] => x
  | x :: r => x ++ sep ++ joinL sep r
theorem join_L (sep : Str) : ∀ R : List Str, (PySem.Txt.join sep R).cps.toList = joinL sep.cps.toList (R.map fun x => x.cps.toList) := by
  intro R
  have e : PySem.Txt.join sep R = Str.join sep R := StrLaws.glued_eq_join _ _
  rw [e]
  clear e
  induction R with
  | nil => rfl
  | cons x r ih =>
    cases r with
    | nil => rfl
    | cons y r =>
      rw [Str.join, app_codes, app_codes, ih]
      · rfl
      · intro h; cases h
noncomputable def partsL (J : List Nat) (cuts : List Nat) (width : Nat) : List (List Nat) := ((0 :: cuts.map (· + width)).zip (cuts ++ [J.length])).map fun p => (J.drop p.1).take (p.2 - p.1)
theorem parts_L (J cuts : List Nat) (width : Nat) : PySem.Builtin.Str.partsBetween (mkS J) cuts width = (partsL J cuts width).map mkS := by
  unfold PySem.Builtin.Str.partsBetween partsL
  have e : (mkS J).length = J.length := by simp [mkS, Str.length]
  rw [e, List.map_map]
  refine List.map_congr_left fun p _ => ?_
  obtain ⟨i, j⟩ := p
  apply str_ext
  simp [mkS, PySem.Builtin.Str.strSub, Function.comp_def, List.extract_eq_take_drop]
theorem kind_pos (x : Str) : 1 ≤ PySem.Builtin.Str.strKind x := by
  unfold PySem.Builtin.Str.strKind
  split
  · exact Nat.le_refl _
  · split <;> decide
theorem kind_sep : PySem.Builtin.Str.strKind (⟨#[44, 32]⟩ : Str) = 1 := by decide +kernel
noncomputable def rowOk (p : Nat × List Nat × List Nat × List Nat) : Bool :=
  (pfI 0 32 p.1 [] == some p.2.1) && (joinL [44, 32] (p.2.1.map wdC) == p.2.2.1) && decide (2 ≤ p.2.2.1.length) &&
  (PySem.Builtin.Str.occurrences (mkS p.2.2.1) ⟨#[44, 32]⟩ 0 p.2.2.1.length (p.2.2.1.length + 1) == p.2.2.2) && !p.2.2.2.isEmpty && (partsL p.2.2.1 p.2.2.2 2 == p.2.1.map wdC) && decide (p.2.2.1.length ≤ 1000) && decide (p.2.1.length = 5) &&
  (p.2.1.map fun k => wordsL.idxOf (wd k)) == p.2.1 && (p.2.1.all fun k => decide (k < 15)) && JoinOk ⟨#[44, 32]⟩ (p.2.1.map wd)
theorem rows_a : (placesTab.take 9).all rowOk = true := by decide +kernel
theorem rows_b : ((placesTab.drop 9).take 9).all rowOk = true := by decide +kernel
theorem rows_c : (((placesTab.drop 9).drop 9).take 9).all rowOk = true := by decide +kernel
theorem rows_d : (((placesTab.drop 9).drop 9).drop 9).all rowOk = true := by decide +kernel
theorem rows_ok : placesTab.all rowOk = true := by
  rw [← List.take_append_drop 9 placesTab, List.all_append, rows_a, ← List.take_append_drop 9 (placesTab.drop 9), List.all_append, rows_b,
    ← List.take_append_drop 9 ((placesTab.drop 9).drop 9), List.all_append, rows_c, rows_d]
  rfl
theorem split_of {x y : Str} {o : List Nat} (ho : PySem.Builtin.Str.occurrences x y 0 x.length (x.length + 1) = o) (h1 : (decide (x.length < y.length) || decide (PySem.Builtin.Str.strKind x < PySem.Builtin.Str.strKind y)) = false) (h2 : o.isEmpty = false) :
    PySem.Txt.split x y = PySem.Builtin.Str.partsBetween x o y.length := by
  unfold PySem.Txt.split
  rw [ho, h1, h2]
  rfl
theorem row_places {p : Nat × List Nat × List Nat × List Nat} (h : rowOk p = true) : placesOf (p.1 : Int) = some (p.2.1.map fun k : Nat => (k : Int)) := by
  obtain ⟨st, P, J, o⟩ := p
  unfold rowOk at h
  simp only [Bool.and_eq_true, Bool.not_eq_true', beq_iff_eq, decide_eq_true_eq] at h
  obtain ⟨⟨⟨⟨⟨⟨⟨⟨⟨⟨hpf, hj⟩, hk⟩, ho⟩, he⟩, hp⟩, hl⟩, h5⟩, hi⟩, ha⟩, hJ⟩ := h
  have e1 : pf 0 32 (st : Int) [] = some (P.map wd) := by
    have := pf_I 32 0 st []
    rw [hpf] at this
    exact this
  have ew : P.map wd = (P.map wdC).map mkS := by
    rw [List.map_map]
    exact List.map_congr_left fun k _ => wd_C k
  have hjn : PySem.Txt.join ⟨#[44, 32]⟩ (P.map wd) = mkS J := by
    apply str_ext
    rw [join_L, ew, List.map_map]
    have : ((fun x : Str => x.cps.toList) ∘ mkS) = id := by funext l; simp [mkS]
    rw [this, List.map_id]
    exact hj.trans (by simp [mkS])
  have hlen : (mkS J).length = J.length := by simp [mkS, Str.length]
  have hk1 : (decide ((mkS J).length < (⟨#[44, 32]⟩ : Str).length) || decide (PySem.Builtin.Str.strKind (mkS J) < PySem.Builtin.Str.strKind (⟨#[44, 32]⟩ : Str))) = false := by
    have a1 : ¬ (mkS J).length < (⟨#[44, 32]⟩ : Str).length := by rw [hlen]; exact Nat.not_lt.mpr hk
    have a2 : ¬ PySem.Builtin.Str.strKind (mkS J) < PySem.Builtin.Str.strKind (⟨#[44, 32]⟩ : Str) := by rw [kind_sep]; exact Nat.not_lt.mpr (kind_pos _)
    rw [decide_eq_false a1, decide_eq_false a2]
    rfl
  unfold placesOf
  rw [e1, sep_lit, Option.bind_some, words_lit, hjn, split_of (by rw [hlen]; exact ho) hk1 he]
  have e2 : PySem.Builtin.Str.partsBetween (mkS J) o (⟨#[44, 32]⟩ : Str).length = P.map wd := by
    rw [ew, ← hp]
    exact parts_L J o 2
  have ea : ((P.map wd).all fun w => decide (wordsL.idxOf w < 15)) = true := by
    have e3 : ((P.map wd).map fun w => wordsL.idxOf w) = P := by rw [List.map_map]; exact hi
    rw [List.all_eq_true]
    intro w hw
    have h2 : wordsL.idxOf w ∈ ((P.map wd).map fun w => wordsL.idxOf w) := List.mem_map_of_mem hw
    rw [e3] at h2
    exact List.all_eq_true.mp ha _ h2
  rw [if_pos ⟨hJ, e2, by rw [hlen]; exact hl, by rw [List.length_map]; exact h5, ea⟩]
  congr 1
  rw [List.map_map]
  conv => rhs; rw [← hi, List.map_map]
  rfl
theorem tab_places {st : Nat} {P : List Nat} (h : (placesTab.find? fun p => p.1 == st).map (fun p => p.2.1) = some P) : placesOf (st : Int) = some (P.map fun k : Nat => (k : Int)) := by
  obtain ⟨p, hp, rfl⟩ := Option.map_eq_some_iff.mp h
  have h1 := List.find?_some hp
  have h2 := row_places (List.all_eq_true.mp rows_ok _ (List.mem_of_find?_eq_some hp))
  rw [← eq_of_beq h1]
  exact h2

noncomputable abbrev TN := List (Nat × Int)
noncomputable def toI (c : TN) : List (Int × Int) := c.map fun p => ((p.1 : Int), p.2)
noncomputable def putN (c : TN) (k : Nat) (v : Int) : TN := if c.any (fun p => p.1 == k) then c.map (fun p => if p.1 == k then (p.1, v) else p) else c ++ [(k, v)]
noncomputable def lookN (c : TN) (k : Nat) : Int := match c.find? fun p => p.1 == k with
  | some p => p.2
  | none => 0
theorem any_I (c : TN) (k : Nat) : ((toI c).any fun p => decide (p.1 = (k : Int))) = c.any fun p => p.1 == k := by
  unfold toI
  rw [List.any_map]
  congr 1
  funext p
  by_cases h : p.1 = k
  · simp [h]
  · have : ¬ ((p.1 : Int) = (k : Int)) := by omega
    simp [h, this]
theorem put_I (c : TN) (k : Nat) (v : Int) : kdfPut (toI c) (k : Int) v = toI (putN c k v) := by
  unfold kdfPut putN
  rw [any_I]
  split
  · unfold toI
    rw [List.map_map, List.map_map]
    refine List.map_congr_left fun p _ => ?_
    by_cases h : p.1 = k
    · simp [h]
    · have : ¬ ((p.1 : Int) = (k : Int)) := by omega
      simp [h, this]
  · simp [toI]
theorem look_I (c : TN) (k : Nat) : kdfLook (toI c) (k : Int) 0 = lookN c k := by
  unfold kdfLook lookN toI
  rw [List.find?_map]
  have e : ((fun p : Int × Int => decide (p.1 = (k : Int))) ∘ fun p : Nat × Int => ((p.1 : Int), p.2)) = fun p => p.1 == k := by
    funext p
    by_cases h : p.1 = k
    · simp [h]
    · have : ¬ ((p.1 : Int) = (k : Int)) := by omega
      simp [h, this]
  rw [e]
  cases c.find? fun p => p.1 == k <;> rfl
noncomputable def freeN (P : List Nat) (z : Nat) : List Nat := (List.range 5).filter fun j => !(P.any fun x => x == P.getD j 0 + z)
noncomputable abbrev cI (P : List Nat) : List Int := P.map fun k : Nat => (k : Int)
theorem getD_I (P : List Nat) (j : Nat) : (cI P).getD j 0 = ((P.getD j 0 : Nat) : Int) := by
  rw [List.getD_eq_getElem?_getD, List.getD_eq_getElem?_getD, List.getElem?_map]
  cases P[j]? <;> rfl
theorem free_I (P : List Nat) (z : Nat) : kfree (cI P) (z : Int) = cI (freeN P z) := by
  unfold kfree kfreeTo freeN rangeKs
  have e : ((List.range 5).map fun (k : Nat) => (0 : Int) + (k : Int)) = cI (List.range 5) := by
    refine List.map_congr_left fun k _ => ?_
    omega
  rw [e]
  unfold cI
  rw [List.filter_map]
  congr 1
  refine List.filter_congr fun j _ => ?_
  have e2 : (fun k : Nat => (k : Int)) = fun k : Nat => (k : Int) := rfl
  show (!(P.map fun k : Nat => (k : Int)).any fun x => x == (P.map fun k : Nat => (k : Int)).getD ((j : Int)).toNat 0 + (z : Int)) = _
  rw [Int.toNat_natCast, getD_I, List.any_map]
  congr 2
  funext x
  by_cases h : x = P.getD j 0 + z
  · simp [h]
  · have : ¬ ((x : Int) = ((P.getD j 0 : Nat) : Int) + (z : Int)) := by omega
    have h1 : (x == P.getD j 0 + z) = false := by simpa using h
    have h2 : ((x : Int) == ((P.getD j 0 : Nat) : Int) + (z : Int)) = false := by simpa using this
    simp only [Function.comp_apply]
    rw [h1, h2]
noncomputable def stepKN (P : List Nat) (z st : Nat) (v : Int) (c : TN) (k : Nat) : TN :=
  putN c (nx st (nx (2 ^ P.getD k 0) (2 ^ (P.getD k 0 + z))))
    (lookN c (nx st (nx (2 ^ P.getD k 0) (2 ^ (P.getD k 0 + z)))) + if ((P.drop (k + 1)).filter fun o => decide (o < P.getD k 0 + z)).length % 2 = 1 then -v else v)
theorem passed_I (P : List Nat) (k g : Nat) : passedOf (cI P) (k : Int) (g : Int) = (((P.drop (k + 1)).filter fun o => decide (o < g)).length : Int) := by
  unfold passedOf cI
  have e : ((k : Int) + 1).toNat = k + 1 := by omega
  rw [e, ← List.map_drop, List.filter_map, List.length_map]
  congr 2
  refine List.filter_congr fun o _ => ?_
  by_cases h : o < g
  · simp [h]
  · have : ¬ ((o : Int) < (g : Int)) := by omega
    simp [h, this]
theorem stepK_I (P : List Nat) (z st : Nat) (v : Int) (c : TN) (k : Nat) : stepK (cI P) (z : Int) (st : Int) v (toI c) (k : Int) = toI (stepKN P z st v c k) := by
  unfold stepK stepKN
  dsimp only
  rw [Int.toNat_natCast, getD_I]
  have e1 : ((P.getD k 0 : Nat) : Int) + (z : Int) = ((P.getD k 0 + z : Nat) : Int) := by omega
  rw [e1, Int.toNat_natCast, Int.toNat_natCast, passed_I]
  have e2 : ∀ n : Nat, (1 : Int) * 2 ^ n = ((2 ^ n : Nat) : Int) := fun n => by simp
  rw [e2, e2, nx_is, nx_is, look_I]
  have e3 : ∀ (n : Nat) (v : Int), (if (n : Int).fmod 2 = 1 then -v else v) = if n % 2 = 1 then -v else v := fun n v => by
    have : (n : Int).fmod 2 = ((n % 2 : Nat) : Int) := by rw [Int.fmod_eq_emod_of_nonneg _ (by decide)]; omega
    by_cases h : n % 2 = 1
    · rw [if_pos h, if_pos (by omega)]
    · rw [if_neg h, if_neg (by omega)]
  rw [e3, put_I]
noncomputable def stepSN (tab : TN) (z : Nat) (c : TN) (st : Nat) : Option TN :=
  if z ≤ 10 ∧ st < 1048576 ∧ c.length ≤ 1000 then
    if z = 0 then some (putN c (st * 8) (lookN tab st))
    else ((placesTab.find? fun p => p.1 == st).map fun p => p.2.1).map fun P => (freeN P z).foldl (stepKN P z st (lookN tab st)) c
  else none
theorem fold_I (P : List Nat) (z st : Nat) (v : Int) : ∀ (l : List Nat) (c : TN), (cI l).foldl (stepK (cI P) (z : Int) (st : Int) v) (toI c) = toI (l.foldl (stepKN P z st v) c)
  | [], _ => rfl
  | k :: l, c => by
    unfold cI
    rw [List.map_cons, List.foldl_cons, List.foldl_cons, stepK_I]
    exact fold_I P z st v l _
theorem stepS_I {tab c R : TN} {z st : Nat} (h : stepSN tab z c st = some R) : stepS (toI tab) (z : Int) (toI c) (st : Int) = some (toI R) := by
  unfold stepSN at h
  split at h
  case isFalse => cases h
  rename _ ∧ _ => hc
  unfold stepS
  rw [if_pos (by refine ⟨by omega, by omega, by omega, by omega, by unfold toI; rw [List.length_map]; exact hc.2.2⟩)]
  split at h
  · rename z = 0 => hz
    rw [if_pos (by omega), look_I]
    cases h
    have e : (st : Int) * 2 ^ 3 = ((st * 8 : Nat) : Int) := by omega
    rw [e, put_I]
  · rename ¬ z = 0 => hz
    rw [if_neg (by omega)]
    obtain ⟨P, hP, rfl⟩ := Option.map_eq_some_iff.mp h
    rw [tab_places hP, Option.bind_some, free_I, look_I, fold_I]
theorem stepTo_fold (tab : List (Int × Int)) (z : Int) : ∀ n, n ≤ tab.length → stepTo tab z n = (tab.take n).foldlM (fun c p => stepS tab z c p.1) []
  | 0, _ => by rw [List.take_zero]; rfl
  | n + 1, hn => by
    obtain ⟨p, hp⟩ : ∃ p, tab[n]? = some p := ⟨_, List.getElem?_eq_getElem hn⟩
    rw [stepTo, stepTo_fold tab z n (by omega), List.take_add_one, hp, List.foldlM_append]
    simp
theorem tblTo_fold (ns : List Int) : ∀ n, n ≤ ns.length → tblTo ns n = (ns.take n).foldlM (fun c z => if c.length ≤ 1000 then stepTo c z c.length else none) [(31, 1)]
  | 0, _ => by rw [List.take_zero]; rfl
  | n + 1, hn => by
    obtain ⟨p, hp⟩ : ∃ p, ns[n]? = some p := ⟨_, List.getElem?_eq_getElem hn⟩
    rw [tblTo, tblTo_fold ns n (by omega), List.take_add_one, hp, List.foldlM_append]
    simp
noncomputable def stepAllN (c : TN) (z : Nat) : Option TN := c.foldlM (fun m p => stepSN c z m p.1) []
noncomputable def tblN (ps : List Nat) : Option TN := ps.foldlM (fun c z => if c.length ≤ 1000 then stepAllN c z else none) [(31, 1)]
theorem foldlM_I {α β γ δ : Type} {f : γ → α → Option γ} {g : δ → β → Option δ} {r : γ → δ} {q : α → β} (h : ∀ c a R, f c a = some R → g (r c) (q a) = some (r R)) :
    ∀ (l : List α) (c R : γ), l.foldlM f c = some R → (l.map q).foldlM g (r c) = some (r R)
  | [], c, R, e => by cases e; rfl
  | a :: l, c, R, e => by
    rw [List.foldlM_cons] at e
    obtain ⟨c', h1, h2⟩ := Option.bind_eq_some_iff.mp e
    rw [List.map_cons, List.foldlM_cons]
    show (g (r c) (q a)).bind _ = _
    rw [h c a c' h1]
    exact foldlM_I h l c' R h2
theorem stepAll_I {c R : TN} {z : Nat} (h : stepAllN c z = some R) : stepTo (toI c) (z : Int) (toI c).length = some (toI R) := by
  rw [stepTo_fold _ _ _ (Nat.le_refl _), List.take_length]
  exact foldlM_I (r := toI) (q := fun p : Nat × Int => ((p.1 : Int), p.2)) (f := fun (m : TN) (p : Nat × Int) => stepSN c z m p.1) (g := fun (c' : List (Int × Int)) (p : Int × Int) => stepS (toI c) (z : Int) c' p.1) (fun m p R' h' => stepS_I h') c [] R h
theorem tbl_I {ps : List Nat} {R : TN} (h : tblN ps = some R) : tblTo (cI ps) (cI ps).length = some (toI R) := by
  rw [tblTo_fold _ _ (Nat.le_refl _), List.take_length]
  refine foldlM_I (r := toI) (q := fun k : Nat => (k : Int)) (f := fun (c : TN) (z : Nat) => if c.length ≤ 1000 then stepAllN c z else none) (g := fun (c : List (Int × Int)) (z : Int) => if c.length ≤ 1000 then stepTo c z c.length else none) (fun c z R' h' => ?_) ps [(31, 1)] R h
  split at h'
  · rename c.length ≤ 1000 => hc
    rw [if_pos (by unfold toI; rw [List.length_map]; exact hc)]
    exact stepAll_I h'
  · cases h'

/-- per sizes' counts the standings and their signed counts -/
noncomputable def baseT : List (List Nat × TN) := [
  ([0, 0, 0, 0, 1], [(61, -1), (91, 1), (151, -1), (271, 1)]),
  ([0, 1, 0, 1], [(61, 1), (103, -1), (271, 1)]),
  ([0, 0, 2], [(61, 1), (103, 2), (151, -1), (91, -1), (271, 1)]),
  ([0, 2, 1], [(61, -1), (91, -1), (151, 1), (271, 1)]),
  ([0, 4], [(61, 1), (91, 3), (103, 2), (151, 3), (271, 1)]),
  ([0, 0, 0, 0, 0, 1], [(62, 1), (93, -1), (155, 1), (279, -1), (527, 1)]),
  ([0, 1, 0, 0, 1], [(62, -1), (107, 1), (167, -1), (527, 1)]),
  ([0, 0, 1, 1], [(62, -1), (107, -1), (93, 1), (279, -1), (167, 1), (527, 1)]),
  ([0, 2, 0, 1], [(62, 1), (93, 1), (107, -1), (167, -1), (279, 1), (527, 1)]),
  ([0, 1, 2], [(62, 1), (107, 1), (167, 1), (155, -2), (527, 1)]),
  ([0, 3, 1], [(62, -1), (93, -2), (107, -1), (167, 1), (279, 2), (527, 1)]),
  ([0, 5], [(62, 1), (93, 4), (107, 5), (155, 6), (167, 5), (279, 4), (527, 1)])]
noncomputable def compsN : Nat → List (List Nat)
  | 0 => [[1]]
  | k + 1 => (compsN k).flatMap fun rs => [rs ++ [1], rs.set (rs.length - 1) (rs.getD (rs.length - 1) 0 + 1)]
noncomputable def pieceN (st bare : Nat) (rs : List Nat) : List Nat :=
  if st = 0 then List.replicate bare 0 ++ rs else if st = 1 then rs ++ List.replicate bare 0 else rs.take 1 ++ List.replicate bare 0 ++ rs.drop 1
noncomputable def bumpN (c : List Nat) (z : Nat) : List Nat := (c ++ List.replicate (z + 1 - c.length) 0).set z ((c ++ List.replicate (z + 1 - c.length) 0).getD z 0 + 1)
noncomputable def cntN (ps : List Nat) : List Nat := ps.foldl bumpN []
noncomputable def pieceOk (rs : List Nat) (st bare : Nat) : Bool :=
  match tblN (pieceN st bare rs), baseT.find? (fun e => e.1 == cntN rs) with
  | some R, some e => decide ((R.map (·.1)).Nodup) && (R.filter fun p => !(p.2 == 0)).isPerm (e.2.map fun p => (p.1 * 2 ^ (3 * bare), p.2)) && decide (R.length ≤ 1000) && (R.all fun p => decide (p.1 < 1048576) && decide (-1000 ≤ p.2) && decide (p.2 ≤ 1000)) &&
      (cntN (pieceN st bare rs) == e.1.set 0 bare) && ((pieceN st bare rs).all fun z => decide (z ≤ 5)) && decide ((pieceN st bare rs).length ≤ 9)
  | _, _ => false

theorem pieces_ok3 : ((compsN 3).all fun rs => (List.range 3).all fun st => (List.range 3).all fun bare => pieceOk rs st bare) = true := by decide +kernel
theorem pieces_a4 : (((compsN 4).take 4).all fun rs => (List.range 3).all fun st => (List.range 3).all fun bare => pieceOk rs st bare) = true := by decide +kernel
theorem pieces_b4 : (((compsN 4).drop 4).all fun rs => (List.range 3).all fun st => (List.range 3).all fun bare => pieceOk rs st bare) = true := by decide +kernel
theorem pieces_ok4 : ((compsN 4).all fun rs => (List.range 3).all fun st => (List.range 3).all fun bare => pieceOk rs st bare) = true := by
  rw [← List.take_append_drop 4 (compsN 4), List.all_append, pieces_a4, pieces_b4]
  rfl

noncomputable abbrev TI := List (Int × Int)
noncomputable def gK (c : TI) (k : Int) : Int := (c.map fun p => if p.1 = k then p.2 else 0).sum
noncomputable def sP (c e : TI) : Int := (c.map fun p => p.2 * gK e p.1).sum
theorem perm_sum {l l' : List Int} (h : l.Perm l') : l.sum = l'.sum := by
  induction h with
  | nil => rfl
  | cons a _ ih => rw [List.sum_cons, List.sum_cons, ih]
  | swap a b l => simp only [List.sum_cons]; omega
  | trans _ _ h1 h2 => exact h1.trans h2
theorem gK_perm {c c' : TI} (h : c.Perm c') (k : Int) : gK c k = gK c' k := perm_sum (h.map _)
theorem gK_nil (k : Int) : gK [] k = 0 := rfl
theorem gK_cons (p : Int × Int) (c : TI) (k : Int) : gK (p :: c) k = (if p.1 = k then p.2 else 0) + gK c k := by
  unfold gK; rw [List.map_cons, List.sum_cons]
theorem gK_none : ∀ {c : TI} {k : Int}, (∀ p ∈ c, p.1 ≠ k) → gK c k = 0
  | [], _, _ => rfl
  | p :: c, k, h => by
    rw [gK_cons, if_neg (h p (.head _)), gK_none fun q hq => h q (.tail _ hq)]
    rfl
theorem look_gK : ∀ {c : TI}, (c.map (·.1)).Nodup → ∀ k, kdfLook c k 0 = gK c k
  | [], _, _ => rfl
  | p :: c, hn, k => by
    rw [List.map_cons, List.nodup_cons] at hn
    rw [gK_cons]
    by_cases h : p.1 = k
    · have e : gK c k = 0 := gK_none fun q hq e => hn.1 (by rw [h, ← e]; exact List.mem_map_of_mem hq)
      rw [if_pos h, e]
      unfold kdfLook
      rw [List.find?_cons]
      simp [h]
    · rw [if_neg h, Int.zero_add, ← look_gK hn.2 k]
      unfold kdfLook
      rw [List.find?_cons]
      simp [h]
theorem look_self {c : TI} (hn : (c.map (·.1)).Nodup) {p : Int × Int} (hp : p ∈ c) : kdfLook c p.1 0 = p.2 := by
  induction c with
  | nil => cases hp
  | cons q c ih =>
    rw [List.map_cons, List.nodup_cons] at hn
    unfold kdfLook
    rw [List.find?_cons]
    rcases List.mem_cons.mp hp with rfl | hp
    · simp
    · have : q.1 ≠ p.1 := fun e => hn.1 (by rw [e]; exact List.mem_map_of_mem hp)
      have h2 := ih hn.2 hp
      unfold kdfLook at h2
      simp only [this, decide_false]
      exact h2
theorem prod_sP {c e : TI} (hc : (c.map (·.1)).Nodup) (he : (e.map (·.1)).Nodup) : prodOf c e = sP c e := by
  unfold prodOf sP
  congr 1
  refine List.map_congr_left fun p hp => ?_
  rw [look_self hc hp, look_gK he]
theorem sP_perm {c c' : TI} (h : c.Perm c') (e : TI) : sP c e = sP c' e := perm_sum (h.map _)
theorem sP_gK {e e' : TI} (h : ∀ k, gK e k = gK e' k) (c : TI) : sP c e = sP c e' := by
  unfold sP
  congr 1
  exact List.map_congr_left fun p _ => by rw [h]
noncomputable def nzI (c : TI) : TI := c.filter fun p => !(p.2 == 0)
theorem gK_nz : ∀ (c : TI) (k : Int), gK (nzI c) k = gK c k
  | [], _ => rfl
  | p :: c, k => by
    unfold nzI
    rw [List.filter_cons, gK_cons]
    have ih := gK_nz c k
    unfold nzI at ih
    by_cases h : p.2 = 0
    · simp only [h, beq_self_eq_true, Bool.not_true, Bool.false_eq_true, if_false]
      rw [ih]; split <;> simp
    · have : (!(p.2 == 0)) = true := by simpa using h
      rw [if_pos this, gK_cons, ih]
theorem sP_nz : ∀ (c e : TI), sP (nzI c) e = sP c e
  | [], _ => rfl
  | p :: c, e => by
    have ih := sP_nz c e
    unfold nzI sP at *
    rw [List.filter_cons]
    by_cases h : p.2 = 0
    · simp only [h, beq_self_eq_true, Bool.not_true, Bool.false_eq_true, if_false]
      rw [ih, List.map_cons, List.sum_cons, h]; simp
    · have : (!(p.2 == 0)) = true := by simpa using h
      rw [if_pos this, List.map_cons, List.sum_cons, ih, List.map_cons, List.sum_cons]
noncomputable def shI (s : Nat) (c : TI) : TI := c.map fun p => (p.1 * 2 ^ s, p.2)
theorem pow_pos' (s : Nat) : (0 : Int) < 2 ^ s := Int.pow_pos (by decide)
theorem mul_inj {a b : Int} {s : Nat} (h : a * 2 ^ s = b * 2 ^ s) : a = b := Int.eq_of_mul_eq_mul_right (Int.ne_of_gt (pow_pos' s)) h
theorem gK_sh (s : Nat) : ∀ (c : TI) (k : Int), gK (shI s c) (k * 2 ^ s) = gK c k
  | [], _ => rfl
  | p :: c, k => by
    have ih := gK_sh s c k
    unfold shI at *
    rw [List.map_cons, gK_cons, gK_cons, ih]
    by_cases h : p.1 = k
    · rw [if_pos h, if_pos (by rw [h])]
    · rw [if_neg h, if_neg fun e => h (mul_inj e)]
theorem sP_sh (s : Nat) (c e : TI) : sP (shI s c) (shI s e) = sP c e := by
  have e0 : ((shI s c).map fun p => p.2 * gK (shI s e) p.1) = c.map fun p => p.2 * gK e p.1 := by
    rw [show shI s c = c.map (fun p => (p.1 * 2 ^ s, p.2)) from rfl, List.map_map]
    refine List.map_congr_left fun p _ => ?_
    show p.2 * gK (shI s e) (p.1 * 2 ^ s) = _
    rw [gK_sh]
  unfold sP
  rw [e0]
theorem sP_apart {c e : TI} (h : ∀ p ∈ c, ∀ q ∈ e, q.1 ≠ p.1) : sP c e = 0 := by
  unfold sP
  have : (c.map fun p => p.2 * gK e p.1) = c.map fun _ => 0 := List.map_congr_left fun p hp => by rw [gK_none (h p hp), Int.mul_zero]
  rw [this]
  induction c with
  | nil => rfl
  | cons p c ih =>
    rw [List.map_cons, List.sum_cons, Int.zero_add]
    exact ih (fun q hq => h q (.tail _ hq)) (List.map_congr_left fun q hq => by rw [gK_none (h q (.tail _ hq)), Int.mul_zero])
theorem shI_shI (s t : Nat) (c : TI) : shI t (shI s c) = shI (s + t) c := by
  unfold shI
  rw [List.map_map]
  refine List.map_congr_left fun p _ => ?_
  show (p.1 * 2 ^ s * 2 ^ t, p.2) = _
  rw [Int.mul_assoc, ← Int.pow_add]
theorem nz_sh (s : Nat) (c : TI) : nzI (shI s c) = shI s (nzI c) := by
  unfold nzI shI
  rw [List.filter_map]
  rfl
theorem nodup_sh {s : Nat} {c : TI} (h : (c.map (·.1)).Nodup) : ((shI s c).map (·.1)).Nodup := by
  unfold shI
  rw [List.map_map]
  have e : ((fun p : Int × Int => p.1) ∘ fun p : Int × Int => (p.1 * 2 ^ s, p.2)) = (fun k : Int => k * 2 ^ s) ∘ fun p : Int × Int => p.1 := rfl
  rw [e, ← List.map_map]
  exact List.Pairwise.map _ (fun a b hab e => hab (mul_inj e)) h
theorem put_new {c : TI} {k v : Int} (h : ∀ p ∈ c, p.1 ≠ k) : kdfPut c k v = c ++ [(k, v)] := by
  unfold kdfPut
  rw [if_neg]
  intro e
  obtain ⟨p, hp, hk⟩ := List.any_eq_true.mp e
  exact h p hp (of_decide_eq_true hk)
theorem shift_is {R : TI} (hn : (R.map (·.1)).Nodup) (b : Nat) : ∀ i, i ≤ R.length → shiftTo R (b : Int) i = shI b (R.take i)
  | 0, _ => by rw [List.take_zero]; rfl
  | i + 1, hi => by
    obtain ⟨p, hp⟩ : ∃ p, R[i]? = some p := ⟨_, List.getElem?_eq_getElem hi⟩
    rw [shiftTo, hp, shift_is hn b i (by omega), List.take_add_one, hp]
    dsimp only
    rw [look_self hn (List.mem_of_getElem? hp), Int.toNat_natCast, put_new]
    · simp [shI]
    · intro q hq e
      unfold shI at hq
      obtain ⟨r, hr, rfl⟩ := List.mem_map.mp hq
      have e2 : r.1 = p.1 := mul_inj e
      obtain ⟨j, hj⟩ := List.mem_iff_getElem?.mp hr
      have hjl : j < i := by
        rcases Nat.lt_or_ge j i with h | h
        · exact h
        · rw [List.getElem?_take_eq_none (by omega)] at hj
          cases hj
      rw [List.getElem?_take_of_lt hjl] at hj
      have e3 : (R.map (·.1))[j]? = (R.map (·.1))[i]? := by rw [List.getElem?_map, List.getElem?_map, hj, hp]; simp [e2]
      have := (List.getElem?_inj (by rw [List.length_map]; omega) hn).mp e3
      omega
theorem nodup_I {R : TN} (h : (R.map (·.1)).Nodup) : ((toI R).map (·.1)).Nodup := by
  unfold toI
  rw [List.map_map]
  have e : ((fun p : Int × Int => p.1) ∘ fun p : Nat × Int => ((p.1 : Int), p.2)) = (fun k : Nat => (k : Int)) ∘ fun p : Nat × Int => p.1 := rfl
  rw [e, ← List.map_map]
  exact List.Pairwise.map _ (fun a b hab e => hab (by omega)) h
theorem nz_I (R : TN) : nzI (toI R) = toI (R.filter fun p => !(p.2 == 0)) := by
  unfold nzI toI
  rw [List.filter_map]
  rfl
theorem sh_I (s : Nat) (R : TN) : shI s (toI R) = toI (R.map fun p => (p.1 * 2 ^ s, p.2)) := by
  unfold shI toI
  rw [List.map_map, List.map_map]
  refine List.map_congr_left fun p _ => ?_
  simp

noncomputable def plainC (bare : Nat) : List Nat := cntN (List.replicate bare 0)
noncomputable def keysU : List Nat := [61, 62, 91, 93, 103, 107, 151, 155, 167, 271, 279, 527]
theorem b1 : (baseT.all fun e => baseT.all fun f => decide (sP (toI e.2) (toI f.2) = 0 ↔ e.1 ≠ f.1)) = true := by decide +kernel
theorem b2 : (baseT.all fun e => (List.range 3).all fun n => decide (0 < (cI (e.1.set 0 n)).length) && decide ((cI (e.1.set 0 n)).length ≤ 20) && decide (oftTo (cI (e.1.set 0 n)) ((cI (e.1.set 0 n)).length - 1) = some (sP (toI e.2) (toI e.2)))) = true := by decide +kernel
theorem b3a : (baseT.all fun e => e.2.all fun p => keysU.contains p.1) = true := by decide +kernel
theorem b3b : (keysU.all fun k => keysU.all fun l => (List.range 9).all fun s => (List.range 9).all fun t => decide (k * 2 ^ s = l * 2 ^ t → s = t)) = true := by decide +kernel
theorem b4 : (baseT.all fun e => baseT.all fun f => (List.range 3).all fun n => (List.range 3).all fun m => decide (e.1.set 0 n = f.1.set 0 m ↔ (e.1 = f.1 ∧ n = m))) = true := by decide +kernel
theorem b5 : (baseT.all fun e => (List.range 3).all fun n => (List.range 3).all fun m => decide (e.1.set 0 n ≠ plainC m)) = true := by decide +kernel
theorem b6 : ((List.range 3).all fun n => (List.range 3).all fun m => decide (plainC n = plainC m ↔ n = m)) = true := by decide +kernel
theorem b7 : (baseT.all fun e => baseT.all fun f => decide (e.1 = f.1 → e = f)) = true := by decide +kernel
theorem cI_inj : ∀ {a b : List Nat}, cI a = cI b → a = b
  | [], [], _ => rfl
  | [], _ :: _, h => nomatch h
  | _ :: _, [], h => nomatch h
  | x :: a, y :: b, h => by
    unfold cI at h
    rw [List.map_cons, List.map_cons] at h
    injection h with h1 h2
    rw [cI_inj h2, Int.ofNat.inj h1]

-- what the scan of a lead's text counts
theorem scan_fold (pre : List Nat) : ∀ n, n ≤ pre.length → scanTo pre n = (pre.take n).foldl scanStep ⟨[], 0, 0, 0⟩
  | 0, _ => by rw [List.take_zero]; rfl
  | n + 1, hn => by
    obtain ⟨p, hp⟩ : ∃ p, pre[n]? = some p := ⟨_, List.getElem?_eq_getElem hn⟩
    rw [scanTo_step hp, scan_fold pre n (by omega), List.take_add_one, hp, List.foldl_append]
    rfl
theorem scan_blanks : ∀ (m : Nat) (c : Scan), ((List.replicate m 32).foldl scanStep c).count = c.count ∧ ((List.replicate m 32).foldl scanStep c).b = c.b + (m : Int)
  | 0, c => ⟨rfl, by show c.b = c.b + 0; omega⟩
  | m + 1, c => by
    rw [List.replicate_succ, List.foldl_cons]
    obtain ⟨h1, h2⟩ := scan_blanks m (scanStep c 32)
    have e : scanStep c 32 = { c with n := c.n + 1, b := c.b + 1 } := by rw [scanStep, if_pos rfl]
    rw [h1, h2, e]
    refine ⟨rfl, ?_⟩
    show c.b + 1 + (m : Int) = c.b + ((m + 1 : Nat) : Int)
    omega
theorem grow_I (c : List Nat) (z : Nat) : growTo (cI c) (z : Int) = cI (c ++ List.replicate (z + 1 - c.length) 0) := by
  unfold growTo cI
  rw [List.length_map, List.map_append, List.map_replicate]
  by_cases h : (c.length : Int) ≤ (z : Int)
  · rw [if_pos h]
    have e : ((z : Int) - (c.length : Int) + 1).toNat = z + 1 - c.length := by omega
    rw [e]
    congr 1
    generalize z + 1 - c.length = k
    induction k with
    | zero => rfl
    | succ k ih => rw [List.replicate_succ, List.flatten_cons, ih, List.replicate_succ]; rfl
  · rw [if_neg h]
    have e : z + 1 - c.length = 0 := by omega
    rw [e, List.replicate_zero, List.append_nil]
theorem bump_I (c : List Nat) (z : Nat) : (growTo (cI c) (z : Int)).set (z : Int).toNat ((growTo (cI c) (z : Int)).getD (z : Int).toNat 0 + 1) = cI (bumpN c z) := by
  rw [grow_I, Int.toNat_natCast, getD_I]
  unfold bumpN cI
  rw [List.map_set]
  rfl
theorem scan_piece (z : Nat) (c : List Nat) (s : Scan) (hc : s.count = cI c) (hb : s.b = 0) : ((List.replicate z 32 ++ [9]).foldl scanStep s).count = cI (bumpN c z) ∧ ((List.replicate z 32 ++ [9]).foldl scanStep s).b = 0 := by
  rw [List.foldl_append]
  obtain ⟨h1, h2⟩ := scan_blanks z s
  generalize (List.replicate z 32).foldl scanStep s = s' at h1 h2
  have e : [9].foldl scanStep s' = scanStep s' 9 := rfl
  have e2 : s'.b = (z : Int) := by rw [h2, hb]; omega
  rw [e, scanStep, if_neg (by decide), h1, hc, e2]
  exact ⟨bump_I c z, rfl⟩
theorem scan_pieces : ∀ (ps : List Nat) (c : List Nat) (s : Scan), s.count = cI c → s.b = 0 → ((encP (cI ps)).foldl scanStep s).count = cI (ps.foldl bumpN c) ∧ ((encP (cI ps)).foldl scanStep s).b = 0
  | [], c, s, hc, hb => ⟨hc, hb⟩
  | z :: ps, c, s, hc, hb => by
    have e : encP (cI (z :: ps)) = (List.replicate z 32 ++ [9]) ++ encP (cI ps) := by simp [encP, cI]
    rw [e, List.foldl_append]
    obtain ⟨h1, h2⟩ := scan_piece z c s hc hb
    exact scan_pieces ps (bumpN c z) _ h1 h2
theorem norm_I (ps : List Nat) (b : Nat) : normL (cI ps, (b : Int)) = (cI (cntN ps), (b : Int)) := by
  have h0 := scan_fold (encL (cI ps, (b : Int))) _ (Nat.le_refl _)
  rw [List.take_length] at h0
  unfold normL
  rw [h0]
  unfold encL
  dsimp only
  rw [List.foldl_append, Int.toNat_natCast]
  obtain ⟨h1, h2⟩ := scan_pieces ps [] ⟨[], 0, 0, 0⟩ rfl rfl
  obtain ⟨h3, h4⟩ := scan_blanks b ((encP (cI ps)).foldl scanStep ⟨[], 0, 0, 0⟩)
  rw [h3, h4, h1, h2]
  refine Prod.ext rfl ?_
  show (0 : Int) + (b : Int) = (b : Int)
  omega
theorem plain_I (n b : Nat) : plainL ((n : Int), (b : Int)) = (cI (plainC n), (b : Int)) := by
  unfold plainL plainC
  rw [← norm_I]
  simp [cI]

/-- a lead of the law's kind, its class -/
structure Lead (q : List Int × Int) (g : Int × Int) (e : List Nat × TN) (bare b : Nat) : Prop where
  base : e ∈ baseT
  bare3 : bare < 3
  b3 : b < 3
  end_is : g = ((bare : Int), (b : Int))
  b_is : q.2 = (b : Int)
  sizes : ∀ z ∈ q.1, 0 ≤ z ∧ z ≤ 5
  len : q.1.length ≤ 9
  table : ∃ R, tblTo q.1 q.1.length = some R ∧ small R = true
  low : lowB (tabOf q) = true
  nodup : ((tabOf q).map (·.1)).Nodup
  gK_is : ∀ k, gK (tabOf q) k = gK (shI (3 * bare + b) (toI e.2)) k
  sP_is : ∀ c, sP (tabOf q) c = sP (shI (3 * bare + b) (toI e.2)) c
  norm : normL q = (cI (e.1.set 0 bare), (b : Int))
theorem toI_perm {R R' : TN} (h : R.Perm R') : (toI R).Perm (toI R') := h.map _
theorem lead_of {rs : List Nat} {st bare b : Nat} (h : pieceOk rs st bare = true) (h1 : bare < 3) (h2 : b < 3) : ∃ e, Lead (cI (pieceN st bare rs), (b : Int)) ((bare : Int), (b : Int)) e bare b := by
  unfold pieceOk at h
  split at h
  case h_2 => cases h
  rename_i R e hR he
  simp only [Bool.and_eq_true, decide_eq_true_eq, beq_iff_eq] at h
  obtain ⟨⟨⟨⟨⟨⟨hn, hp⟩, hl⟩, ha⟩, hc⟩, hz⟩, hlen⟩ := h
  have hp := List.isPerm_iff.mp hp
  have hT := tbl_I hR
  have hnI := nodup_I hn
  have hlI : (toI R).length = R.length := by unfold toI; rw [List.length_map]
  have htab : tabOf (cI (pieceN st bare rs), (b : Int)) = shI b (toI R) := by
    unfold tabOf
    dsimp only
    rw [hT]
    dsimp only
    rw [shift_is hnI b _ (Nat.le_refl _), List.take_length]
  have hperm : (nzI (shI b (toI R))).Perm (shI (3 * bare + b) (toI e.2)) := by
    rw [nz_sh, nz_I, ← shI_shI, sh_I (3 * bare)]
    exact (toI_perm hp).map _
  have ha := List.all_eq_true.mp ha
  refine ⟨e, ⟨List.mem_of_find?_eq_some he, h1, h2, rfl, rfl, ?_, ?_, ⟨_, hT, ?_⟩, ?_, ?_, fun k => ?_, fun c => ?_, ?_⟩⟩
  · intro z hzm
    obtain ⟨y, hy, rfl⟩ := List.mem_map.mp hzm
    have := of_decide_eq_true (List.all_eq_true.mp hz y hy)
    omega
  · show (cI _).length ≤ 9
    rw [List.length_map]; exact hlen
  · unfold small
    rw [Bool.and_eq_true]
    refine ⟨decide_eq_true (by rw [hlI]; exact hl), List.all_eq_true.mpr fun p hpm => ?_⟩
    obtain ⟨y, hy, rfl⟩ := List.mem_map.mp hpm
    have := ha y hy
    simp only [Bool.and_eq_true, decide_eq_true_eq] at this
    rw [Bool.and_eq_true]
    exact ⟨decide_eq_true (by show (0 : Int) ≤ (y.1 : Int); omega), decide_eq_true (by show (y.1 : Int) < 1048576; omega)⟩
  · rw [htab]
    unfold lowB
    rw [Bool.and_eq_true]
    refine ⟨decide_eq_true (by unfold shI; rw [List.length_map, hlI]; exact hl), List.all_eq_true.mpr fun p hpm => ?_⟩
    obtain ⟨y', hy', rfl⟩ := List.mem_map.mp hpm
    obtain ⟨y, hy, rfl⟩ := List.mem_map.mp hy'
    have := ha y hy
    simp only [Bool.and_eq_true, decide_eq_true_eq] at this
    rw [Bool.and_eq_true]
    exact ⟨decide_eq_true this.1.2, decide_eq_true this.2⟩
  · rw [htab]
    exact nodup_sh hnI
  · rw [htab, ← gK_nz]
    exact gK_perm hperm k
  · rw [htab, ← sP_nz]
    exact sP_perm hperm c
  · rw [norm_I, hc]

theorem all2 {α β : Type} {l : List α} {m : List β} {f : α → β → Bool} (h : (l.all fun x => m.all fun y => f x y) = true) {x : α} {y : β} (hx : x ∈ l) (hy : y ∈ m) : f x y = true := List.all_eq_true.mp (List.all_eq_true.mp h x hx) y hy
theorem pair_check {x y : List Int × Int} {g h : Int × Int} {e f : List Nat × TN} {n b m c : Nat} (X : Lead x g e n b) (Y : Lead y h f m c) : Check (tabOf x) (tabOf y) (normL x) (normL y) (plainL g) (plainL h) g h := by
  have rn : n ∈ List.range 3 := List.mem_range.mpr X.bare3
  have rm : m ∈ List.range 3 := List.mem_range.mpr Y.bare3
  have hb := X.b3
  have hc := Y.b3
  have hn := X.bare3
  have hm := Y.bare3
  have hprod : prodOf (tabOf x) (tabOf y) = sP (shI (3 * n + b) (toI e.2)) (shI (3 * m + c) (toI f.2)) := by
    rw [prod_sP X.nodup Y.nodup, X.sP_is, sP_gK Y.gK_is]
  have B1 := of_decide_eq_true (all2 b1 X.base Y.base)
  have B4 := of_decide_eq_true (List.all_eq_true.mp (List.all_eq_true.mp (all2 b4 X.base Y.base) n rn) m rm)
  have B5 := of_decide_eq_true (List.all_eq_true.mp (all2 b5 X.base rn) m rm)
  have B6 := of_decide_eq_true (all2 b6 rn rm)
  have B7 := of_decide_eq_true (all2 b7 X.base Y.base)
  have hnorm : normL x = normL y ↔ (e.1 = f.1 ∧ n = m) ∧ b = c := by
    rw [X.norm, Y.norm]
    constructor
    · intro q
      have q1 := congrArg Prod.fst q
      have q2 := congrArg Prod.snd q
      dsimp only at q1 q2
      exact ⟨B4.mp (cI_inj q1), by omega⟩
    · rintro ⟨q1, rfl⟩
      rw [B4.mpr q1]
  have hzero : prodOf (tabOf x) (tabOf y) = 0 ↔ normL x ≠ normL y := by
    rw [hprod]
    by_cases hs : 3 * n + b = 3 * m + c
    · have e1 : n = m := by omega
      have e2 : b = c := by omega
      rw [hs, sP_sh, B1]
      constructor
      · intro q r
        exact q (hnorm.mp r).1.1
      · intro q r
        exact q (hnorm.mpr ⟨⟨r, e1⟩, e2⟩)
    · constructor
      · intro _ r
        obtain ⟨⟨_, r1⟩, r2⟩ := hnorm.mp r
        omega
      · intro _
        refine sP_apart fun p hp q hq r => hs ?_
        obtain ⟨p', hp', rfl⟩ := List.mem_map.mp hp
        obtain ⟨q', hq', rfl⟩ := List.mem_map.mp hq
        obtain ⟨u, hu, rfl⟩ := List.mem_map.mp hp'
        obtain ⟨v, hv, rfl⟩ := List.mem_map.mp hq'
        have ku : u.1 ∈ keysU := List.contains_iff_mem.mp (List.all_eq_true.mp (List.all_eq_true.mp b3a e X.base) u hu)
        have kv : v.1 ∈ keysU := List.contains_iff_mem.mp (List.all_eq_true.mp (List.all_eq_true.mp b3a f Y.base) v hv)
        have := of_decide_eq_true (List.all_eq_true.mp (List.all_eq_true.mp (all2 b3b kv ku) (3 * m + c) (List.mem_range.mpr (by omega))) (3 * n + b) (List.mem_range.mpr (by omega)))
        dsimp only at r
        have r2 : v.1 * 2 ^ (3 * m + c) = u.1 * 2 ^ (3 * n + b) := by
          have : ((v.1 * 2 ^ (3 * m + c) : Nat) : Int) = ((u.1 * 2 ^ (3 * n + b) : Nat) : Int) := by
            rw [Int.natCast_mul, Int.natCast_mul, Int.natCast_pow, Int.natCast_pow]
            exact r
          omega
        exact (this r2).symm
  refine ⟨X.low, Y.low, ?_, ?_, hzero, fun hp => ?_⟩
  · rw [X.end_is, Y.end_is, plain_I, plain_I]
    constructor
    · intro q
      have q1 := B6.mp (cI_inj (congrArg Prod.fst q))
      have q2 := congrArg Prod.snd q
      dsimp only at q2
      rw [q1, q2]
    · intro q
      have q1 := congrArg Prod.fst q
      have q2 := congrArg Prod.snd q
      dsimp only at q1 q2
      have : n = m := by omega
      rw [this, q2]
  · rw [X.norm, Y.end_is, plain_I]
    intro q
    exact B5 (cI_inj (congrArg Prod.fst q))
  · have hq : normL x = normL y := Decidable.byContradiction fun r => hp (hzero.mpr r)
    obtain ⟨⟨r1, r2⟩, r3⟩ := hnorm.mp hq
    have ef := B7 r1
    have B2 := all2 b2 X.base rn
    simp only [Bool.and_eq_true, decide_eq_true_eq] at B2
    have hpe : prodOf (tabOf x) (tabOf y) = sP (toI e.2) (toI e.2) := by
      rw [hprod, ← ef, ← r2, ← r3, sP_sh]
    rw [X.norm, hpe]
    exact ⟨B2.1.1, B2.1.2, B2.2⟩

theorem runs_mem (n : Int) : ∀ k, ∃ rs ∈ compsN k, runsTo n k = cI rs
  | 0 => ⟨[1], .head _, rfl⟩
  | k + 1 => by
    obtain ⟨rs, hrs, e⟩ := runs_mem n k
    rw [runsTo, e, runStep]
    by_cases h : (n.fdiv (2 ^ k)).fmod 2 = 1
    · rw [if_pos h]
      exact ⟨rs ++ [1], List.mem_flatMap.mpr ⟨rs, hrs, .head _⟩, by simp [cI]⟩
    · rw [if_neg h]
      refine ⟨rs.set (rs.length - 1) (rs.getD (rs.length - 1) 0 + 1), List.mem_flatMap.mpr ⟨rs, hrs, .tail _ (.head _)⟩, ?_⟩
      have e1 : (cI rs).length = rs.length := by unfold cI; rw [List.length_map]
      rw [e1, getD_I]
      unfold cI
      rw [List.map_set]
      rfl
theorem tot_cases (d2 : Int) : totOf d2 = 3 ∨ totOf d2 = 4 := by
  have h0 := Int.fmod_nonneg_of_pos (d2.fdiv 64) (show (0 : Int) < 2 by decide)
  have h1 := Int.fmod_lt_of_pos (d2.fdiv 64) (show (0 : Int) < 2 by decide)
  unfold totOf
  omega
theorem tot3_cases (d2 : Int) : tot3 d2 = 3 ∨ tot3 d2 = 4 := by
  have h0 := Int.fmod_nonneg_of_pos (d2.fdiv 128) (show (0 : Int) < 2 by decide)
  have h1 := Int.fmod_lt_of_pos (d2.fdiv 128) (show (0 : Int) < 2 by decide)
  unfold tot3
  omega
theorem turned3 : ((compsN 3).all fun rs => (compsN 3).contains rs.reverse && (compsN 3).contains (rs.drop 1 ++ rs.take 1)) = true := by decide +kernel
theorem turned4 : ((compsN 4).all fun rs => (compsN 4).contains rs.reverse && (compsN 4).contains (rs.drop 1 ++ rs.take 1)) = true := by decide +kernel
theorem turned {k : Nat} (hk : k = 3 ∨ k = 4) {rs : List Nat} (h : rs ∈ compsN k) : rs.reverse ∈ compsN k ∧ rs.drop 1 ++ rs.take 1 ∈ compsN k := by
  rcases hk with rfl | rfl
  · have := List.all_eq_true.mp turned3 rs h
    rw [Bool.and_eq_true] at this
    exact ⟨List.contains_iff_mem.mp this.1, List.contains_iff_mem.mp this.2⟩
  · have := List.all_eq_true.mp turned4 rs h
    rw [Bool.and_eq_true] at this
    exact ⟨List.contains_iff_mem.mp this.1, List.contains_iff_mem.mp this.2⟩
theorem second_mem (d0 d1 d2 : Int) : ∃ rs ∈ compsN (totOf d2), secondOf d0 d1 d2 = cI rs := by
  obtain ⟨rs, hrs, e⟩ := runs_mem d0 (totOf d2)
  obtain ⟨t1, t2⟩ := turned (tot_cases d2) hrs
  unfold secondOf
  split
  · exact runs_mem _ _
  split
  · exact ⟨_, t1, by rw [e]; simp [cI]⟩
  · exact ⟨_, t2, by rw [e]; simp [cI]⟩
theorem lead_any {k : Nat} (hk : k = 3 ∨ k = 4) {rs : List Nat} (h : rs ∈ compsN k) {st n b : Nat} (h0 : st < 3) (h1 : n < 3) (h2 : b < 3) : ∃ e, Lead (cI (pieceN st n rs), (b : Int)) ((n : Int), (b : Int)) e n b := by
  refine lead_of ?_ h1 h2
  rcases hk with rfl | rfl
  · exact List.all_eq_true.mp (List.all_eq_true.mp (List.all_eq_true.mp pieces_ok3 rs h) st (List.mem_range.mpr h0)) n (List.mem_range.mpr h1)
  · exact List.all_eq_true.mp (List.all_eq_true.mp (List.all_eq_true.mp pieces_ok4 rs h) st (List.mem_range.mpr h0)) n (List.mem_range.mpr h1)
theorem zeros_I (n : Nat) : zerosOf (n : Int) = cI (List.replicate n 0) := by
  unfold zerosOf cI
  rw [Int.toNat_natCast, List.map_replicate]
  induction n with
  | zero => rfl
  | succ k ih => rw [List.replicate_succ, List.flatten_cons, ih, List.replicate_succ]; rfl
theorem nat_of {z : Int} (h : 0 ≤ z ∧ z < 3) : ∃ n : Nat, n < 3 ∧ z = (n : Int) := ⟨z.toNat, by omega, by omega⟩
theorem leads_ok (d0 d1 d2 : Int) {i : Nat} {x : List Int × Int} {g : Int × Int} (hx : (leadsL d0 d1 d2)[i]? = some x) (hg : (endsL d0 d1 d2)[i]? = some g) : ∃ e n b, Lead x g e n b := by
  obtain ⟨n1, hn1, e1⟩ := nat_of (bareOf_bd d0)
  obtain ⟨n2, hn2, e2⟩ := nat_of (behOf_bd d0)
  obtain ⟨n3, hn3, e3⟩ := nat_of (laterOf_bd d0 d1)
  obtain ⟨n4, hn4, e4⟩ := nat_of (barerOf_bd d0 d2)
  unfold leadsL at hx
  unfold endsL at hg
  match i, hx, hg with
  | 0, hx, hg =>
    cases hx; cases hg
    obtain ⟨rs, hrs, er⟩ := runs_mem d0 (totOf d2)
    obtain ⟨e, L⟩ := lead_any (tot_cases d2) hrs (st := 0) (by decide) hn1 hn2
    refine ⟨e, n1, n2, ?_⟩
    have : lead1 d0 d2 = cI (pieceN 0 n1 rs) := by unfold lead1 pieceN; rw [e1, er, zeros_I]; simp [cI]
    rw [this, e1, e2]
    exact L
  | 1, hx, hg =>
    cases hx; cases hg
    obtain ⟨rs, hrs, er⟩ := second_mem d0 d1 d2
    obtain ⟨e, L⟩ := lead_any (tot_cases d2) hrs (st := 1) (by decide) hn1 hn3
    refine ⟨e, n1, n3, ?_⟩
    have : lead2 d0 d1 d2 = cI (pieceN 1 n1 rs) := by unfold lead2 pieceN; rw [e1, er, zeros_I]; simp [cI]
    rw [this, e1, e3]
    exact L
  | 2, hx, hg =>
    cases hx; cases hg
    obtain ⟨rs, hrs, er⟩ := runs_mem d2 (tot3 d2)
    obtain ⟨e, L⟩ := lead_any (tot3_cases d2) hrs (st := 2) (by decide) hn4 hn2
    refine ⟨e, n4, n2, ?_⟩
    have : lead3 d0 d2 = cI (pieceN 2 n4 rs) := by unfold lead3 pieceN; rw [e4, er, zeros_I]; simp [cI]
    rw [this, e4, e2]
    exact L
  | n + 3, hx, _ => cases hx
section
variable {prog : Program} {w : World} {p : Program} {loose : List Str} {mean : ExcName → Option Value} {mg mb : Str → Option Value}
  {dp un : Nat} {gd : Option (List Code)} {a : Addr} {ccd : Value} {outer : List Env} {A₀ : Around} {base h₀ : Heap} {L : Addr} {s : Shared} {Q : Flow → Shared → Prop} {E : Value → Shared → Prop}
theorem law_walk (lsc : Addr) (vs : List Value) (ns : List Int) (ob oa ot osc : Obj) (hL : h₀.IsList lsc vs.toArray) (hI : IntsAre vs ns) (hlen : ns.length ≤ 63)
    (B : Below A₀ base outer h₀) (F : Fr h₀ L s.heap (fun _ => none)) (X : (hd.heap_39 w.params).In h₀) (N : News h₀ L s.heap [(L + 1 + 1 + 1 + 1, ob), (L + 1 + 1 + 1, oa), (L + 1 + 1, ot), (L + 1, osc)])
    (db : ob.data = .cell none) (da : oa.data = .cell none) (dt : ot.data = .cell none) (dsc : osc.data = .cell (some (.ref lsc))) (T : Top p loose mean mg mb h₀)
    (hd : dp + 10 < recursionLimit) (hu : un + 200 < cLine)
    (hPE : PassesOwn (model prog w) (ktrTop dp un gd (Str.ofString "law") lawScope L a ccd (lawCells L) outer) (envX (Str.ofString "law") lawScope L a ccd (lawCells L)) E)
    (hret : ∀ (h' : Heap) (tk' : Nat) (m' : Str → Option Value), Fr h₀ L h' m' → Q (.ret (.bool true)) { s with heap := h', toks := tk' }) :
    wpAny (model prog w) (ktrTop dp un gd (Str.ofString "law") lawScope L a ccd (lawCells L) outer) (execs lawBody (envX (Str.ofString "law") lawScope L a ccd (lawCells L))) Q E s := by
  refine law_p1 lsc vs ns ob oa ot osc hL hI hlen B F X N db da dt dsc T hd hu fun D ys d0 d1 d2 h1 tk1 hys h0' h1' h2' F1 N1 l1 => ?_
  refine law_p2 (s := { s with heap := h1, toks := tk1 }) ob oa ot osc D ys d0 d1 d2 hys h0' h1' h2' l1 B F1 X N1 T hd hu fun lf ls lt vf v2 vt nf n2 nt pD u1 u2 u3 u4 u5 vtot h2 tk2 hf hs ht F2 N2 => ?_
  refine law_p3 (s := { s with heap := h2, toks := tk2 }) ob oa ot osc D d0 d1 d2 lf ls lt vf v2 vt nf n2 nt pD u1 u2 u3 u4 u5 vtot hf hs ht B F2 X N2 T hd hu fun tl ld le m₁ h3 tk3 F3 N3 c3 hld hle => ?_
  have hlead : ∀ q ∈ leadsL d0 d1 d2, ∃ g e n b, Lead q g e n b := by
    intro q hq
    obtain ⟨i, hi⟩ := List.mem_iff_getElem?.mp hq
    have hi3 : i < 3 := (List.getElem?_eq_some_iff.mp hi).1
    obtain ⟨g, hg⟩ : ∃ g, (endsL d0 d1 d2)[i]? = some g := ⟨_, List.getElem?_eq_getElem (l := endsL d0 d1 d2) hi3⟩
    obtain ⟨e, n, b, h⟩ := leads_ok d0 d1 d2 hi hg
    exact ⟨g, e, n, b, h⟩
  refine law_p4 (s := { s with heap := h3, toks := tk3 }) ob oa ot osc (leadsL d0 d1 d2) rfl (fun q hq => ?_) db da dt dsc tl ld le m₁ c3 hld B F3 X N3 T hd hu fun tl4 lt4 y4 n4 ot4 h4 tk4 dt4 s4 c4 m4 T4 F4 N4 => ?_
  · obtain ⟨g, e, n, b, h⟩ := hlead q hq
    have hb := h.b3
    rw [h.b_is]
    exact ⟨h.table, by omega, by omega⟩
  refine law_p5 (s := { s with heap := h4, toks := tk4 }) _ _ _ _ (leadsL d0 d1 d2) rfl (fun q hq => ?_) tl4 ld le m₁ c4 (hld.mono s4) B F4 X N4 T hd hu fun tl5 lw y5 n5 h5 tk5 s5 c5 m5 W5 F5 N5 => ?_
  · obtain ⟨g, e, n, b, h⟩ := hlead q hq
    have hb := h.b3
    rw [h.b_is]
    exact ⟨h.sizes, h.len, by omega, by omega⟩
  refine law_p6 (s := { s with heap := h5, toks := tk5 }) _ _ _ _ (endsL d0 d1 d2) rfl (fun q hq => ?_) tl5 lw le (fun y => if y = Str.ofString "leads" then some (.ref ld) else m₁ y) c5 ((hle.mono s4).mono s5) B F5 X N5 T hd hu fun tl6 lp y6 n6 h6 tk6 s6 c6 m6 W6 F6 N6 => ?_
  · have z1 := bareOf_bd d0
    have z2 := behOf_bd d0
    have z3 := laterOf_bd d0 d1
    have z4 := barerOf_bd d0 d2
    unfold endsL at hq
    simp only [List.mem_cons, List.not_mem_nil, or_false] at hq
    rcases hq with rfl | rfl | rfl
    · dsimp only; omega
    · dsimp only; omega
    · dsimp only; omega
  refine law_p7 (s := { s with heap := h6, toks := tk6 }) ob oa ot4 osc (leadsL d0 d1 d2) (endsL d0 d1 d2) rfl rfl (fun i k x y g h _ hx hy hg hh => ?_) lt4 y4 n4 db da dt4 dsc tl6 lp lw le y6 y5 n6 n5 _ c6 (((hle.mono s4).mono s5).mono s6) (s6 _ (s5 _ m4)) ?_ (s6 _ m5) ?_ m6 W6 B F6 X N6 T hd hu hPE fun h' tk' m' F' => hret h' tk' m' F'
  · obtain ⟨e1, n1, b1, X1⟩ := leads_ok d0 d1 d2 hx hg
    obtain ⟨e2, n2, b2, Y1⟩ := leads_ok d0 d1 d2 hy hh
    exact pair_check X1 Y1
  · obtain ⟨rs, q1, q2, q3⟩ := T4
    refine ⟨rs, q1, q2, fun j r hj => ?_⟩
    obtain ⟨q, hq, ht⟩ := q3 j r hj
    exact ⟨q, hq, ht.mono fun p hp => s6 _ (s5 _ hp)⟩
  · obtain ⟨rs, q1, q2, q3⟩ := W5
    refine ⟨rs, q1, q2, fun j r hj => ?_⟩
    obtain ⟨q, hq, ht⟩ := q3 j r hj
    exact ⟨q, hq, ht.mono s6⟩
end
theorem law_holds : PySem.Challenge.rw_wj0031_01.Holds := hdT (by
  k_go0
  all_goals (try k_fold)
  rename_i w s₀ s₁ mg mb G Y fa o pm doc ho hg KX X V GL T B TE TW wm om M wc wd hcd ns hs hlay0 hL0 hr0 hl2 a1 a2 lsc vs a6 hL ra w1 r0 hI hr hcond1 hcond2 K0 hD h1 tk1 F ob oa ot osc db da dt dsc N0 X0
  replace F := frCongr F (m' := fun _ => none) (fun y => rfl)
  refine law_walk (s := { s₁ with heap := h1, toks := tk1 }) lsc vs ns ob oa ot osc hL hI (by omega) K0 F KX N0 db da dt dsc T (by decide +kernel) (by decide +kernel) (by passes_own) ?_
  intro h2 tk2 m2 F2
  k_steps)

end Mine
set_option maxRecDepth 100000 in
set_option maxHeartbeats 8000000 in
theorem PySem.Challenge.cw_wj0031_01_holds : PySem.Challenge.rw_wj0031_01.Holds := by
  exact Mine.law_holds
