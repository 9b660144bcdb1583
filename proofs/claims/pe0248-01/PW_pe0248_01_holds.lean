import PyProof.Rows.All
import Wide.All
import OpenK.AllK
import Wide.FinOn
import PySem.Challenge.RW_pe0248_01
open PySem PySem.W PyProof.Rows PySem.Calls
set_option Elab.async false
set_option maxRecDepth 100000
namespace Mine
/- the head: k_head alone (its o_head is turned into `assumption`) lays the heap's written part, heap_1; the top is then checked by two kernel steps (topF, topT), with the library's twins of the machine -/
local macro_rules | `(tactic| o_head $_) => `(tactic| assumption)
theorem hd : True := by
  have _ : PySem.Challenge.rw_pe0248_01.row.Holds → PySem.Challenge.rw_pe0248_01.row.Holds := by
    intro _
    k_head
  trivial
theorem picked {b : List Stmt} {a0 a7 a9 : Stmt} {l : List Stmt} (_ : b.head? = some a0) (_ : (b.drop 7).head? = some a7) (_ : (b.drop 9).head? = some a9) (_ : b.drop 11 = l) : (b.head?.toList ++ (b.drop 7).head?.toList ++ (b.drop 9).head?.toList ++ b.drop 11) = a0 :: a7 :: a9 :: l := by
  simp [*]
noncomputable def vwb : {l : List Stmt // (fun b => b.head?.toList ++ (b.drop 7).head?.toList ++ (b.drop 9).head?.toList ++ b.drop 11) PySem.Challenge.pw_pe0248_01.main.body = l} := ⟨_, picked (l := [_, _, _, _, _, _]) rfl rfl rfl rfl⟩
noncomputable def vw : Program := { PySem.Challenge.pw_pe0248_01 with main := { PySem.Challenge.pw_pe0248_01.main with body := vwb.1 } }
/-- the head's premise from one look at the top's run: what the run gives and all that is looked at in it, as one pair of values -/
theorem left_of_top {p q : Program} {loose : List Str} {Xt : Shared → Bool} {α : Type} {Yf : Shared → α} {Ya : World → α} {N : Nat} {H₀ : Params → Heap} {gs₀ : Array GenState} {d₀ : Drawn} {k₀ : Nat}
    (open_ : ∀ w : World, (fencedOpening treeTable p w N).map (fun s => (s.heap, s.gens, s.drawn, s.toks)) = some (H₀ w.params, gs₀, d₀, k₀))
    (size : ∀ w : World, ((H₀ w.params).isNs mainGlobals && gs₀.size == 0) = true)
    (top : ∀ (w : World) (os : OsState), (topRun treeTable p w (H₀ w.params).objs.size ((H₀ w.params).nsMap mainGlobals "__annotations__") N ⟨H₀ w.params, gs₀, d₀, k₀, os⟩ (topStub p)).map (fun s =>
        ((staticsOk (importedModules p.main.body) (H₀ w.params) s.heap && namesBound p s.heap && gensDone s && laidKept (H₀ w.params) s.heap), openSeen q loose (importedModules p.main.body) Xt true s, Yf s)) = some (true, openGood q loose, Ya w)) :
    LeftO p q loose Xt Yf Ya N := by
  intro w
  have o := open_ w
  cases e : fencedOpening treeTable p w N with
  | none => rw [e] at o; cases o
  | some s₀ =>
    rw [e, Option.map_some, Option.some.injEq, Prod.mk.injEq, Prod.mk.injEq, Prod.mk.injEq] at o
    have t := top w s₀.os
    have z := size w
    rw [← o.1, ← o.2.1] at z
    rw [← o.1, ← o.2.1, ← o.2.2.1, ← o.2.2.2] at t
    cases r : topRun treeTable p w s₀.heap.objs.size (s₀.heap.nsMap mainGlobals "__annotations__") N s₀ (topStub p) with
    | none =>
      have t' : (topRun treeTable p w s₀.heap.objs.size (s₀.heap.nsMap mainGlobals "__annotations__") N s₀ (topStub p)).map _ = _ := t
      rw [r] at t'; cases t'
    | some s₁ =>
      have t' : (topRun treeTable p w s₀.heap.objs.size (s₀.heap.nsMap mainGlobals "__annotations__") N s₀ (topStub p)).map _ = _ := t
      rw [r, Option.map_some, Option.some.injEq, Prod.mk.injEq] at t'
      have k : topFrom treeTable p w N s₀ = some s₁ := by simp only [topFrom, z, r, Option.bind_some, t'.1]
      simp only [openEnds, e, Option.bind_some, k, Option.map_some, t'.2]
noncomputable def hkAs : List Addr := [2, 3, 15, 17, 18, 20, 21, 22, 23, 24, 26, 27, 29, 30, 31, 32, 33, 35, 36, 38, 39, 40, 41, 42, 44, 45, 47, 48, 49, 50, 51, 53, 54, 56, 57, 65, 67, 68, 70, 71, 72, 74, 75, 77, 78, 79, 81, 82, 84, 85, 86, 88, 89, 91, 92, 93, 94, 95, 96, 97, 110, 112, 113, 115, 116, 117, 119, 120, 122, 123, 124, 126, 127, 129, 130, 131, 133, 134, 136, 137, 138, 140, 141, 143, 144, 145, 147, 148, 150, 151, 152, 154, 155, 157, 158, 159, 160, 161, 162, 163, 166, 168, 169, 171, 172, 173, 176, 177, 178, 181, 182, 183, 185, 186, 188, 189, 190, 192, 193, 195, 196, 197, 200, 201]
theorem hkE : ∀ P : Params, hkAs = (Mine.hd.heap_1 P).map (·.1) := fun _ => by kernel_rfl
def TopAt (w : World) : Prop := ∀ os : OsState, (PySem.W.Fast.tw14082659384304107361 PySem.W.Fast.tw14364793385576792824 PySem.Challenge.pw_pe0248_01 w (boot_heap w.params).objs.size ((boot_heap w.params).nsMap mainGlobals "__annotations__") 2546 ⟨boot_heap w.params, Array.mk [], boot_drawn, boot_toks, os⟩ (topStub PySem.Challenge.pw_pe0248_01)).map (fun s =>
        ((staticsOk (importedModules PySem.Challenge.pw_pe0248_01.main.body) (boot_heap w.params) s.heap && namesBound PySem.Challenge.pw_pe0248_01 s.heap && gensDone s && laidKept (boot_heap w.params) s.heap), PySem.W.Fast.tw4187177175401517315 vw [Str.ofString "insort_right", Str.ofString "bisect_right", Str.ofString "insort_left", Str.ofString "bisect_left", Str.ofString "Whitespace"] (importedModules PySem.Challenge.pw_pe0248_01.main.body) (fun s => xlAt vw [] s && recOk (RowW.records (OpenRow.toRowW PySem.Challenge.rw_pe0248_01.row)) s) true s, (kmHook Mine.hd.heap_1 hkAs hkE [167]).obs s)) = some (true, openGood vw [Str.ofString "insort_right", Str.ofString "bisect_right", Str.ofString "insort_left", Str.ofString "bisect_left", Str.ofString "Whitespace"], (kmHook Mine.hd.heap_1 hkAs hkE [167]).val w)
theorem topF (w : World) : TopAt (w.withFollow "special-get-raises" false) := fun os => by kernel_rfl
theorem topT (w : World) : TopAt (w.withFollow "special-get-raises" true) := fun os => by kernel_rfl
theorem headLeft : LeftO PySem.Challenge.pw_pe0248_01 vw [Str.ofString "insort_right", Str.ofString "bisect_right", Str.ofString "insort_left", Str.ofString "bisect_left", Str.ofString "Whitespace"] (fun s => xlAt vw [] s && recOk (RowW.records (OpenRow.toRowW PySem.Challenge.rw_pe0248_01.row)) s) (kmHook Mine.hd.heap_1 hkAs hkE [167]).obs (kmHook Mine.hd.heap_1 hkAs hkE [167]).val 2546 := by
  refine left_of_top (boot_open (by kernel_rfl) (by kernel_rfl) (fun s => by kernel_rfl)) (fun w => by kernel_rfl) ?_
  rw [PySem.W.Fast.te14082659384304107361, PySem.W.Fast.te14364793385576792824, PySem.W.Fast.te4187177175401517315]
  exact byRow2 "special-get-raises" topF topT
def Stop (P : Prop) : Prop := P
theorem Stop.mk {P : Prop} (h : Stop P) : P := h
theorem Stop.out {P : Prop} (h : P) : Stop P := h
theorem ne_of_allLt {l : List (Addr × Obj)} {d e : Nat} (h : AllLt d l) (hde : d ≤ e) : ∀ p ∈ l, p.1 ≠ e := fun p hp => Nat.ne_of_lt (Nat.lt_of_lt_of_le (ktn_ltOf h p hp) hde)
local macro_rules
  | `(tactic| walk_at "exec While") => `(tactic| refine Stop.mk ?_)
  | `(tactic| walk_at "KswEnd") => `(tactic| refine Stop.mk ?_)
  | `(tactic| walk_at "GEnd") => `(tactic| refine Stop.mk ?_)
  | `(tactic| walk_at "pyIter") => `(tactic| walk_at "mine it")
  | `(tactic| walk_at "pyIter ref") => `(tactic| walk_at "mine it")
  | `(tactic| walk_at "pyIter str") => `(tactic| walk_at "mine it")
  | `(tactic| walk_at "mine it") => `(tactic| ((with_reducible show wpAny _ _ (pyIter _) (fun it s₂ => LoopAtV _ _ _ _ _ _ _ _ _ it s₂) _ _); refine Stop.mk ?_))
  | `(tactic| walk_at "exec For Name Subscript cons nil") => `(tactic| refine Stop.mk ?_)
  | `(tactic| walk_at "exec For Name Attribute cons nil") => `(tactic| refine Stop.mk ?_)
  | `(tactic| walk_at "exec For Name Call cons nil") => `(tactic| refine Stop.mk ?_)
local macro_rules
  | `(tactic| k_all) => `(tactic| first | assumption | exact ne_of_allLt (by assumption) (by omega) | fail "k_all")

theorem news_dup {h₀ h : Heap} {L : Addr} {news : List (Addr × Obj)} {p : Addr × Obj} (N : News h₀ L h news) (hp : p ∈ news) : News h₀ L h (p :: news) := fun q hq => by
  rcases List.mem_cons.mp hq with rfl | hq
  · exact N _ hp
  · exact N _ hq
theorem news_tail {h₀ h : Heap} {L : Addr} {news : List (Addr × Obj)} {p : Addr × Obj} (N : News h₀ L h (p :: news)) : News h₀ L h news := fun q hq => N q (.tail _ hq)
/-- the ledger with one object taken to the front -/
theorem news_front {h₀ h : Heap} {L d : Addr} {pre post : List (Addr × Obj)} {o : Obj} (N : News h₀ L h (pre ++ (d, o) :: post)) : News h₀ L h ((d, o) :: (pre ++ post)) := fun q hq => by
  refine N q ?_
  rcases List.mem_cons.mp hq with rfl | hq
  · exact List.mem_append.mpr (.inr (.head _))
  · exact (List.mem_append.mp hq).elim (fun h => List.mem_append.mpr (.inl h)) fun h => List.mem_append.mpr (.inr (.tail _ h))
theorem news_back {h₀ h : Heap} {L d : Addr} {pre post : List (Addr × Obj)} {o : Obj} (N : News h₀ L h ((d, o) :: (pre ++ post))) : News h₀ L h (pre ++ (d, o) :: post) := fun q hq => by
  refine N q ?_
  rcases List.mem_append.mp hq with hq | hq
  · exact .tail _ (List.mem_append.mpr (.inl hq))
  · rcases List.mem_cons.mp hq with rfl | hq
    · exact .head _
    · exact .tail _ (List.mem_append.mpr (.inr hq))
/-- what a ledger with one object to be changed is: that object ahead of the others -/
theorem updF_front {h₀ h : Heap} {L d : Addr} {led : List (Addr × Obj)} {o : Obj} {g : Obj → List (Addr × Obj)} (U : UpdF d o led g) (N : News h₀ L h led) :
    ∃ news : List (Addr × Obj), News h₀ L h ((d, o) :: news) ∧ (∀ p ∈ news, p.1 ≠ d) ∧ (∀ p ∈ news, p ∈ led) ∧ (∀ p ∈ led, p.1 ≠ d → p ∈ news) ∧ ∀ (h' : Heap) (o' : Obj), News h₀ L h' ((d, o') :: news) → News h₀ L h' (g o') := by
  obtain ⟨pre, post, rfl, hg, h1, h2⟩ := U.split
  refine ⟨pre ++ post, news_front N, fun p hp => (List.mem_append.mp hp).elim (h1 p) (h2 p), fun p hp => ?_, fun p hp hne => ?_, fun h' o' N' => ?_⟩
  · exact (List.mem_append.mp hp).elim (fun h => List.mem_append.mpr (.inl h)) fun h => List.mem_append.mpr (.inr (.tail _ h))
  · rcases List.mem_append.mp hp with hp | hp
    · exact List.mem_append.mpr (.inl hp)
    · rcases List.mem_cons.mp hp with rfl | hp
      · exact absurd rfl hne
      · exact List.mem_append.mpr (.inr hp)
  · rw [hg]; exact news_back N'
theorem news_ne {h₀ h : Heap} {L : Addr} {news news' : List (Addr × Obj)} {a b : Addr} {o o' : Obj} (N : News h₀ L h news) (N' : News h₀ L h news') (hp : (a, o) ∈ news) (hq : (b, o') ∈ news') (hc : o.cls ≠ o'.cls) : a ≠ b := fun e => by
  have h1 := (N _ hp).1
  have h2 := (N' _ hq).1
  rw [show (a, o).1 = (b, o').1 from e, h2] at h1
  exact hc (congrArg Obj.cls (Option.some.inj h1).symm)
/-- a ledger's rows, picked by their places; the rest from the n-th on -/
theorem pick_mem {l : List (Addr × Obj)} (is : List Nat) (n : Nat) : ∀ p ∈ is.filterMap (fun i => l[i]?) ++ l.drop n, p ∈ l := fun p hp => by
  rcases List.mem_append.mp hp with h | h
  · obtain ⟨i, _, h⟩ := List.mem_filterMap.mp h
    exact List.mem_of_getElem? h
  · exact List.mem_of_mem_drop h
theorem news_pick {h₀ h : Heap} {L : Addr} {l : List (Addr × Obj)} (N : News h₀ L h l) (is : List Nat) (n : Nat) : News h₀ L h (is.filterMap (fun i => l[i]?) ++ l.drop n) := fun p hp => N p (pick_mem is n p hp)
theorem cutQ {α : Type} {M : Model} {A : Around} {t : Sem α} {Q : α → Shared → Prop} {E : Value → Shared → Prop} {s : Shared} (h : ∀ Q', Q = Q' → wpAny M A t Q' E s) : wpAny M A t Q E s := h Q rfl
theorem cutQE {α : Type} {M : Model} {A : Around} {t : Sem α} {Q : α → Shared → Prop} {E : Value → Shared → Prop} {s : Shared} (h : ∀ Q' E', Q = Q' → wpAny M A t Q' E' s) : wpAny M A t Q E s := h Q E rfl
theorem fr_open {h₀ h : Heap} {L : Addr} {m : Str → Option Value} {P : Prop} (F : Fr h₀ L h m) (k : ∀ m', m = m' → Fr h₀ L h m' → P) : P := k m rfl F

/-- a turn's end: the next state, its ledger, and the loop's own object -/
def GEnd {σ : Type} (h₀ : Heap) (L : Addr) (I : Addr) (oI : Obj) (Led : σ → List (Addr × Obj)) (ps : σ → List (Str × Value)) (Facts : Nat → σ → Prop) (x : Str) (stored : List Str) (m₀ : Str → Option Value) (i : Nat) (s s₂ : Shared) : Prop :=
  ∃ (c : σ) (h' : Heap) (tk : Nat) (m' : Str → Option Value), s₂ = { s with heap := h', toks := tk } ∧ Fr h₀ L h' m' ∧ News h₀ L h' ((I, oI) :: Led c) ∧ (∀ p ∈ Led c, p.1 ≠ I) ∧ Facts (i + 1) c ∧ (∀ p ∈ ps c, m' p.1 = some p.2) ∧ (∀ z, z ≠ x → (∀ p ∈ ps c, z ≠ p.1) → stored.contains z = false → m' z = m₀ z)
def GPost {σ : Type} (h₀ : Heap) (L : Addr) (I : Addr) (oI : Obj) (Led : σ → List (Addr × Obj)) (ps : σ → List (Str × Value)) (Facts : Nat → σ → Prop) (x : Str) (stored : List Str) (m₀ : Str → Option Value) (i : Nat) (s : Shared) (Q : Flow → Shared → Prop) (f : Flow) (s₂ : Shared) : Prop :=
  match f with
  | .ret v => Q (.ret v) s₂
  | .brk => Q .next s₂
  | _ => GEnd h₀ L I oI Led ps Facts x stored m₀ i s s₂
section
variable {prog : Program} {w : World} {A : Around} {E : Value → Shared → Prop} {s : Shared} {env : Env} {h₀ : Heap} {x : Str} {body : List Stmt} {Q : Flow → Shared → Prop}
theorem g_end {σ : Type} {L I : Addr} {oI : Obj} {Led : σ → List (Addr × Obj)} {ps : σ → List (Str × Value)} {Facts : Nat → σ → Prop} {stored : List Str} {m₀ m' : Str → Option Value} {i : Nat} {h' : Heap} {tk : Nat} {news' : List (Addr × Obj)} (c : σ)
    (F : Fr h₀ L h' m') (N : News h₀ L h' news') (hn : ∀ p ∈ (I, oI) :: Led c, p ∈ news') (hoff : ∀ p ∈ Led c, p.1 ≠ I) (hf : Facts (i + 1) c) (hk : ∀ p ∈ ps c, m' p.1 = some p.2) (hr : ∀ z, z ≠ x → (∀ p ∈ ps c, z ≠ p.1) → stored.contains z = false → m' z = m₀ z) :
    GEnd h₀ L I oI Led ps Facts x stored m₀ i s { s with heap := h', toks := tk } := ⟨c, h', tk, m', rfl, F, fun p hp => N p (hn p hp), hoff, hf, hk, hr⟩
theorem for_walk {σ : Type} {I : Addr} {fp : List Addr} {n : Nat} {P : Nat → Value → Prop} {St : Nat → Heap → Prop} {m₀ : Str → Option Value} (Led : σ → List (Addr × Obj)) (ps : σ → List (Str × Value)) (Facts : Nat → σ → Prop) (stored : List Str) (c₀ : σ)
    (W : Walks prog w A I fp [I] n P St) (hI : h₀.get? I = none) (hIL : env.locals ∉ fp) (hlive : ∀ i h, St i h → ∃ o, h.get? I = some o) (hfix : ∀ b ∈ fp, b ≠ I → h₀.get? b = none → ∃ o, ∀ c, (b, o) ∈ Led c)
    (hst : St 0 s.heap) (F : Fr h₀ env.locals s.heap m₀) (N : News h₀ env.locals s.heap (Led c₀)) (hoff : ∀ p ∈ Led c₀, p.1 ≠ I) (hf : Facts 0 c₀) (hk : ∀ p ∈ ps c₀, m₀ p.1 = some p.2)
    (turn : ∀ (c : σ) i v (u : Str → Option Value) h tk oI, i < n → P i v → Facts i c → (∀ p ∈ Led c, p.1 ≠ I) → Fr h₀ env.locals h (fun y => if y = x then some v else kstB (fun z => if stored.contains z then u z else m₀ z) (ps c) y) → News h₀ env.locals h ((I, oI) :: Led c) →
      wpAny (model prog w) A (execs body env) (GPost h₀ env.locals I oI Led ps Facts x stored m₀ i { s with heap := h, toks := tk } Q) E { s with heap := h, toks := tk })
    (done : ∀ (c : σ) (u : Str → Option Value) h tk, Facts n c → Fr h₀ env.locals h (fun y => if y = x then u y else kstB (fun z => if stored.contains z then u z else m₀ z) (ps c) y) → News h₀ env.locals h (Led c) → Q .next { s with heap := h, toks := tk }) :
    LoopAtV prog w A h₀ env x body Q E (.ref I) s := by
  let J : Nat → (Str → Option Value) → List (Addr × Obj) → Prop := fun i m₁ nx => ∃ c, nx = Led c ∧ Facts i c ∧ (∀ p ∈ ps c, m₁ p.1 = some p.2) ∧ (∀ z, z ≠ x → (∀ p ∈ ps c, z ≠ p.1) → stored.contains z = false → m₁ z = m₀ z)
  refine ⟨I, fp, [I], n, P, St, m₀, Led c₀, J, rfl, W, hIL, fun b hb => (List.mem_singleton.mp hb) ▸ hI, fun p hp hb => hoff p hp (List.mem_singleton.mp hb), hst, F, N, ⟨c₀, rfl, hf, hk, fun _ _ _ _ => rfl⟩, ?_, ?_⟩
  · rintro i v m₁ news₁ s₁ own ⟨hh', tk', rfl⟩ hin hP ⟨c, rfl, hf', h1, h2⟩ hnw hown hget hall hst' F₁ N₁
    have hoff' : ∀ p ∈ Led c, p.1 ≠ I := fun p hp q => hnw p hp (by rw [q]; exact List.mem_singleton.mpr rfl)
    obtain ⟨oI, hoI⟩ := hlive _ _ hst'
    have hmem : (I, oI) ∈ own := hall I (W.sub I (List.mem_singleton.mpr rfl)) hI oI hoI
    have N₂ : News h₀ env.locals hh' ((I, oI) :: Led c) := fun p hp => by
      rcases List.mem_cons.mp hp with rfl | hp
      · exact N₁ _ (List.mem_append.mpr (.inl hmem))
      · exact N₁ _ (List.mem_append.mpr (.inr hp))
    refine wpAny_mono (turn c i v m₁ hh' tk' oI hin hP hf' hoff' (kst_fr h1 h2 F₁) N₂) (fun f s₂ p => ?_) fun _ _ e => e
    have fin : GEnd h₀ env.locals I oI Led ps Facts x stored m₀ i { s with heap := hh', toks := tk' } s₂ → LoopStepU h₀ env.locals [I] own (J (i + 1)) { s with heap := hh', toks := tk' } .next s₂ := by
      rintro ⟨c', h', tk, m', e, F', N', ho, hf'', hk'', hr''⟩
      refine ⟨rfl, h', tk, m', Led c', e, F', fun p hp => ?_, fun p hp hq => ho p hp (List.mem_singleton.mp hq), c', rfl, hf'', hk'', hr''⟩
      rcases List.mem_append.mp hp with hp | hp
      · by_cases hpI : p.1 = I
        · have hg : hh'.get? p.1 = some p.2 := hget p hp
          rw [hpI, hoI] at hg
          have : p = (I, oI) := Prod.ext hpI (Option.some.inj hg).symm
          rw [this]
          exact N' _ (.head _)
        · obtain ⟨o, hfo⟩ := hfix p.1 (hown p hp) hpI (N₁ p (List.mem_append.mpr (.inl hp))).2.2
          have hg : hh'.get? p.1 = some p.2 := hget p hp
          have hg2 := (N₂ _ (.tail _ (hfo c))).1
          have e2 : o = p.2 := by rw [show (p.1, o).1 = p.1 from rfl, hg] at hg2; exact (Option.some.inj hg2).symm
          have := N' _ (.tail _ (hfo c'))
          rw [e2] at this
          exact this
      · exact N' p (.tail _ hp)
    cases f with
    | ret v => exact .ret p
    | brk => exact .brk p
    | next => exact .next (fin p)
    | cont => exact .cont (fin p)
  · rintro h' tk m' news' F' N' _ ⟨c, rfl, hf', h1, h2⟩
    exact done c m' h' tk hf' (kst_frOut h1 h2 F') N'

theorem for_range {σ : Type} {r : Addr} {a₀ b₀ : Int} {t₀ u₀ v₀ : Tok} {n : Nat} {m₀ : Str → Option Value} (Led : σ → List (Addr × Obj)) (ps : σ → List (Str × Value)) (Facts : Nat → σ → Prop) (stored : List Str) (c₀ : σ)
    (hh : A.handled = none) (hr : IsRange s.heap r a₀ b₀ 1 t₀ u₀ v₀) (hsmall : Builtin.Range.small a₀ b₀ 1 = true) (hn : Builtin.Range.rangeSize a₀ b₀ 1 = (n : Int)) (F : Fr h₀ env.locals s.heap m₀) (N : News h₀ env.locals s.heap (Led c₀)) (hf : Facts 0 c₀) (hk : ∀ p ∈ ps c₀, m₀ p.1 = some p.2)
    (turn : ∀ (c : σ) (i : Nat) t (u : Str → Option Value) h tk I oI, i < n → Facts i c → (∀ p ∈ Led c, p.1 ≠ I) → Fr h₀ env.locals h (fun y => if y = x then some (.int (a₀ + (i : Int)) t) else kstB (fun z => if stored.contains z then u z else m₀ z) (ps c) y) → News h₀ env.locals h ((I, oI) :: Led c) →
      wpAny (model prog w) A (execs body env) (GPost h₀ env.locals I oI Led ps Facts x stored m₀ i { s with heap := h, toks := tk } Q) E { s with heap := h, toks := tk })
    (done : ∀ (c : σ) (u : Str → Option Value) h tk, Facts n c → Fr h₀ env.locals h (fun y => if y = x then u y else kstB (fun z => if stored.contains z then u z else m₀ z) (ps c) y) → News h₀ env.locals h (Led c) → Q .next { s with heap := h, toks := tk }) :
    wpAny (model prog w) A (pyIter (.ref r)) (fun it s₂ => LoopAtV prog w A h₀ env x body Q E it s₂) E s := by
  refine wpAny_pyIter_range hr hsmall ?_
  refine for_walk Led ps Facts stored c₀ (Walks.range hh s.heap.objs.size a₀ 1 n) ?_ ?_ (fun _ _ st => ⟨_, st⟩) (fun b hb hne => absurd (List.mem_singleton.mp hb) hne)
    (by show IsRangeIter _ _ _ _ _; rw [hn]; simpa using Heap.get?_push_size _ rfl) (F.push _) (fun p hp => ⟨Heap.get?_push_of_some _ (N p hp).1, (N p hp).2⟩) ?_ hf hk ?_ ?_
  · exact next_is_new F
  · intro hm
    exact absurd F.ns.lt ((List.mem_singleton.mp hm) ▸ Nat.lt_irrefl _)
  · intro p hp hI
    exact absurd (Heap.lt_size (N p hp).1) (hI ▸ Nat.lt_irrefl _)
  · rintro c i v u h tk oI hi ⟨t, rfl⟩ hf' hoff F₁ N₁
    have e1 : a₀ + (i : Int) * 1 = a₀ + (i : Int) := by omega
    rw [e1] at F₁
    exact turn c i t u h tk _ oI hi hf' hoff F₁ N₁
  · exact done

theorem for_text {σ : Type} {xt : Str} {tx : Tok} {m₀ : Str → Option Value} (Led : σ → List (Addr × Obj)) (ps : σ → List (Str × Value)) (Facts : Nat → σ → Prop) (stored : List Str) (c₀ : σ)
    (hh : A.handled = none) (F : Fr h₀ env.locals s.heap m₀) (N : News h₀ env.locals s.heap (Led c₀)) (hf : Facts 0 c₀) (hk : ∀ p ∈ ps c₀, m₀ p.1 = some p.2)
    (turn : ∀ (c : σ) (i ch : Nat) t (u : Str → Option Value) h tk I oI, i < xt.cps.size → xt.cps[i]? = some ch → Facts i c → (∀ p ∈ Led c, p.1 ≠ I) → Fr h₀ env.locals h (fun y => if y = x then some (.str ⟨#[ch]⟩ t) else kstB (fun z => if stored.contains z then u z else m₀ z) (ps c) y) → News h₀ env.locals h ((I, oI) :: Led c) →
      wpAny (model prog w) A (execs body env) (GPost h₀ env.locals I oI Led ps Facts x stored m₀ i { s with heap := h, toks := tk } Q) E { s with heap := h, toks := tk })
    (done : ∀ (c : σ) (u : Str → Option Value) h tk, Facts xt.cps.size c → Fr h₀ env.locals h (fun y => if y = x then u y else kstB (fun z => if stored.contains z then u z else m₀ z) (ps c) y) → News h₀ env.locals h (Led c) → Q .next { s with heap := h, toks := tk }) :
    wpAny (model prog w) A (pyIter (.str xt tx)) (fun it s₂ => LoopAtV prog w A h₀ env x body Q E it s₂) E s := by
  have main : ∀ (o : Obj) (St : Nat → Heap → Prop), Walks prog w A s.heap.objs.size [s.heap.objs.size] [s.heap.objs.size] xt.cps.size (SignAt xt) St → (∀ i h, St i h → ∃ o, h.get? s.heap.objs.size = some o) → St 0 (s.heap.push o) →
      LoopAtV prog w A h₀ env x body Q E (.ref s.heap.objs.size) { s with heap := s.heap.push o } := by
    intro o St W hl hst
    refine for_walk Led ps Facts stored c₀ W ?_ ?_ hl (fun b hb hne => absurd (List.mem_singleton.mp hb) hne) hst (F.push _) (fun p hp => ⟨Heap.get?_push_of_some _ (N p hp).1, (N p hp).2⟩) ?_ hf hk ?_ done
    · exact next_is_new F
    · intro hm
      exact absurd F.ns.lt ((List.mem_singleton.mp hm) ▸ Nat.lt_irrefl _)
    · intro p hp hI
      exact absurd (Heap.lt_size (N p hp).1) (hI ▸ Nat.lt_irrefl _)
    · rintro c i v u h tk oI hi ⟨ch, t, hch, rfl⟩ hf' hoff F₁ N₁
      exact turn c i ch t u h tk _ oI hi hch hf' hoff F₁ N₁
  cases ha : xt.cps.all (· < 128)
  · exact wpAny_pyIter_wide ha (main _ _ (Walks.strWide hh _ xt tx) (fun _ _ st => let ⟨o, ho, _⟩ := st; ⟨o, ho⟩) ⟨_, Heap.get?_push_size _ rfl, rfl, rfl⟩)
  · exact wpAny_pyIter_ascii ha (main _ _ (Walks.strAscii hh _ xt tx) (fun _ _ st => let ⟨o, ho, _⟩ := st; ⟨o, ho⟩) ⟨_, Heap.get?_push_size _ rfl, rfl, rfl⟩)

theorem for_list {σ : Type} {l : Addr} {vs : List Value} {nn : Nat} {m₀ : Str → Option Value} (Led : σ → List (Addr × Obj)) (ps : σ → List (Str × Value)) (Facts : Nat → σ → Prop) (stored : List Str) (c₀ : σ)
    (hh : A.handled = none) (hl : ∀ c : σ, (l, listOf vs.toArray nn) ∈ Led c) (F : Fr h₀ env.locals s.heap m₀) (N : News h₀ env.locals s.heap (Led c₀)) (hf : Facts 0 c₀) (hk : ∀ p ∈ ps c₀, m₀ p.1 = some p.2)
    (turn : ∀ (c : σ) (i : Nat) v (u : Str → Option Value) h tk I oI, i < vs.length → vs[i]? = some v → Facts i c → (∀ p ∈ Led c, p.1 ≠ I) → Fr h₀ env.locals h (fun y => if y = x then some v else kstB (fun z => if stored.contains z then u z else m₀ z) (ps c) y) → News h₀ env.locals h ((I, oI) :: Led c) →
      wpAny (model prog w) A (execs body env) (GPost h₀ env.locals I oI Led ps Facts x stored m₀ i { s with heap := h, toks := tk } Q) E { s with heap := h, toks := tk })
    (done : ∀ (c : σ) (u : Str → Option Value) h tk, Facts vs.length c → Fr h₀ env.locals h (fun y => if y = x then u y else kstB (fun z => if stored.contains z then u z else m₀ z) (ps c) y) → News h₀ env.locals h (Led c) → Q .next { s with heap := h, toks := tk }) :
    wpAny (model prog w) A (pyIter (.ref l)) (fun it s₂ => LoopAtV prog w A h₀ env x body Q E it s₂) E s := by
  have hol : s.heap.get? l = some (listOf vs.toArray nn) := (N _ (hl c₀)).1
  have hls : s.heap.IsList l vs.toArray := ⟨_, hol, rfl, nn, rfl⟩
  have hne : l ≠ s.heap.objs.size := Nat.ne_of_lt (Heap.lt_size hol)
  refine wpAny_pyIter_list hls ?_
  have W := Walks.list (prog := prog) (w := w) hh s.heap.objs.size l hne vs.toArray
  rw [List.size_toArray] at W
  refine for_walk Led ps Facts stored c₀ W ?_ ?_ (fun _ _ st => let ⟨o, ho, _⟩ := st.1; ⟨o, ho⟩) ?_ ⟨⟨_, Heap.get?_push_size _ rfl, rfl, rfl⟩, hls.at fun o e => Heap.get?_push_of_some _ e⟩ (F.push _) (fun p hp => ⟨Heap.get?_push_of_some _ (N p hp).1, (N p hp).2⟩) ?_ hf hk ?_ done
  · exact next_is_new F
  · intro hm
    rcases List.mem_cons.mp hm with e | hm
    · exact absurd F.ns.lt (e ▸ Nat.lt_irrefl _)
    · exact (N _ (hl c₀)).2.1 ((List.mem_singleton.mp hm).symm)
  · intro b hb hb2 _
    rcases List.mem_cons.mp hb with e | hb
    · exact absurd e hb2
    · rw [List.mem_singleton.mp hb]
      exact ⟨_, hl⟩
  · intro p hp hI
    exact absurd (Heap.lt_size (N p hp).1) (hI ▸ Nat.lt_irrefl _)
  · rintro c i v u h tk oI hi hv hf' hoff F₁ N₁
    exact turn c i v u h tk _ oI hi (by simpa using hv) hf' hoff F₁ N₁
end
-- EXPORT
local macro_rules | `(tactic| walk_at "GPost") => `(tactic| (dsimp only [GPost]))

section
variable {prog : Program} {w : World} {A : Around} {E : Value → Shared → Prop} {s : Shared} {h₀ : Heap} {L : Addr} {news : List (Addr × Obj)}
theorem len_strs {l : Addr} {vs : List Value} {ss : List Str} {nn : Nat} {Q : Value → Shared → Prop} (N : News h₀ L s.heap news) (hm : (l, listOf vs.toArray nn) ∈ news) (hs : StrsAre vs ss) (hb : ss.length < 1000)
    (h : Q (.int ss.length (s.toks + 1)) { s with toks := s.toks + 1 + 1 }) : wpAny (model prog w) A (call (.builtin "len") [.ref l]) Q E s := by
  have e : vs.toArray.size = ss.length := by rw [List.size_toArray]; exact hs.length
  refine call_len_list ⟨_, (N _ hm).1, rfl, nn, rfl⟩ (by rw [e]; omega) ?_
  rw [e]
  exact h
theorem item_strs {value slice : PySem.Expr} {l : Addr} {vs : List Value} {ss : List Str} {nn : Nat} {k : Int} {u : Tok} {x : Str} {Q : Value → Shared → Prop} (N : News h₀ L s.heap news) (hm : (l, listOf vs.toArray nn) ∈ news) (hs : StrsAre vs ss) (h0 : 0 ≤ k) (hhi : k < 1000) (hx : ss[k.toNat]? = some x)
    (h : ∀ t, Q (.str x t) s) (hq : subscripted slice false (.ref l) (.int k u) = operate [.ref l, .int k u] (getItem (.ref l) (.int k u)) := by with_unfolding_all rfl) :
    wpAny (model prog w) A (subscriptTail value slice (.ref l) (.int k u)) Q E s := by
  obtain ⟨t, ht⟩ := hs.get _ _ hx
  exact item_litK ⟨_, (N _ hm).1, rfl, nn, rfl⟩ h0 (by omega) ht (h t) hq
end
-- EXPORT
local macro_rules | `(tactic| walk_at "call builtin:len") => `(tactic| (k_here; (with_reducible show wpAny _ _ (call (Value.builtin "len") [Value.ref _]) _ _ _); (k_dflt (refine' len_strs ?k1 ?k2 ?k3 ?k4 ?_; (case k1 => k_asm); (case k2 => k_mem); (case k3 => assumption); (case k4 => first | assumption | omega | ((try simp only [List.length_append, List.length_cons, List.length_nil, List.length_map]); omega)); k_whole))))
local macro_rules | `(tactic| walk_at "subscriptTail Name Name ref int") => `(tactic| (k_here; (with_reducible show wpAny _ _ (subscriptTail _ _ (Value.ref _) (Value.int _ _)) _ _ _); (with_unfolding_all refine' item_strs ?k1 ?k2 ?k3 ?k4 ?k5 ?k7 ?_ ?k6; (case k1 => k_asm); (case k2 => k_mem); (case k3 => assumption); (case k7 => assumption); (case k4 => omega); (case k5 => omega); (case k6 => with_unfolding_all rfl); k_whole); intro _))

section
open LCg
variable {prog : Program} {w : World} {A : Around} {E : Value → Shared → Prop} {s : Shared} {h₀ : Heap} {L : Addr} {m : Str → Option Value} {env : Env}
/-- a comprehension's turns by what holds of the items so far and of the ledger -/
theorem rest_inv {elt : Expr} {x : Str} {scope : Scope} {cl : List (Str × Addr)} {S : List (Addr × Obj) → Prop} {P : Nat → Value → Prop} {Fin : List Value → List (Addr × Obj) → Prop} {n : Nat} {news : List (Addr × Obj)} (J : Nat → List Value → List (Addr × Obj) → Prop)
    (h0 : J 0 [] news)
    (turn : ∀ i ys nw v I oI C oC D m₂ h tk (E' : Value → Shared → Prop), i < n → P i v → J i ys nw → NsObj oC m₂ → m₂ x = some v → Fr h₀ L h m → News h₀ L h ((I, oI) :: (C, oC) :: (D, lst ys) :: nw) → Off3 I C D nw → ((@Ne Nat I C) ∧ (@Ne Nat I D) ∧ (@Ne Nat C D)) →
      wpAny (model prog w) A (eval elt (compEnvC scope cl C env)) (CompEnd h₀ L m { s with heap := h, toks := tk } I oI C oC D (lst ys) S (fun y news' => J (i + 1) (ys ++ [y]) news')) E' { s with heap := h, toks := tk })
    (fin : ∀ ys nw, J n ys nw → Fin ys nw) : CompRest prog w A h₀ L m env elt x scope cl s S P Fin n 0 [] news := by
  have key : ∀ k i ys nw, i + k = n → J i ys nw → CompRest prog w A h₀ L m env elt x scope cl s S P Fin k i ys nw := by
    intro k
    induction k with
    | zero => intro i ys nw hi hj; exact CompRest.zero (fin ys nw (by rw [← hi]; exact hj))
    | succ k ih =>
      intro i ys nw hi hj
      refine CompRest.succ ?_
      intro v I oI C oC D m₂ h tk E' hv hC hx F N off ne
      refine wpAny_mono (turn i ys nw v I oI C oC D m₂ h tk E' (by omega) hv hj hC hx F N off ne) (fun y s₂ hq => ?_) fun _ _ e => e
      obtain ⟨h', tk', nw', e, F', N', off', hS, hj'⟩ := hq
      exact ⟨h', tk', nw', e, F', N', off', hS, ih (i + 1) _ _ (by omega) hj'⟩
  exact key n 0 [] news (by omega) h0

/-- the source is a text -/
def SrcT (prog : Program) (w : World) (A : Around) (h₀ : Heap) (L : Addr) (m : Str → Option Value) (env : Env) (elt : Expr) (x : Str) (scope : Scope) (cl : List (Str × Addr)) (Fin : Shared → List Value → List (Addr × Obj) → Prop) (xv : Value) (s₁ : Shared) : Prop :=
  ∃ xt tx news, xv = .str xt tx ∧ A.handled = none ∧ Fr h₀ L s₁.heap m ∧ News h₀ L s₁.heap news ∧ xt.cps.size ≤ sizeLine ∧
    ∀ s₂ : Shared, (∃ h, s₂ = { s₁ with heap := h }) → CompRest prog w A h₀ L m env elt x scope cl s₂ (fun _ => True) (SignAt xt) (Fin s₂) xt.cps.size 0 [] news
theorem str_st {I : Addr} {cls : String} {x : Str} {t : Tok} : ∀ i (h h' : Heap) (o : Obj) (nw : List (Addr × Obj)), h.IsStrIter I cls x t i → h.get? I = some o → h'.get? I = some o → (∀ b o, h₀.get? b = some o → h'.get? b = some o) → News h₀ L h' nw → True → h'.IsStrIter I cls x t i :=
  fun i h h' o nw st e e' _ _ _ => by obtain ⟨o', q, r⟩ := st; rw [e] at q; cases q; exact ⟨o, e', r⟩
theorem comp_text {elt iter : Expr} {x : Str} {px : Pos} {scope : Scope} {cl : List (Str × Addr)} {pos : Pos} {Q : Value → Shared → Prop} (_F₀ : Fr h₀ L s.heap m)
    (hclos : closureFor scope env = pure cl) (hcell : ∀ y ∈ scope.names, y.2 ≠ .cell) (hkind : scope.kind = .function)
    (hnames : ∀ y ∈ scope.names, y.2 = .local → scope.names.lookup y.1 = some .local) (hx : scope.names.lookup x = some .local)
    (h : wpAny (model prog w) A (eval iter env) (SrcT prog w A h₀ L m env elt x scope cl (fun s₂ => FinE h₀ L m s₂ Q)) E s)
    (hs : ∀ x, foldedSetIterable iter env x = pure x := by intro _; rfl) :
    wpAny (model prog w) A (eval (.ListComp elt [⟨.Name x px, iter, [], 0⟩] scope pos) env) Q E s := by
  rw [eval_ListComp]
  refine wpAny_comprehension_free (use := none) rfl hs hclos hkind hnames (wpAny_mono h (fun xv s₁ h₁ => ?_) fun _ _ e => e)
  obtain ⟨xt, tx, news, rfl, hh, F, N, hsz, R⟩ := h₁
  cases ha : xt.cps.all (· < 128)
  · refine wpAny_pyIter_wide ha ?_
    refine block_U (Walks.strWide hh s₁.heap.objs.size xt tx) hsz (fun i h st => let ⟨o, ho, _⟩ := st; ⟨o, ho⟩) str_st hcell hkind hx ⟨_, Heap.get?_push_size _ rfl, rfl, rfl⟩ (fun b hb => ?_)
      (F.keeps fun _ _ e => Heap.get?_push_of_some _ e) (N.grown fun _ _ e => Heap.get?_push_of_some _ e) (Nat.ne_of_lt F.ns.lt) (next_is_new F) (fun p hp => Nat.ne_of_lt (Heap.lt_size (N p hp).1)) trivial (R _ ⟨_, rfl⟩) ?_
    · rw [List.mem_singleton.mp hb]
      show s₁.heap.objs.size < (s₁.heap.push _).objs.size
      rw [Heap.size_push]; exact Nat.lt_succ_self _
    · intro D C h tk m' ys news' F' N' o1 hn hC₀ hD₀ hCL hDL hCD offC fin
      refine ⟨m', hn, fun h'' hs'' => fin D h'' tk (F'.change hs'' hCL hC₀) (fun p hp => ?_) o1⟩
      refine ⟨hs''.extBut _ _ ?_ (N' p hp).1, (N' p hp).2⟩
      rcases List.mem_cons.mp hp with rfl | hp
      · exact Ne.symm hCD
      · exact offC p hp
  · refine wpAny_pyIter_ascii ha ?_
    refine block_U (Walks.strAscii hh s₁.heap.objs.size xt tx) hsz (fun i h st => let ⟨o, ho, _⟩ := st; ⟨o, ho⟩) str_st hcell hkind hx ⟨_, Heap.get?_push_size _ rfl, rfl, rfl⟩ (fun b hb => ?_)
      (F.keeps fun _ _ e => Heap.get?_push_of_some _ e) (N.grown fun _ _ e => Heap.get?_push_of_some _ e) (Nat.ne_of_lt F.ns.lt) (next_is_new F) (fun p hp => Nat.ne_of_lt (Heap.lt_size (N p hp).1)) trivial (R _ ⟨_, rfl⟩) ?_
    · rw [List.mem_singleton.mp hb]
      show s₁.heap.objs.size < (s₁.heap.push _).objs.size
      rw [Heap.size_push]; exact Nat.lt_succ_self _
    · intro D C h tk m' ys news' F' N' o1 hn hC₀ hD₀ hCL hDL hCD offC fin
      refine ⟨m', hn, fun h'' hs'' => fin D h'' tk (F'.change hs'' hCL hC₀) (fun p hp => ?_) o1⟩
      refine ⟨hs''.extBut _ _ ?_ (N' p hp).1, (N' p hp).2⟩
      rcases List.mem_cons.mp hp with rfl | hp
      · exact Ne.symm hCD
      · exact offC p hp
/-- the same, with a test ahead of each item -/
theorem rest_invT {ct elt : Expr} {x : Str} {scope : Scope} {cl : List (Str × Addr)} {S : List (Addr × Obj) → Prop} {P : Nat → Value → Prop} {Fin : List Value → List (Addr × Obj) → Prop} {n : Nat} {news : List (Addr × Obj)} (J : Nat → List Value → List (Addr × Obj) → Prop)
    (h0 : J 0 [] news)
    (turn : ∀ i ys nw v I oI C oC D m₂ h tk (E' : Value → Shared → Prop), i < n → P i v → J i ys nw → NsObj oC m₂ → m₂ x = some v → Fr h₀ L h m → News h₀ L h ((I, oI) :: (C, oC) :: (D, lst ys) :: nw) → Off3 I C D nw → ((@Ne Nat I C) ∧ (@Ne Nat I D) ∧ (@Ne Nat C D)) →
      wpAny (model prog w) A (isTrue ct (compEnvC scope cl C env) (eval ct (compEnvC scope cl C env))) (fun ok s' => if ok = true then
        wpAny (model prog w) A (eval elt (compEnvC scope cl C env)) (CompEnd h₀ L m { s with heap := h, toks := tk } I oI C oC D (lst ys) S (fun y news' => J (i + 1) (ys ++ [y]) news')) E' s'
        else CompEnd h₀ L m { s with heap := h, toks := tk } I oI C oC D (lst ys) S (fun _ news' => J (i + 1) ys news') Value.none s') E' { s with heap := h, toks := tk })
    (fin : ∀ ys nw, J n ys nw → Fin ys nw) : LCt.CompRestT prog w A h₀ L m env ct elt x scope cl s S P Fin n 0 [] news := by
  have key : ∀ k i ys nw, i + k = n → J i ys nw → LCt.CompRestT prog w A h₀ L m env ct elt x scope cl s S P Fin k i ys nw := by
    intro k
    induction k with
    | zero => intro i ys nw hi hj; exact LCt.CompRestT.zero (fin ys nw (by rw [← hi]; exact hj))
    | succ k ih =>
      intro i ys nw hi hj
      refine LCt.CompRestT.succ ?_
      intro v I oI C oC D m₂ h tk E' hv hC hx F N off ne
      refine wpAny_mono (turn i ys nw v I oI C oC D m₂ h tk E' (by omega) hv hj hC hx F N off ne) (fun ok s₂ hq => ?_) fun _ _ e => e
      cases ok with
      | true =>
        simp only [if_true] at hq ⊢
        refine wpAny_mono hq (fun y s₃ h₃ => ?_) fun _ _ e => e
        obtain ⟨h', tk', nw', e, F', N', off', hS, hj'⟩ := h₃
        exact ⟨h', tk', nw', e, F', N', off', hS, ih (i + 1) _ _ (by omega) hj'⟩
      | false =>
        simp only [Bool.false_eq_true, if_false] at hq ⊢
        obtain ⟨h', tk', nw', e, F', N', off', hS, hj'⟩ := hq
        exact ⟨h', tk', nw', e, F', N', off', hS, ih (i + 1) _ _ (by omega) hj'⟩
  exact key n 0 [] news (by omega) h0
end

section
open PySem.Builtin PySem.Builtin.ObjectAttr
theorem store_function : StoreFacts "function" [.type "function", .type "object"] "object.__setattr__" "object" where
  mro := by kernel_rfl
  slot := .of (owner := "object") (n := "__setattr__") (by rw [typeLookup_type, builtinLookup_eq_fast]; kernel_rfl) (by decide +kernel) (by decide +kernel) (by decide +kernel)
    (by first | exact .inl (by decide +kernel) | exact .inr (by decide +kernel)) (by rw [isSubtype_type]; kernel_rfl)
  entry := PySem.F.store_object.entry
  kind := by decide +kernel
  split := by decide +kernel
  hasOwner := by decide +kernel
  args := fun a b c => by unfold argsOk; kernel_rfl
  passes := fun self => by kernel_rfl
theorem function_no_read : typeLookup (.type "function") (Str.ofString "read") = pure none := by rw [typeLookup_type, builtinLookup_eq_fast]; kernel_rfl

variable {prog : Program} {w : World} {A : Around} {E : Value → Shared → Prop} {s : Shared} {h₀ : Heap} {L : Addr} {m : Str → Option Value} {news : List (Addr × Obj)}
theorem fn_set {f : Addr} {fd : FuncData} {sl : Array (Option Value)} {v : Value} {Q : Unit → Shared → Prop} (F : Fr h₀ L s.heap m) (N : News h₀ L s.heap ((f, ⟨.type "function", none, .func fd, sl⟩) :: news)) (hne : ∀ p ∈ news, p.1 ≠ f)
    (h : ∀ d h' tk', Fr h₀ L h' m → News h₀ L h' ((d, dictOf [⟨PyData.keyHash w.params (Str.ofString "read"), .str (Str.ofString "read") tk', v⟩] 1) :: (f, ⟨.type "function", some d, .func fd, sl⟩) :: news) → f < d → (∀ p ∈ news, p.1 < d) → Q () { s with heap := h', toks := tk' + 1 }) :
    wpAny (model prog w) A (setAttr (.ref f) (Str.ofString "read") v) Q E s := by
  have hx := (N _ (.head _)).1
  have hT : s.TypeIs (.ref f) "function" := ⟨_, hx, rfl⟩
  have SF := store_function
  refine wpAny_bind (wpAny_mkText (wpAny_bind (wpAny_callSpecial?_slot (name := Str.ofString "__setattr__") (s := { s with toks := s.toks + 1 }) hT SF.slot ?_)))
  refine wpAny_call_entry SF.slot (s := { s with toks := s.toks + 1 }) hT SF.entry ?_ (SF.args _ _ _)
  have hpass := SF.passes (.ref f)
  have hno := function_no_read
  have hty : ∀ (Q : Value → Shared → Prop), Q (.type "function") { s with toks := s.toks + 1 } → wpAny (model prog w) A.in1 (typeOf (.ref f)) Q (fun e s' => E e s') { s with toks := s.toks + 1 } := fun Q q => wpAny_typeOf (s := { s with toks := s.toks + 1 }) hT q
  have ho : ownStreamTells (.ref f) (.type "function") = pure () := rfl
  unfold Builtin.«object.__setattr__»
  refine wpAny_bind ?_
  rw [refuse_eq]
  refine wpAny_bind (hty _ (wpAny_bind (wpAny_of_eq SF.mro (wpAny_of_eq hpass ?_))))
  refine wpAny_bind (m := attrName _) (wpAny_pure (wpAny_bind (hty _ (wpAny_bind (wpAny_of_eq hno ?_)))))
  refine wpAny_bind (m := storeTaker? none) (wpAny_pure ?_)
  show wpAny _ _ (storeInOwnDict (Value.ref f) (.type "function") (Value.str (Str.ofString "read") s.toks) (Str.ofString "read") v false) _ _ _
  unfold storeInOwnDict
  refine wpAny_bind (wpAny_of_eq ho ?_)
  rw [if_neg (by decide)]
  refine wpAny_bind ?_
  show wpAny _ _ (instanceDict f true) _ _ _
  unfold instanceDict
  refine wpAny_bind (wpAny_loadPart hx ?_)
  dsimp only
  rw [if_neg (by decide +kernel)]
  refine wpAny_bind (wpAny_alloc ?_)
  have F1 := F.push { cls := .type "dict", data := .dict #[] }
  have N1 := News.push F N { cls := .type "dict", data := .dict #[] }
  have hfd : f < s.heap.objs.size := Heap.lt_size hx
  have hnd : ∀ p ∈ news, p.1 < s.heap.objs.size := fun p hp => Heap.lt_size (N p (.tail _ hp)).1
  obtain ⟨F2, N2⟩ := news_upd (pre := [(s.heap.objs.size, { cls := .type "dict", data := .dict #[] })]) (post := news) (d := f) (o' := ⟨.type "function", some s.heap.objs.size, .func fd, sl⟩) (f := fun o => { cls := o.cls, dict := some s.heap.objs.size, data := o.data, slots := o.slots }) F1 N1
    (fun p hp => by rw [List.mem_singleton.mp hp]; exact Nat.ne_of_gt hfd) hne rfl rfl
  refine wpAny_bind (wpAny_update (N1 _ (.tail _ (.head _))).1 ?_)
  refine wpAny_of_eq (a := some s.heap.objs.size) (by kernel_rfl) ?_
  show wpAny _ _ (storeInDict s.heap.objs.size (Value.str (Str.ofString "read") s.toks) (Str.ofString "read") v) _ _ _
  unfold storeInDict newKeyGuard
  refine wpAny_bind (wpAny_pure (wpAny_bind ?_))
  refine kp_nsSet (es := []) (n := 0) F2 N2 (fun p hp => ?_) (fun e he => nomatch he) (fun e he => nomatch he) fun h' F' N' => ?_
  · rcases List.mem_cons.mp hp with rfl | hp
    · exact Nat.ne_of_lt hfd
    · exact Nat.ne_of_lt (hnd p hp)
  · refine wpAny_bind (wpAny_lookBehind (N' _ (.head _)).1 (pastItsLine_dict (by rw [sizeLine_eq]; simp)) ?_)
    exact wpAny_pure ⟨_, rfl, wpAny_pure (h _ h' _ F' N' hfd hnd)⟩
theorem slot_function_ga : Slot "function" "__getattribute__" "object.__getattribute__" :=
  .of (owner := "object") (n := "__getattribute__") (by rw [typeLookup_type, builtinLookup_eq_fast]; kernel_rfl) (by decide +kernel) (by decide +kernel) (by decide +kernel)
    (by first | exact .inl (by decide +kernel) | exact .inr (by decide +kernel)) (by rw [isSubtype_type]; kernel_rfl)
theorem function_no_hook : typeLookup (.type "function") (Str.ofString "__getattr__") = pure none := by rw [typeLookup_type, builtinLookup_eq_fast]; kernel_rfl
theorem args_object_ga (a b : Value) : argsOk "object.__getattribute__" ⟨[a, b], []⟩ := by unfold argsOk; kernel_rfl
theorem fn_getAttr {f d : Addr} {fd : FuncData} {sl : Array (Option Value)} {rf : Addr} {kh : Int} {kt : Tok} {e : Bool} {Q : Value → Shared → Prop} (hx : s.heap.get? f = some ⟨.type "function", some d, .func fd, sl⟩) (hdx : s.heap.get? d = some (dictOf [⟨kh, .str (Str.ofString "read") kt, .ref rf⟩] 1))
    (h : Q (.ref rf) { s with toks := s.toks + 1 }) : wpAny (model prog w) A (getAttr (.ref f) (Str.ofString "read") e) Q E s := by
  have hT : s.TypeIs (.ref f) "function" := ⟨_, hx, rfl⟩
  have hno := function_no_read
  have hty : ∀ (A : Around) (E : Value → Shared → Prop) (Q : Value → Shared → Prop), Q (.type "function") { s with toks := s.toks + 1 } → wpAny (model prog w) A (typeOf (.ref f)) Q E { s with toks := s.toks + 1 } := fun A E Q q => wpAny_typeOf (s := { s with toks := s.toks + 1 }) hT q
  refine wpAny_bind (wpAny_mkText ?_)
  unfold getAttrBy
  refine wpAny_holding (wpAny_bind (hty _ _ _ (wpAny_bind (wpAny_of_eq slot_function_ga.lookup ?_))))
  show wpAny _ _ (getAttrByItsOwn (.ref f) (.str (Str.ofString "read") s.toks) (.type "function") (.builtin "object.__getattribute__") true e) _ _ _
  unfold getAttrByItsOwn
  refine wpAny_bind (m := hookBefore (.type "function")) (wpAny_pure (wpAny_bind (wpAny_attempt (wpAny_holding ?_))))
  unfold callGetattribute
  rw [if_neg (by simp [onTheHeap])]
  unfold boundAndCalled
  refine wpAny_bind (wpAny_of_eq (slot_function_ga.bind (.ref f)) ?_)
  refine wpAny_call_entry slot_function_ga (s := { s with toks := s.toks + 1 }) hT PySem.F.entry_object_getattribute ?_ (args_object_ga _ _)
  unfold Builtin.«object.__getattribute__»
  refine wpAny_bind (wpAny_of_eq (a := (Value.ref f, [Value.str (Str.ofString "read") s.toks])) rfl ?_)
  refine wpAny_bind (m := attrName _) (wpAny_pure (wpAny_bind (hty _ _ _ (wpAny_bind ?_))))
  unfold find
  refine wpAny_bind (wpAny_of_eq hno (wpAny_bind (m := getOf none) (wpAny_pure (wpAny_bind (m := dataDescriptor? none none) (wpAny_pure ?_)))))
  show wpAny _ _ (ownThenClass (.ref f) (Str.ofString "read") none none) _ _ _
  unfold ownThenClass inOwnDict ObjectAttr.ownDict
  refine wpAny_bind (wpAny_bind (wpAny_bind (m := loadHead f) (wpAny_loadPart hx ?_)))
  show wpAny _ _ (instanceDict f false) _ _ _
  unfold instanceDict
  refine wpAny_bind (wpAny_loadPart hx ?_)
  dsimp only
  refine wpAny_pure ?_
  show wpAny _ _ (nsGet d (Str.ofString "read")) _ _ _
  have hns : s.heap.Ns d (fun y => nsFind #[⟨kh, .str (Str.ofString "read") kt, .ref rf⟩] y) := ⟨_, _, _, hdx, rfl, fun e he => by
    rw [show e = ⟨kh, .str (Str.ofString "read") kt, .ref rf⟩ from by simpa using he]; exact ⟨_, _, rfl⟩, fun _ => rfl⟩
  refine wpAny_nsGet hns ?_
  rw [show nsFind #[⟨kh, .str (Str.ofString "read") kt, .ref rf⟩] (Str.ofString "read") = some (.ref rf) from by simp [nsFind, findBy, Value.isStr]]
  exact wpAny_bind (wpAny_rule (wpAny_pure (wpAny_pure ⟨_, rfl, wpAny_pure h⟩)))
theorem fn_getMethod {f d : Addr} {fd : FuncData} {sl : Array (Option Value)} {rf : Addr} {kh : Int} {kt : Tok} {pl : Sem Bool} {Q : Value × List Value → Shared → Prop} (hx : s.heap.get? f = some ⟨.type "function", some d, .func fd, sl⟩) (hdx : s.heap.get? d = some (dictOf [⟨kh, .str (Str.ofString "read") kt, .ref rf⟩] 1))
    (h : Q (.ref rf, []) { s with toks := s.toks + 1 }) : wpAny (model prog w) A (getMethod (.ref f) (Str.ofString "read") pl) Q E s := by
  have hT : s.TypeIs (.ref f) "function" := ⟨_, hx, rfl⟩
  unfold getMethod
  refine wpAny_bind (wpAny_specialOf hT slot_function_ga.lookup ?_)
  dsimp only
  rw [if_neg (by decide +kernel)]
  refine wpAny_bind (wpAny_specialOf hT function_no_hook ?_)
  rw [if_neg (by decide)]
  refine wpAny_bind (wpAny_specialOf hT function_no_read ?_)
  exact wpAny_bind (fn_getAttr hx hdx (wpAny_pure h))
end


theorem bl_up {ns : List Int} {x lo hi : Int} (hs : ns.Pairwise (· ≤ ·)) (h1 : 0 ≤ lo) (h2 : lo < hi) (h3 : hi ≤ ns.length) (hx : ns.getD ((lo + hi).fdiv 2).toNat 0 < x) :
    ∀ i (h : i < ns.length), (i : Int) < (lo + hi).fdiv 2 + 1 → ns[i] < x := by
  intro i h hi'
  have e : (lo + hi).fdiv 2 = (lo + hi) / 2 := Int.fdiv_eq_ediv_of_nonneg _ (by decide)
  rw [e] at hx hi'
  have hlt : ((lo + hi) / 2).toNat < ns.length := by omega
  rw [List.getD_eq_getElem?_getD, List.getElem?_eq_getElem hlt, Option.getD_some] at hx
  by_cases q : i = ((lo + hi) / 2).toNat
  · subst q; exact hx
  · have := List.pairwise_iff_getElem.mp hs i _ h hlt (by omega)
    omega
theorem bl_down {ns : List Int} {x lo hi : Int} (hs : ns.Pairwise (· ≤ ·)) (h1 : 0 ≤ lo) (h2 : lo < hi) (h3 : hi ≤ ns.length) (hx : ¬ ns.getD ((lo + hi).fdiv 2).toNat 0 < x) :
    ∀ i (h : i < ns.length), (lo + hi).fdiv 2 ≤ (i : Int) → x ≤ ns[i] := by
  intro i h hi'
  have e : (lo + hi).fdiv 2 = (lo + hi) / 2 := Int.fdiv_eq_ediv_of_nonneg _ (by decide)
  rw [e] at hx hi'
  have hlt : ((lo + hi) / 2).toNat < ns.length := by omega
  rw [List.getD_eq_getElem?_getD, List.getElem?_eq_getElem hlt, Option.getD_some] at hx
  by_cases q : i = ((lo + hi) / 2).toNat
  · subst q; omega
  · have := List.pairwise_iff_getElem.mp hs _ i hlt h (by omega)
    omega
theorem mid_bounds {lo hi : Int} (h1 : 0 ≤ lo) (h2 : lo < hi) : lo ≤ (lo + hi).fdiv 2 ∧ (lo + hi).fdiv 2 < hi := by
  have e : (lo + hi).fdiv 2 = (lo + hi) / 2 := Int.fdiv_eq_ediv_of_nonneg _ (by decide)
  omega

set_option maxHeartbeats 4000000 in
theorem bisectL {w : World} {loose : List Str} {mean : ExcName → Option Value} {mg mb : Str → Option Value}
    {dp un : Nat} {gd : Option (List Code)} {cn : Str} {cs : Scope} {a : Addr} {ccd : Value} {cl : List (Str × Addr)} {outer : List Env} {A₀ : Around} {base h₀ : Heap} {L : Addr} {m : Str → Option Value} {s : Shared} {R : Result → Shared → Prop}
    {news : List (Addr × Obj)} {l : Addr} {vs : List Value} {ns : List Int} {nn : Nat} {x : Int} {tx t0 : Tok}
    (B : Below A₀ base outer h₀) (F : Fr h₀ L s.heap m) (X : (Mine.hd.heap_1 w.params).In h₀) (T : Top topProg loose mean mg mb h₀) (hk : cs.kind = .function)
    (hd : dp + 1 < recursionLimit) (hu : un + 8 < cLine)
    (N : News h₀ L s.heap news) (hl : (l, listOf vs.toArray nn) ∈ news)
    (hi : IntsAre vs ns) (hlen : ns.length < 100) (hsort : ns.Pairwise (· ≤ ·))
    (hret : ∀ (r : Nat) t h' tk', r ≤ ns.length → (∀ i (h : i < ns.length), i < r ↔ ns[i] < x) → Fr h₀ L h' m → News h₀ L h' news → R (.ok (.ret (.int r t))) { s with heap := h', toks := tk' }) :
    codeAny (model Challenge.rw_pe0248_01.row.prog w) (ktrTop dp un gd cn cs L a ccd cl outer) (.call (.ref 57) ⟨[.ref l, .int x tx, .int 0 t0, .none], []⟩) R s := by
  ((w_on; (have hfill : Challenge.rw_pe0248_01 = Challenge.rw_pe0248_01 ∧ Mine.hd.heap_1 = Mine.hd.heap_1 := by (k_fill; exact ⟨rfl, rfl⟩)); clear hfill))
  replace N := news_dup N hl
  k_dflt (((refine' code_def ?k1 ?k2 ?k3 ?k4 ?k5 ?kA ?kF ?kK ?k6 ?k7 ?k8 ?k9 ?kB ?_ ?c2 ?c3 ?c4 ?c5; (case kA => exact rfl); (case kF => exact rfl); (case kK => first | exact rfl | assumption); (case k1 => k_asm); (case k2 => k_asm); (case k3 => k_asm); (case k4 => k_asm); (case k5 => k_asm); (case k6 => k_is); (case k7 => k_is); (case k8 => ktr_room); (case k9 => first | exact BindsTo.of_eq rfl | exact binds_K (by k_in) rfl (by k_is) rfl rfl rfl | (refine' kp_binds ?kx ?ke; (case kx => k_in); (case ke => exact fun _ => rfl))); (case c5 => decide); (case kB => exact locs rfl); (case c2 => exact rfl); (case c3 => exact rfl); (case c4 => exact rfl); k_whole; intro _ _ _ _ _ _ B' _ _; (try dsimp only); (try k_lift B'); (try k_fold))))
  k_steps
  refine Stop.out ?_
  (rename Fr _ _ _ _ => lF'); (rename News _ _ _ _ => lN')
  (with_unfolding_all refine' ksw_while (σ := Int × Tok × Int × Tok) (fun _ => (l, listOf vs.toArray nn) :: news) (fun c => [(Str.ofString "lo", .int c.1 c.2.1), (Str.ofString "hi", .int c.2.2.1 c.2.2.2)]) (fun _ => True) [Str.ofString "mid"] (fun c => 0 ≤ c.1 ∧ c.1 ≤ c.2.2.1 ∧ c.2.2.1 ≤ ns.length ∧ (∀ i (h : i < ns.length), (i : Int) < c.1 → ns[i] < x) ∧ (∀ i (h : i < ns.length), c.2.2.1 ≤ (i : Int) → x ≤ ns[i])) (fun c => (c.2.2.1 - c.1).toNat) ⟨0, _, ns.length, _⟩ lF' lN' trivial ?kk ?kp ?_)
  case kk => kst_all
  case kp => (dsimp only; exact ⟨by omega, by omega, by omega, fun i h h' => by omega, fun i h h' => by omega⟩)
  clear lF' lN'
  rintro ⟨lo, tlo, hi', thi⟩ u h tk - ⟨hp1, hp2, hp3, hp4, hp5⟩ F1 N1
  dsimp only [kstB] at hp1 hp2 hp3 hp4 hp5 F1 N1
  (try k_fold)
  k_steps
  · have hb := mid_bounds hp1 (by assumption)
    have h4 := bl_up hsort hp1 (by assumption) hp3 (by assumption)
    refine Stop.out ?_
    refine ksw_end ⟨(lo + hi').fdiv 2 + 1, _, hi', thi⟩ (by assumption) (by assumption) (fun p hp => hp) trivial (by kst_all) (by ksw_same) ⟨by dsimp only; omega, by dsimp only; omega, by dsimp only; omega, h4, hp5⟩ (by dsimp only; omega)
  · have hb := mid_bounds hp1 (by assumption)
    have h4 := bl_down hsort hp1 (by assumption) hp3 (by assumption)
    refine Stop.out ?_
    refine ksw_end ⟨lo, tlo, (lo + hi').fdiv 2, _⟩ (by assumption) (by assumption) (fun p hp => hp) trivial (by kst_all) (by ksw_same) ⟨by dsimp only; omega, by dsimp only; omega, by dsimp only; omega, hp4, h4⟩ (by dsimp only; omega)
  · have e : lo = (lo.toNat : Int) := by omega
    rw [e]
    refine hret lo.toNat _ _ _ (by omega) (fun i h => ⟨fun q => hp4 i h (by omega), fun q => ?_⟩) (by assumption) (news_tail (by assumption))
    by_cases z : i < lo.toNat
    · exact z
    · have := hp5 i h (by omega)
      omega

theorem br_up {ns : List Int} {x lo hi : Int} (hs : ns.Pairwise (· ≤ ·)) (h1 : 0 ≤ lo) (h2 : lo < hi) (h3 : hi ≤ ns.length) (hx : ¬ x < ns.getD ((lo + hi).fdiv 2).toNat 0) :
    ∀ i (h : i < ns.length), (i : Int) < (lo + hi).fdiv 2 + 1 → ns[i] ≤ x := fun i h q => by
  have := bl_up (x := x + 1) hs h1 h2 h3 (by omega) i h q
  omega
theorem br_down {ns : List Int} {x lo hi : Int} (hs : ns.Pairwise (· ≤ ·)) (h1 : 0 ≤ lo) (h2 : lo < hi) (h3 : hi ≤ ns.length) (hx : x < ns.getD ((lo + hi).fdiv 2).toNat 0) :
    ∀ i (h : i < ns.length), (lo + hi).fdiv 2 ≤ (i : Int) → x < ns[i] := fun i h q => by
  have := bl_down (x := x + 1) hs h1 h2 h3 (by omega) i h q
  omega
set_option maxHeartbeats 4000000 in
theorem bisectR {w : World} {loose : List Str} {mean : ExcName → Option Value} {mg mb : Str → Option Value}
    {dp un : Nat} {gd : Option (List Code)} {cn : Str} {cs : Scope} {a : Addr} {ccd : Value} {cl : List (Str × Addr)} {outer : List Env} {A₀ : Around} {base h₀ : Heap} {L : Addr} {m : Str → Option Value} {s : Shared} {R : Result → Shared → Prop}
    {news : List (Addr × Obj)} {l : Addr} {vs : List Value} {ns : List Int} {nn : Nat} {x : Int} {tx t0 : Tok}
    (B : Below A₀ base outer h₀) (F : Fr h₀ L s.heap m) (X : (Mine.hd.heap_1 w.params).In h₀) (T : Top topProg loose mean mg mb h₀) (hk : cs.kind = .function)
    (hd : dp + 1 < recursionLimit) (hu : un + 8 < cLine)
    (N : News h₀ L s.heap news) (hl : (l, listOf vs.toArray nn) ∈ news)
    (hi : IntsAre vs ns) (hlen : ns.length < 100) (hsort : ns.Pairwise (· ≤ ·))
    (hret : ∀ (r : Nat) t h' tk', r ≤ ns.length → (∀ i (h : i < ns.length), i < r ↔ ns[i] ≤ x) → Fr h₀ L h' m → News h₀ L h' news → R (.ok (.ret (.int r t))) { s with heap := h', toks := tk' }) :
    codeAny (model Challenge.rw_pe0248_01.row.prog w) (ktrTop dp un gd cn cs L a ccd cl outer) (.call (.ref 39) ⟨[.ref l, .int x tx, .int 0 t0, .none], []⟩) R s := by
  ((w_on; (have hfill : Challenge.rw_pe0248_01 = Challenge.rw_pe0248_01 ∧ Mine.hd.heap_1 = Mine.hd.heap_1 := by (k_fill; exact ⟨rfl, rfl⟩)); clear hfill))
  replace N := news_dup N hl
  k_dflt (((refine' code_def ?k1 ?k2 ?k3 ?k4 ?k5 ?kA ?kF ?kK ?k6 ?k7 ?k8 ?k9 ?kB ?_ ?c2 ?c3 ?c4 ?c5; (case kA => exact rfl); (case kF => exact rfl); (case kK => first | exact rfl | assumption); (case k1 => k_asm); (case k2 => k_asm); (case k3 => k_asm); (case k4 => k_asm); (case k5 => k_asm); (case k6 => k_is); (case k7 => k_is); (case k8 => ktr_room); (case k9 => first | exact BindsTo.of_eq rfl | exact binds_K (by k_in) rfl (by k_is) rfl rfl rfl | (refine' kp_binds ?kx ?ke; (case kx => k_in); (case ke => exact fun _ => rfl))); (case c5 => decide); (case kB => exact locs rfl); (case c2 => exact rfl); (case c3 => exact rfl); (case c4 => exact rfl); k_whole; intro _ _ _ _ _ _ B' _ _; (try dsimp only); (try k_lift B'); (try k_fold))))
  k_steps
  refine Stop.out ?_
  (rename Fr _ _ _ _ => lF'); (rename News _ _ _ _ => lN')
  (with_unfolding_all refine' ksw_while (σ := Int × Tok × Int × Tok) (fun _ => (l, listOf vs.toArray nn) :: news) (fun c => [(Str.ofString "lo", .int c.1 c.2.1), (Str.ofString "hi", .int c.2.2.1 c.2.2.2)]) (fun _ => True) [Str.ofString "mid"] (fun c => 0 ≤ c.1 ∧ c.1 ≤ c.2.2.1 ∧ c.2.2.1 ≤ ns.length ∧ (∀ i (h : i < ns.length), (i : Int) < c.1 → ns[i] ≤ x) ∧ (∀ i (h : i < ns.length), c.2.2.1 ≤ (i : Int) → x < ns[i])) (fun c => (c.2.2.1 - c.1).toNat) ⟨0, _, ns.length, _⟩ lF' lN' trivial ?kk ?kp ?_)
  case kk => kst_all
  case kp => (dsimp only; exact ⟨by omega, by omega, by omega, fun i h h' => by omega, fun i h h' => by omega⟩)
  clear lF' lN'
  rintro ⟨lo, tlo, hi', thi⟩ u h tk - ⟨hp1, hp2, hp3, hp4, hp5⟩ F1 N1
  dsimp only [kstB] at hp1 hp2 hp3 hp4 hp5 F1 N1
  (try k_fold)
  k_steps
  · have hb := mid_bounds hp1 (by assumption)
    have h4 := br_down hsort hp1 (by assumption) hp3 (by assumption)
    refine Stop.out ?_
    refine ksw_end ⟨lo, tlo, (lo + hi').fdiv 2, _⟩ (by assumption) (by assumption) (fun p hp => hp) trivial (by kst_all) (by ksw_same) ⟨by dsimp only; omega, by dsimp only; omega, by dsimp only; omega, hp4, h4⟩ (by dsimp only; omega)
  · have hb := mid_bounds hp1 (by assumption)
    have h4 := br_up hsort hp1 (by assumption) hp3 (by assumption)
    refine Stop.out ?_
    refine ksw_end ⟨(lo + hi').fdiv 2 + 1, _, hi', thi⟩ (by assumption) (by assumption) (fun p hp => hp) trivial (by kst_all) (by ksw_same) ⟨by dsimp only; omega, by dsimp only; omega, by dsimp only; omega, h4, hp5⟩ (by dsimp only; omega)
  · have e : lo = (lo.toNat : Int) := by omega
    rw [e]
    refine hret lo.toNat _ _ _ (by omega) (fun i h => ⟨fun q => hp4 i h (by omega), fun q => ?_⟩) (by assumption) (news_tail (by assumption))
    by_cases z : i < lo.toNat
    · exact z
    · have := hp5 i h (by omega)
      omega

set_option maxHeartbeats 4000000 in
theorem bisectR2 {w : World} {loose : List Str} {mean : ExcName → Option Value} {mg mb : Str → Option Value}
    {dp un : Nat} {gd : Option (List Code)} {cn : Str} {cs : Scope} {a : Addr} {ccd : Value} {cl : List (Str × Addr)} {outer : List Env} {A₀ : Around} {base h₀ : Heap} {L : Addr} {m : Str → Option Value} {s : Shared} {R : Result → Shared → Prop}
    {news : List (Addr × Obj)} {l : Addr} {vs : List Value} {ns : List Int} {nn : Nat} {x : Int} {tx : Tok}
    (B : Below A₀ base outer h₀) (F : Fr h₀ L s.heap m) (X : (Mine.hd.heap_1 w.params).In h₀) (T : Top topProg loose mean mg mb h₀) (hk : cs.kind = .function)
    (hd : dp + 1 < recursionLimit) (hu : un + 8 < cLine)
    (N : News h₀ L s.heap news) (hl : (l, listOf vs.toArray nn) ∈ news)
    (hi : IntsAre vs ns) (hlen : ns.length < 100) (hsort : ns.Pairwise (· ≤ ·))
    (hret : ∀ (r : Nat) t h' tk', r ≤ ns.length → (∀ i (h : i < ns.length), i < r ↔ ns[i] ≤ x) → Fr h₀ L h' m → News h₀ L h' news → R (.ok (.ret (.int r t))) { s with heap := h', toks := tk' }) :
    codeAny (model Challenge.rw_pe0248_01.row.prog w) (ktrTop dp un gd cn cs L a ccd cl outer) (.call (.ref 39) ⟨[.ref l, .int x tx], []⟩) R s := by
  ((w_on; (have hfill : Challenge.rw_pe0248_01 = Challenge.rw_pe0248_01 ∧ Mine.hd.heap_1 = Mine.hd.heap_1 := by (k_fill; exact ⟨rfl, rfl⟩)); clear hfill))
  replace N := news_dup N hl
  k_dflt (((refine' code_def ?k1 ?k2 ?k3 ?k4 ?k5 ?kA ?kF ?kK ?k6 ?k7 ?k8 ?k9 ?kB ?_ ?c2 ?c3 ?c4 ?c5; (case kA => exact rfl); (case kF => exact rfl); (case kK => first | exact rfl | assumption); (case k1 => k_asm); (case k2 => k_asm); (case k3 => k_asm); (case k4 => k_asm); (case k5 => k_asm); (case k6 => k_is); (case k7 => k_is); (case k8 => ktr_room); (case k9 => first | exact BindsTo.of_eq rfl | exact binds_K (by k_in) rfl (by k_is) rfl rfl rfl | (refine' kp_binds ?kx ?ke; (case kx => k_in); (case ke => exact fun _ => rfl))); (case c5 => decide); (case kB => exact locs rfl); (case c2 => exact rfl); (case c3 => exact rfl); (case c4 => exact rfl); k_whole; intro _ _ _ _ _ _ B' _ _; (try dsimp only); (try k_lift B'); (try k_fold))))
  k_steps
  refine Stop.out ?_
  (rename Fr _ _ _ _ => lF'); (rename News _ _ _ _ => lN')
  (with_unfolding_all refine' ksw_while (σ := Int × Tok × Int × Tok) (fun _ => (l, listOf vs.toArray nn) :: news) (fun c => [(Str.ofString "lo", .int c.1 c.2.1), (Str.ofString "hi", .int c.2.2.1 c.2.2.2)]) (fun _ => True) [Str.ofString "mid"] (fun c => 0 ≤ c.1 ∧ c.1 ≤ c.2.2.1 ∧ c.2.2.1 ≤ ns.length ∧ (∀ i (h : i < ns.length), (i : Int) < c.1 → ns[i] ≤ x) ∧ (∀ i (h : i < ns.length), c.2.2.1 ≤ (i : Int) → x < ns[i])) (fun c => (c.2.2.1 - c.1).toNat) ⟨0, _, ns.length, _⟩ lF' lN' trivial ?kk ?kp ?_)
  case kk => kst_all
  case kp => (dsimp only; exact ⟨by omega, by omega, by omega, fun i h h' => by omega, fun i h h' => by omega⟩)
  clear lF' lN'
  rintro ⟨lo, tlo, hi', thi⟩ u h tk - ⟨hp1, hp2, hp3, hp4, hp5⟩ F1 N1
  dsimp only [kstB] at hp1 hp2 hp3 hp4 hp5 F1 N1
  (try k_fold)
  k_steps
  · have hb := mid_bounds hp1 (by assumption)
    have h4 := br_down hsort hp1 (by assumption) hp3 (by assumption)
    refine Stop.out ?_
    refine ksw_end ⟨lo, tlo, (lo + hi').fdiv 2, _⟩ (by assumption) (by assumption) (fun p hp => hp) trivial (by kst_all) (by ksw_same) ⟨by dsimp only; omega, by dsimp only; omega, by dsimp only; omega, hp4, h4⟩ (by dsimp only; omega)
  · have hb := mid_bounds hp1 (by assumption)
    have h4 := br_up hsort hp1 (by assumption) hp3 (by assumption)
    refine Stop.out ?_
    refine ksw_end ⟨(lo + hi').fdiv 2 + 1, _, hi', thi⟩ (by assumption) (by assumption) (fun p hp => hp) trivial (by kst_all) (by ksw_same) ⟨by dsimp only; omega, by dsimp only; omega, by dsimp only; omega, h4, hp5⟩ (by dsimp only; omega)
  · have e : lo = (lo.toNat : Int) := by omega
    rw [e]
    refine hret lo.toNat _ _ _ (by omega) (fun i h => ⟨fun q => hp4 i h (by omega), fun q => ?_⟩) (by assumption) (news_tail (by assumption))
    by_cases z : i < lo.toNat
    · exact z
    · have := hp5 i h (by omega)
      omega

local macro_rules | `(tactic| walk_at "call ref") => `(tactic| ((with_reducible show wpAny _ _ (call (Value.ref _) _ _) _ _ _); refine Stop.mk ?_))
/-- a number laid into a row by size -/
def ins (x : Int) : List Int → List Int
  | [] => [x]
  | y :: r => if y < x then y :: ins x r else x :: y :: r
theorem ins_at {x : Int} : ∀ {ns : List Int} {r : Nat}, r ≤ ns.length → (∀ i (h : i < ns.length), i < r ↔ ns[i] < x) → ns.take r ++ x :: ns.drop r = ins x ns
  | [], r, hr, _ => by simp [ins]
  | y :: q, 0, _, h => by
    have := h 0 (by simp)
    simp at this
    simp [ins, Int.not_lt.mpr this]
  | y :: q, r + 1, hr, h => by
    have h0 := (h 0 (by simp)).mp (by omega)
    simp at h0
    have ih := ins_at (x := x) (ns := q) (r := r) (by simpa using hr) fun i hi => by
      have := h (i + 1) (by simpa using hi)
      simpa using this
    simp [ins, h0, ih]
theorem ins_at' {x : Int} : ∀ {ns : List Int} {r : Nat}, ns.Pairwise (· ≤ ·) → r ≤ ns.length → (∀ i (h : i < ns.length), i < r ↔ ns[i] ≤ x) → ns.take r ++ x :: ns.drop r = ins x ns
  | [], r, _, hr, _ => by simp [ins]
  | y :: q, 0, _, _, h => by
    have := h 0 (by simp)
    simp at this
    have h2 : ¬ y < x := by omega
    simp [ins, h2]
  | y :: q, r + 1, hs, hr, h => by
    have h0 := (h 0 (by simp)).mp (by omega)
    simp at h0
    have ih := ins_at' (x := x) (ns := q) (r := r) (List.pairwise_cons.mp hs).2 (by simpa using hr) fun i hi => by
      have := h (i + 1) (by simpa using hi)
      simpa using this
    by_cases e : y < x
    · simp [ins, e, ih]
    · have e2 : y = x := by omega
      subst e2
      -- all of q that are not above y are y: both lists are the same
      have : ∀ (l : List Int), (∀ z ∈ l, y ≤ z) → ins y l = y :: l := fun l hl => by
        cases l with
        | nil => rfl
        | cons z l => have := hl z (by simp); simp [ins, Int.not_lt.mpr this]
      rw [ins, if_neg e, List.take_succ_cons, List.drop_succ_cons, List.cons_append, ih, this q (List.pairwise_cons.mp hs).1]
theorem fits_index {r : Nat} (h : r < 100000) : Builtin.List.listFitsIndex (r : Int) = true := by
  unfold Builtin.List.listFitsIndex
  simp only [Bool.and_eq_true, decide_eq_true_eq]
  omega
theorem ints_ins {vs : List Value} {ns : List Int} {x : Int} {tx : Tok} {r : Nat} (hi : IntsAre vs ns) (hr : r ≤ ns.length) (he : ns.take r ++ x :: ns.drop r = ins x ns) : IntsAre (kl_ins vs (r : Int) (.int x tx)) (ins x ns) := by
  have hl : vs.length = ns.length := hi.length
  unfold kl_ins
  rw [if_neg (by omega), Int.toNat_natCast, Nat.min_eq_left (by omega), ← he]
  exact (hi.take r).append (.cons _ _ (hi.drop r))

set_option maxHeartbeats 4000000 in
theorem insortL {w : World} {loose : List Str} {mean : ExcName → Option Value} {mg mb : Str → Option Value}
    {dp un : Nat} {gd : Option (List Code)} {cn : Str} {cs : Scope} {a : Addr} {ccd : Value} {cl : List (Str × Addr)} {outer : List Env} {A₀ : Around} {base h₀ : Heap} {L : Addr} {m : Str → Option Value} {s : Shared} {R : Result → Shared → Prop}
    {led : List (Addr × Obj)} {g : Obj → List (Addr × Obj)} {l : Addr} {vs : List Value} {ns : List Int} {nn : Nat} {x : Int} {tx : Tok}
    (B : Below A₀ base outer h₀) (F : Fr h₀ L s.heap m) (X : (Mine.hd.heap_1 w.params).In h₀) (T : Top topProg loose mean mg mb h₀) (hk : cs.kind = .function)
    (hd : dp + 2 < recursionLimit) (hu : un + 16 < cLine)
    (N : News h₀ L s.heap led) (U : UpdF l (listOf vs.toArray nn) led g)
    (hi : IntsAre vs ns) (hlen : ns.length < 100) (hsort : ns.Pairwise (· ≤ ·))
    (hret : ∀ vs' nn' h' tk', IntsAre vs' (ins x ns) → Fr h₀ L h' m → News h₀ L h' (g (listOf vs'.toArray nn')) → R (.ok (.ret .none)) { s with heap := h', toks := tk' }) :
    codeAny (model Challenge.rw_pe0248_01.row.prog w) (ktrTop dp un gd cn cs L a ccd cl outer) (.call (.ref 48) ⟨[.ref l, .int x tx], []⟩) R s := by
  ((w_on; (have hfill : Challenge.rw_pe0248_01 = Challenge.rw_pe0248_01 ∧ Mine.hd.heap_1 = Mine.hd.heap_1 := by (k_fill; exact ⟨rfl, rfl⟩)); clear hfill))
  obtain ⟨news, N1, hne, -, -, hback⟩ := updF_front U N
  clear N U
  k_dflt (((refine' code_def ?k1 ?k2 ?k3 ?k4 ?k5 ?kA ?kF ?kK ?k6 ?k7 ?k8 ?k9 ?kB ?_ ?c2 ?c3 ?c4 ?c5; (case kA => exact rfl); (case kF => exact rfl); (case kK => first | exact rfl | assumption); (case k1 => k_asm); (case k2 => k_asm); (case k3 => k_asm); (case k4 => k_asm); (case k5 => k_asm); (case k6 => k_is); (case k7 => k_is); (case k8 => ktr_room); (case k9 => first | exact BindsTo.of_eq rfl | exact binds_K (by k_in) rfl (by k_is) rfl rfl rfl | (refine' kp_binds ?kx ?ke; (case kx => k_in); (case ke => exact fun _ => rfl))); (case c5 => decide); (case kB => exact locs rfl); (case c2 => exact rfl); (case c3 => exact rfl); (case c4 => exact rfl); k_whole; intro _ _ _ _ _ _ B' _ _; (try dsimp only); (try k_lift B'); (try k_fold))))
  k_steps; refine Stop.out ?_; (k_dflt (refine' wpAny_call (bisectL ?k1 ?k2 ?k3 ?k4 ?k5 ?k6 ?k7 ?k8 ?k9 ?k10 ?k11 ?k12 ?_); (case k1 => k_asm); (case k2 => k_asm); (case k3 => k_asm); (case k4 => k_asm); (case k5 => first | exact rfl | assumption); (case k6 => ktr_room); (case k7 => ktr_units); (case k8 => k_asm); (case k9 => k_mem); (case k10 => assumption); (case k11 => assumption); (case k12 => assumption))); intro _ _ _ _ _ _ _ _; (try dsimp only)
  k_steps
  refine' kl_insert ?F ?N ?f rfl ?U ?z ?_
  case F => k_asm
  case N => k_asm
  case U => k_upd
  case f => exact fits_index (by omega)
  case z => rw [sizeLine_eq]; have := hi.length; simp; omega
  intro h5 F5 N5
  k_steps
  exact hret _ _ _ _ (ints_ins hi (by assumption) (ins_at (by assumption) (by assumption))) (by assumption) (hback _ _ (by assumption))

set_option maxHeartbeats 4000000 in
theorem insortR {w : World} {loose : List Str} {mean : ExcName → Option Value} {mg mb : Str → Option Value}
    {dp un : Nat} {gd : Option (List Code)} {cn : Str} {cs : Scope} {a : Addr} {ccd : Value} {cl : List (Str × Addr)} {outer : List Env} {A₀ : Around} {base h₀ : Heap} {L : Addr} {m : Str → Option Value} {s : Shared} {R : Result → Shared → Prop}
    {led : List (Addr × Obj)} {g : Obj → List (Addr × Obj)} {l : Addr} {vs : List Value} {ns : List Int} {nn : Nat} {x : Int} {tx : Tok}
    (B : Below A₀ base outer h₀) (F : Fr h₀ L s.heap m) (X : (Mine.hd.heap_1 w.params).In h₀) (T : Top topProg loose mean mg mb h₀) (hk : cs.kind = .function)
    (hd : dp + 2 < recursionLimit) (hu : un + 16 < cLine)
    (N : News h₀ L s.heap led) (U : UpdF l (listOf vs.toArray nn) led g)
    (hi : IntsAre vs ns) (hlen : ns.length < 100) (hsort : ns.Pairwise (· ≤ ·))
    (hret : ∀ vs' nn' h' tk', IntsAre vs' (ins x ns) → Fr h₀ L h' m → News h₀ L h' (g (listOf vs'.toArray nn')) → R (.ok (.ret .none)) { s with heap := h', toks := tk' }) :
    codeAny (model Challenge.rw_pe0248_01.row.prog w) (ktrTop dp un gd cn cs L a ccd cl outer) (.call (.ref 30) ⟨[.ref l, .int x tx], []⟩) R s := by
  ((w_on; (have hfill : Challenge.rw_pe0248_01 = Challenge.rw_pe0248_01 ∧ Mine.hd.heap_1 = Mine.hd.heap_1 := by (k_fill; exact ⟨rfl, rfl⟩)); clear hfill))
  obtain ⟨news, N1, hne, -, -, hback⟩ := updF_front U N
  clear N U
  k_dflt (((refine' code_def ?k1 ?k2 ?k3 ?k4 ?k5 ?kA ?kF ?kK ?k6 ?k7 ?k8 ?k9 ?kB ?_ ?c2 ?c3 ?c4 ?c5; (case kA => exact rfl); (case kF => exact rfl); (case kK => first | exact rfl | assumption); (case k1 => k_asm); (case k2 => k_asm); (case k3 => k_asm); (case k4 => k_asm); (case k5 => k_asm); (case k6 => k_is); (case k7 => k_is); (case k8 => ktr_room); (case k9 => first | exact BindsTo.of_eq rfl | exact binds_K (by k_in) rfl (by k_is) rfl rfl rfl | (refine' kp_binds ?kx ?ke; (case kx => k_in); (case ke => exact fun _ => rfl))); (case c5 => decide); (case kB => exact locs rfl); (case c2 => exact rfl); (case c3 => exact rfl); (case c4 => exact rfl); k_whole; intro _ _ _ _ _ _ B' _ _; (try dsimp only); (try k_lift B'); (try k_fold))))
  k_steps; refine Stop.out ?_; (k_dflt (refine' wpAny_call (bisectR ?k1 ?k2 ?k3 ?k4 ?k5 ?k6 ?k7 ?k8 ?k9 ?k10 ?k11 ?k12 ?_); (case k1 => k_asm); (case k2 => k_asm); (case k3 => k_asm); (case k4 => k_asm); (case k5 => first | exact rfl | assumption); (case k6 => ktr_room); (case k7 => ktr_units); (case k8 => k_asm); (case k9 => k_mem); (case k10 => assumption); (case k11 => assumption); (case k12 => assumption))); intro _ _ _ _ _ _ _ _; (try dsimp only)
  k_steps
  refine' kl_insert ?F ?N ?f rfl ?U ?z ?_
  case F => k_asm
  case N => k_asm
  case U => k_upd
  case f => exact fits_index (by omega)
  case z => rw [sizeLine_eq]; have := hi.length; simp; omega
  intro h5 F5 N5
  k_steps
  exact hret _ _ _ _ (ints_ins hi (by assumption) (ins_at' hsort (by assumption) (by assumption))) (by assumption) (hback _ _ (by assumption))

abbrev lexD (e1 e2 e3 e4 : Int) (k1 k2 k3 k4 : Tok) (ln : Int) (tl : Tok) (st : Addr) (tw : Tok) (pb : Addr) (n : Nat) : Obj :=
  dictOf [⟨e1, .str (Str.ofString "lineno") k1, .int ln tl⟩, ⟨e2, .str (Str.ofString "instream") k2, .ref st⟩, ⟨e3, .str (Str.ofString "whitespace") k3, .str (Str.ofString "\n\t\r ") tw⟩, ⟨e4, .str (Str.ofString "pushback") k4, .ref pb⟩] n

set_option maxHeartbeats 4000000 in
theorem pushTok {w : World} {loose : List Str} {mean : ExcName → Option Value} {mg mb : Str → Option Value}
    {dp un : Nat} {gd : Option (List Code)} {cn : Str} {cs : Scope} {a : Addr} {ccd : Value} {cl : List (Str × Addr)} {outer : List Env} {A₀ : Around} {base h₀ : Heap} {L : Addr} {m : Str → Option Value} {s : Shared} {R : Result → Shared → Prop}
    {led : List (Addr × Obj)} {g : Obj → List (Addr × Obj)} {x dx pb st : Addr} {e1 e2 e3 e4 : Int} {k1 k2 k3 k4 tl tw : Tok} {ln : Int} {n : Nat} {vs : List Value} {ws : List Str} {nn : Nat} {v : Str} {tv : Tok}
    (B : Below A₀ base outer h₀) (F : Fr h₀ L s.heap m) (X : (Mine.hd.heap_1 w.params).In h₀) (T : Top topProg loose mean mg mb h₀) (hk : cs.kind = .function)
    (hd : dp + 1 < recursionLimit) (hu : un + 8 < cLine)
    (N : News h₀ L s.heap led) (hx : (x, instObj 95 dx) ∈ led) (hdx : (dx, lexD e1 e2 e3 e4 k1 k2 k3 k4 ln tl st tw pb n) ∈ led) (U : UpdF pb (listOf vs.toArray nn) led g)
    (hs : StrsAre vs ws) (hlen : ws.length < 100)
    (hret : ∀ vs' nn' h' tk', StrsAre vs' (ws ++ [v]) → Fr h₀ L h' m → News h₀ L h' (g (listOf vs'.toArray nn')) → R (.ok (.ret .none)) { s with heap := h', toks := tk' }) :
    codeAny (model Challenge.rw_pe0248_01.row.prog w) (ktrTop dp un gd cn cs L a ccd cl outer) (.call (.ref 92) ⟨[.ref x, .str v tv], []⟩) R s := by
  ((w_on; (have hfill : Challenge.rw_pe0248_01 = Challenge.rw_pe0248_01 ∧ Mine.hd.heap_1 = Mine.hd.heap_1 := by (k_fill; exact ⟨rfl, rfl⟩)); clear hfill))
  obtain ⟨news, N1, hne, -, hin, hback⟩ := updF_front U N
  have n1 : x ≠ pb := news_ne N N1 hx (.head _) (by simp)
  have n2 : dx ≠ pb := news_ne N N1 hdx (.head _) (by simp)
  replace N1 := news_dup (news_dup N1 (.tail _ (hin _ hdx n2))) (.tail _ (.tail _ (hin _ hx n1)))
  clear N U hin
  k_dflt (((refine' code_def ?k1 ?k2 ?k3 ?k4 ?k5 ?kA ?kF ?kK ?k6 ?k7 ?k8 ?k9 ?kB ?_ ?c2 ?c3 ?c4 ?c5; (case kA => exact rfl); (case kF => exact rfl); (case kK => first | exact rfl | assumption); (case k1 => k_asm); (case k2 => k_asm); (case k3 => k_asm); (case k4 => k_asm); (case k5 => k_asm); (case k6 => k_is); (case k7 => k_is); (case k8 => ktr_room); (case k9 => first | exact BindsTo.of_eq rfl | exact binds_K (by k_in) rfl (by k_is) rfl rfl rfl | (refine' kp_binds ?kx ?ke; (case kx => k_in); (case ke => exact fun _ => rfl))); (case c5 => decide); (case kB => exact locs rfl); (case c2 => exact rfl); (case c3 => exact rfl); (case c4 => exact rfl); k_whole; intro _ _ _ _ _ _ B' _ _; (try dsimp only); (try k_lift B'); (try k_fold))))
  k_steps
  refine' append_K ?F ?N ?U ?_ ?z
  case F => k_asm
  case N => k_asm
  case U => k_upd
  case z => rw [sizeLine_eq]; have := hs.length; simp; omega
  intro h5 F5 N5
  rw [List.push_toArray] at N5
  k_steps
  exact hret _ _ _ _ (hs.append' (.cons _ _ .nil)) (by assumption) (hback _ _ (news_tail (news_tail (by assumption))))

set_option maxHeartbeats 4000000 in
theorem getTokPop {w : World} {loose : List Str} {mean : ExcName → Option Value} {mg mb : Str → Option Value}
    {dp un : Nat} {gd : Option (List Code)} {cn : Str} {cs : Scope} {a : Addr} {ccd : Value} {cl : List (Str × Addr)} {outer : List Env} {A₀ : Around} {base h₀ : Heap} {L : Addr} {m : Str → Option Value} {s : Shared} {R : Result → Shared → Prop}
    {led : List (Addr × Obj)} {g : Obj → List (Addr × Obj)} {x dx pb st : Addr} {e1 e2 e3 e4 : Int} {k1 k2 k3 k4 tl tw : Tok} {ln : Int} {n : Nat} {vs : List Value} {ws : List Str} {nn : Nat} {v : Str}
    (B : Below A₀ base outer h₀) (F : Fr h₀ L s.heap m) (X : (Mine.hd.heap_1 w.params).In h₀) (T : Top topProg loose mean mg mb h₀) (hk : cs.kind = .function)
    (hd : dp + 1 < recursionLimit) (hu : un + 8 < cLine)
    (N : News h₀ L s.heap led) (hx : (x, instObj 95 dx) ∈ led) (hdx : (dx, lexD e1 e2 e3 e4 k1 k2 k3 k4 ln tl st tw pb n) ∈ led) (U : UpdF pb (listOf vs.toArray nn) led g)
    (hs : StrsAre vs (v :: ws)) (hlen : ws.length < 100)
    (hret : ∀ tv vs' nn' h' tk', StrsAre vs' ws → Fr h₀ L h' m → News h₀ L h' (g (listOf vs'.toArray nn')) → R (.ok (.ret (.str v tv))) { s with heap := h', toks := tk' }) :
    codeAny (model Challenge.rw_pe0248_01.row.prog w) (ktrTop dp un gd cn cs L a ccd cl outer) (.call (.ref 85) ⟨[.ref x], []⟩) R s := by
  ((w_on; (have hfill : Challenge.rw_pe0248_01 = Challenge.rw_pe0248_01 ∧ Mine.hd.heap_1 = Mine.hd.heap_1 := by (k_fill; exact ⟨rfl, rfl⟩)); clear hfill))
  obtain ⟨tv, vs1, e, hs1⟩ : ∃ tv vs1, vs = .str v tv :: vs1 ∧ StrsAre vs1 ws := by cases hs; exact ⟨_, _, rfl, by assumption⟩
  subst e
  clear hs
  obtain ⟨news, N1, hne, -, hin, hback⟩ := updF_front U N
  have n1 : x ≠ pb := news_ne N N1 hx (.head _) (by simp)
  have n2 : dx ≠ pb := news_ne N N1 hdx (.head _) (by simp)
  replace N1 := news_dup (news_dup N1 (.tail _ (hin _ hdx n2))) (.tail _ (.tail _ (hin _ hx n1)))
  clear N U hin
  k_dflt (((refine' code_def ?k1 ?k2 ?k3 ?k4 ?k5 ?kA ?kF ?kK ?k6 ?k7 ?k8 ?k9 ?kB ?_ ?c2 ?c3 ?c4 ?c5; (case kA => exact rfl); (case kF => exact rfl); (case kK => first | exact rfl | assumption); (case k1 => k_asm); (case k2 => k_asm); (case k3 => k_asm); (case k4 => k_asm); (case k5 => k_asm); (case k6 => k_is); (case k7 => k_is); (case k8 => ktr_room); (case k9 => first | exact BindsTo.of_eq rfl | exact binds_K (by k_in) rfl (by k_is) rfl rfl rfl | (refine' kp_binds ?kx ?ke; (case kx => k_in); (case ke => exact fun _ => rfl))); (case c5 => decide); (case kB => exact locs rfl); (case c2 => exact rfl); (case c3 => exact rfl); (case c4 => exact rfl); k_whole; intro _ _ _ _ _ _ B' _ _; (try dsimp only); (try k_lift B'); (try k_fold))))
  k_steps
  (rename News _ _ _ _ => lN')
  refine wpAny_truthy_list ⟨_, (lN' _ (.tail _ (.tail _ (.head _)))).1, rfl, nn, rfl⟩ (by have := hs1.length; simp; omega) ?_
  rw [show (!(Value.str v tv :: vs1).toArray.isEmpty) = true from rfl]
  k_steps
  refine' kl_popAt (p := []) (q := vs1) (k := 0) ?F ?N ?f ?k ?e ?U ?z ?_
  case F => k_asm
  case N => k_asm
  case U => k_upd
  case f => rfl
  case k => simp [seqIndex?]
  case e => rfl
  case z => rw [sizeLine_eq]; have := hs1.length; simp; omega
  intro h5 F5 N5
  dsimp only [List.nil_append] at N5
  k_steps
  exact hret _ _ _ _ _ hs1 (by assumption) (hback _ _ (news_tail (news_tail (by assumption))))

/-- a pile as a word: a blank a card, a tab behind -/
def wdL (n : Nat) : List Nat := List.replicate n 32 ++ [9]
def wd (n : Nat) : Str := ⟨(wdL n).toArray⟩
def dot : Str := Str.ofString "."
/-- the words one behind another -/
def catL (c : List Nat) : List Nat := c.flatMap wdL
def cat (c : List Nat) : Str := ⟨(catL c).toArray⟩
/-- what is left of the piles, behind the turn -/
def left (c : List Nat) : List Nat := (c.filter (· ≠ 1)).map (· - 1)
/-- the turn -/
def turn (c : List Nat) : List Nat := left c ++ [c.length]
/-- the row: laid by size -/
def rowOf (c : List Nat) : List Int := c.foldl (fun (r : List Int) (n : Nat) => ins (n : Int) r) []

theorem ins_length (x : Int) : ∀ l : List Int, (ins x l).length = l.length + 1
  | [] => rfl
  | y :: r => by unfold ins; split <;> simp [ins_length x r]
theorem ins_mem {x z : Int} : ∀ {l : List Int}, z ∈ ins x l → z = x ∨ z ∈ l
  | [], h => by simp [ins] at h; exact .inl h
  | y :: r, h => by
    unfold ins at h
    split at h
    · rcases List.mem_cons.mp h with h | h
      · exact .inr (by rw [h]; exact .head _)
      · exact (ins_mem h).imp id fun q => .tail _ q
    · rcases List.mem_cons.mp h with h | h
      · exact .inl h
      · exact .inr h
theorem ins_sorted {x : Int} : ∀ {l : List Int}, l.Pairwise (· ≤ ·) → (ins x l).Pairwise (· ≤ ·)
  | [], _ => by simp [ins]
  | y :: r, h => by
    obtain ⟨h1, h2⟩ := List.pairwise_cons.mp h
    unfold ins
    split
    · refine List.pairwise_cons.mpr ⟨fun z hz => ?_, ins_sorted h2⟩
      rcases ins_mem hz with q | q
      · omega
      · exact h1 z q
    · refine List.pairwise_cons.mpr ⟨fun z hz => ?_, h⟩
      rcases List.mem_cons.mp hz with q | q
      · omega
      · have := h1 z q; omega
theorem foldIns_sorted : ∀ (c : List Nat) (l : List Int), l.Pairwise (· ≤ ·) → (c.foldl (fun (r : List Int) (n : Nat) => ins (n : Int) r) l).Pairwise (· ≤ ·)
  | [], _, h => h
  | n :: c, l, h => foldIns_sorted c _ (ins_sorted h)
theorem rowOf_sorted (c : List Nat) : (rowOf c).Pairwise (· ≤ ·) := foldIns_sorted c [] .nil
theorem foldIns_length : ∀ (c : List Nat) (l : List Int), (c.foldl (fun (r : List Int) (n : Nat) => ins (n : Int) r) l).length = l.length + c.length
  | [], _ => rfl
  | n :: c, l => by rw [List.foldl_cons, foldIns_length c, ins_length, List.length_cons]; omega
theorem rowOf_length (c : List Nat) : (rowOf c).length = c.length := by rw [rowOf, foldIns_length]; simp
theorem rowOf_snoc (c : List Nat) (n : Nat) : rowOf (c ++ [n]) = ins n (rowOf c) := by simp [rowOf]
theorem left_snoc (c : List Nat) (n : Nat) : left (c ++ [n]) = if n = 1 then left c else left c ++ [n - 1] := by
  unfold left
  rw [List.filter_append]
  by_cases h : n = 1 <;> simp [h]
theorem catL_snoc (c : List Nat) (n : Nat) : catL (c ++ [n]) = catL c ++ wdL n := by simp [catL]
theorem cat_snoc (c : List Nat) (n : Nat) : cat (c ++ [n]) = cat c ++ wd n := by
  unfold cat wd
  rw [catL_snoc]
  exact Str.ext' (by simp [Str.cps_append])
theorem wdL_length (n : Nat) : (wdL n).length = n + 1 := by simp [wdL]
theorem wd_length (n : Nat) : (wd n).length = n + 1 := by
  show (wdL n).toArray.size = n + 1
  simp [wdL_length]
theorem catL_length : ∀ c : List Nat, (catL c).length = c.sum + c.length
  | [] => rfl
  | n :: c => by
    show (wdL n ++ catL c).length = _
    rw [List.length_append, wdL_length, catL_length c, List.sum_cons, List.length_cons]; omega
theorem cat_length (c : List Nat) : (cat c).length = c.sum + c.length := by
  show (catL c).toArray.size = _
  simp [catL_length]
theorem wd_slice (n : Nat) (h : 1 ≤ n) : Txt.slice (wd n) (some 1) none = wd (n - 1) := by
  rw [slice_from_eq (b := (n + 1 : Nat)) (by decide) (by rw [wd_length]; omega) (by rw [wd_length])]
  show Str.mk _ = Str.mk _
  congr 1
  congr 1
  show List.take _ (List.drop 1 (wdL n)) = wdL (n - 1)
  obtain ⟨k, rfl⟩ : ∃ k, n = k + 1 := ⟨n - 1, by omega⟩
  rw [show wdL (k + 1) = 32 :: wdL k from rfl]
  show List.take _ (wdL k) = wdL k
  refine List.take_of_length_le ?_
  rw [wdL_length]
  omega
theorem foldl_blank : ∀ (n : Nat) (z : Array Nat), (List.replicate n #[32]).foldl (fun (a b : Array Nat) => a ++ b) z = z ++ (List.replicate n 32).toArray
  | 0, z => by simp
  | n + 1, z => by
    rw [List.replicate_succ, List.foldl_cons, foldl_blank n]
    apply Array.toList_inj.mp
    simp [List.replicate_succ]
theorem mul_blank (n : Nat) : Txt.mul (Str.ofString " ") (n : Int) = ⟨(List.replicate n 32).toArray⟩ := by
  unfold Txt.mul
  by_cases h : (n : Int) < 1
  · rw [if_pos h]
    have : n = 0 := by omega
    subst this
    rfl
  · rw [if_neg h]
    by_cases h1 : n = 1
    · subst h1
      rfl
    · rw [if_neg (by
        have h2 : ((n : Int) == 1) = false := by simp; omega
        rw [h2]
        decide)]
      have e : (Str.ofString " ").cps = #[32] := by decide +kernel
      rw [e, Int.toNat_natCast, foldl_blank]
      simp
theorem mul_tab (n : Nat) : Txt.mul (Str.ofString " ") (n : Int) ++ Str.ofString "\t" = wd n := by
  rw [mul_blank]
  have e : (Str.ofString "\t") = ⟨#[9]⟩ := by decide +kernel
  rw [e]
  refine Str.ext' ?_
  rw [Str.cps_append]
  apply Array.toList_inj.mp
  simp [wd, wdL]
theorem wd_ne_dot (n : Nat) : (wd n != Str.ofString ".") = true := by
  have e : Str.ofString "." = ⟨#[46]⟩ := by decide +kernel
  rw [e, bne_iff_ne]
  intro h
  have h1 : wdL n = [46] := by
    have := congrArg (fun s : Str => s.cps.toList) h
    simpa [wd] using this
  cases n with
  | zero => simp [wdL] at h1
  | succ k => simp [wdL, List.replicate_succ] at h1
theorem wd_ne_nil (n : Nat) : (wd n != Str.ofString "") = true := by
  rw [bne_iff_ne]
  intro h
  have h1 := congrArg Str.length h
  rw [wd_length] at h1
  have e : (Str.ofString "").length = 0 := by decide +kernel
  omega
theorem wd_ne_one (n : Nat) (h : n ≠ 1) : (wd n != Str.ofString " \t") = true := by
  rw [bne_iff_ne]
  intro q
  have h1 := congrArg Str.length q
  rw [wd_length] at h1
  have e : (Str.ofString " \t").length = 2 := by decide +kernel
  omega
theorem wd_one : (wd 1 != Str.ofString " \t") = false := by decide +kernel
theorem cat_signs9 (c : List Nat) : ∀ ch ∈ (cat c).cps.toList, ch = 32 ∨ ch = 9 := by
  intro ch h
  have h' : ch ∈ catL c := h
  unfold catL at h'
  obtain ⟨n, _, hn⟩ := List.mem_flatMap.mp h'
  unfold wdL at hn
  rcases List.mem_append.mp hn with h | h
  · exact .inl (List.eq_of_mem_replicate h)
  · exact .inr (List.mem_singleton.mp h)

def hdW : List Nat → Str
  | [] => dot
  | n :: _ => wd n
def tlW (pre : List Nat) : List Nat → List Str
  | [] => (left pre).map wd
  | _ :: r => r.map wd ++ dot :: (left pre).map wd
theorem tlW_cons (pre : List Nat) (n : Nat) (r : List Nat) : tlW pre (n :: r) = hdW r :: tlW pre r := by
  cases r <;> rfl
theorem tlW_snoc (pre : List Nat) (n : Nat) (r : List Nat) (h : n ≠ 1) : tlW (pre ++ [n]) r = tlW pre r ++ [wd (n - 1)] := by
  cases r <;> simp [tlW, left_snoc, h]
theorem tlW_one (pre : List Nat) (r : List Nat) : tlW (pre ++ [1]) r = tlW pre r := by
  cases r <;> simp [tlW, left_snoc]
theorem turn_news {h₀ h : Heap} {L pb : Addr} {p1 p2 p3 p4 : Addr × Obj} {o : Obj} {news : List (Addr × Obj)} {g : Obj → List (Addr × Obj)} (hb : ∀ o', News h₀ L h ((pb, o') :: news) → News h₀ L h (g o'))
    (N : News h₀ L h (p1 :: p2 :: p3 :: p4 :: (pb, o) :: news)) : News h₀ L h (p1 :: p2 :: g o) := by
  intro p hp
  rcases List.mem_cons.mp hp with rfl | hp
  · exact N _ (.head _)
  · rcases List.mem_cons.mp hp with rfl | hp
    · exact N _ (.tail _ (.head _))
    · exact hb _ (news_tail (news_tail (news_tail (news_tail N)))) p hp
structure TS where
  pre : List Nat
  rem : List Nat
  t1 : Tok
  t2 : Tok
  t3 : Tok
  vs : List Value
  nn : Nat
  vr : List Value
  nr : Nat

set_option maxHeartbeats 8000000 in
theorem lawTurn {w : World} {loose : List Str} {mean : ExcName → Option Value} {mg mb : Str → Option Value}
    {dp un : Nat} {gd : Option (List Code)} {cn : Str} {cs : Scope} {a : Addr} {ccd : Value} {cl : List (Str × Addr)} {outer : List Env} {A₀ : Around} {base h₀ : Heap} {L : Addr} {m : Str → Option Value} {s : Shared} {R : Result → Shared → Prop}
    {led : List (Addr × Obj)} {g : Obj → List (Addr × Obj)} {x dx pb st : Addr} {e1 e2 e3 e4 : Int} {k1 k2 k3 k4 tl tw : Tok} {ln : Int} {n : Nat} {vs : List Value} {nn : Nat} {c : List Nat}
    (B : Below A₀ base outer h₀) (F : Fr h₀ L s.heap m) (X : (Mine.hd.heap_1 w.params).In h₀) (T : Top topProg loose mean mg mb h₀) (hk : cs.kind = .function)
    (hd : dp + 3 < recursionLimit) (hu : un + 24 < cLine)
    (N : News h₀ L s.heap led) (hx : (x, instObj 95 dx) ∈ led) (hdx : (dx, lexD e1 e2 e3 e4 k1 k2 k3 k4 ln tl st tw pb n) ∈ led) (U : UpdF pb (listOf vs.toArray nn) led g)
    (hs : StrsAre vs (c.map wd ++ [dot])) (hpos : ∀ n ∈ c, 1 ≤ n) (hlen : c.length ≤ 20) (hsum : c.sum ≤ 20) (hne0 : c ≠ [])
    (hret : ∀ vs' nn' h' tk' r vr nr tp t2 t3, StrsAre vs' ((turn c).map wd ++ [dot]) → IntsAre vr (rowOf (left c)) → Fr h₀ L h' m →
      News h₀ L h' ((tp, ({ cls := .type "tuple", data := .seq #[.str (cat c) t2, .int c.length t3, .ref r] } : Obj)) :: (r, listOf vr.toArray nr) :: g (listOf vs'.toArray nn')) → (∀ p ∈ led, p.1 < r) → r < tp → R (.ok (.ret (.ref tp))) { s with heap := h', toks := tk' }) :
    codeAny (model Challenge.rw_pe0248_01.row.prog w) (ktrTop dp un gd cn cs L a ccd cl outer) (.call (.ref 196) ⟨[.ref x], []⟩) R s := by
  ((w_on; (have hfill : Challenge.rw_pe0248_01 = Challenge.rw_pe0248_01 ∧ Mine.hd.heap_1 = Mine.hd.heap_1 := by (k_fill; exact ⟨rfl, rfl⟩)); clear hfill))
  obtain ⟨news, N1, hne, hsub, hin, hback⟩ := updF_front U N
  have n1 : x ≠ pb := news_ne N N1 hx (.head _) (by simp)
  have n2 : dx ≠ pb := news_ne N N1 hdx (.head _) (by simp)
  replace N1 := news_dup (news_dup N1 (.tail _ (hin _ hdx n2))) (.tail _ (.tail _ (hin _ hx n1)))
  clear N U
  obtain ⟨c0, cr, rfl⟩ : ∃ c0 cr, c = c0 :: cr := by cases c with | nil => exact absurd rfl hne0 | cons a b => exact ⟨a, b, rfl⟩
  rw [List.map_cons, List.cons_append] at hs
  have hl5 : (cr.map wd ++ [dot]).length < 100 := by simp at hlen ⊢; omega
  k_dflt (((refine' code_def ?k1 ?k2 ?k3 ?k4 ?k5 ?kA ?kF ?kK ?k6 ?k7 ?k8 ?k9 ?kB ?_ ?c2 ?c3 ?c4 ?c5; (case kA => exact rfl); (case kF => exact rfl); (case kK => first | exact rfl | assumption); (case k1 => k_asm); (case k2 => k_asm); (case k3 => k_asm); (case k4 => k_asm); (case k5 => k_asm); (case k6 => k_is); (case k7 => k_is); (case k8 => ktr_room); (case k9 => first | exact BindsTo.of_eq rfl | exact binds_K (by k_in) rfl (by k_is) rfl rfl rfl | (refine' kp_binds ?kx ?ke; (case kx => k_in); (case ke => exact fun _ => rfl))); (case c5 => decide); (case kB => exact locs rfl); (case c2 => exact rfl); (case c3 => exact rfl); (case c4 => exact rfl); k_whole; intro _ _ _ _ _ _ B' _ _; (try dsimp only); (try k_lift B'); (try k_fold))))
  k_steps; refine Stop.out ?_; (k_dflt (refine' wpAny_call (getTokPop ?k1 ?k2 ?k3 ?k4 ?k5 ?k6 ?k7 ?k8 ?k9 ?k10 ?k11 ?k12 ?k13 ?_); (case k1 => k_asm); (case k2 => k_asm); (case k3 => k_asm); (case k4 => k_asm); (case k5 => first | exact rfl | assumption); (case k6 => ktr_room); (case k7 => ktr_units); (case k8 => k_asm); (case k9 => k_mem); (case k10 => k_mem); (case k11 => k_updF); (case k12 => assumption); (case k13 => first | assumption | omega | (simp only [List.append_eq, List.length_append, List.length_cons, List.length_nil]; omega)))); intro _ _ _ _ _ _ _ _; (try dsimp only)
  k_steps
  refine Stop.out ?_
  rename_i l' h4 l1 h5 tv' vs1 nn1 h6 tk6 hs1 h7 lF' lN'
  have hlt : ∀ p ∈ news, p.1 < l' := ktn_ltOf l1.2.2.2
  have hnl : ∀ p ∈ news, p.1 ≠ l' := fun p hp => Nat.ne_of_lt (hlt p hp)
  obtain ⟨m1, m2, m3, -⟩ := l1
  (with_unfolding_all refine' ksw_while (σ := TS) (fun c => [(l', listOf c.vr.toArray c.nr), (x, instObj 95 dx), (dx, lexD e1 e2 e3 e4 k1 k2 k3 k4 ln tl st tw pb n), (pb, listOf c.vs.toArray c.nn)] ++ news) (fun c => [(Str.ofString "word", .str (hdW c.rem) c.t1), (Str.ofString "taken", .int c.pre.length c.t3), (Str.ofString "lead", .str (cat c.pre) c.t2)]) (fun c => c0 :: cr = c.pre ++ c.rem ∧ StrsAre c.vs (tlW c.pre c.rem) ∧ IntsAre c.vr (rowOf (left c.pre))) [] (fun c => True) (fun c => c.rem.length) ⟨[], c0 :: cr, _, _, _, vs1, nn1, [], 0⟩ lF' lN' ?kf ?kk trivial ?_)
  case kf => exact ⟨rfl, hs1, .nil⟩
  case kk => kst_all
  clear lF' lN' hs1 hs
  rintro ⟨pre, rem, t1, t2, t3, vs2, nn2, vr2, nr2⟩ u h tk ⟨hc, hs2, hi2⟩ - F1 N1
  dsimp only [kstB, List.cons_append, List.nil_append] at hc hs2 hi2 F1 N1
  have hlen2 : pre.length + rem.length ≤ 20 := by rw [hc] at hlen; simpa using hlen
  have hsum2 : pre.sum + rem.sum ≤ 20 := by rw [hc] at hsum; simpa using hsum
  have hlr : (rowOf (left pre)).length < 100 := by
    rw [rowOf_length]
    have : (left pre).length ≤ pre.length := by unfold left; rw [List.length_map]; exact List.length_filter_le _ _
    omega
  have hsr := rowOf_sorted (left pre)
  have hcl : (cat pre).length ≤ 40 := by rw [cat_length]; omega
  have htl : (tlW pre rem).length < 90 := by
    have : (left pre).length ≤ pre.length := by unfold left; rw [List.length_map]; exact List.length_filter_le _ _
    cases rem <;> simp [tlW] at hlen2 ⊢ <;> omega
  cases rem with
  | nil =>
    dsimp only [hdW] at F1
    (try k_fold)
    k_steps; refine Stop.out ?_; (k_dflt (refine' wpAny_call (pushTok ?k1 ?k2 ?k3 ?k4 ?k5 ?k6 ?k7 ?k8 ?k9 ?k10 ?k11 ?k12 ?k13 ?_); (case k1 => k_asm); (case k2 => k_asm); (case k3 => k_asm); (case k4 => k_asm); (case k5 => first | exact rfl | assumption); (case k6 => ktr_room); (case k7 => ktr_units); (case k8 => k_asm); (case k9 => k_mem); (case k10 => k_mem); (case k11 => k_updF); (case k12 => assumption); (case k13 => first | assumption | omega | (simp only [List.append_eq, List.length_append, List.length_cons, List.length_nil]; omega)))); intro _ _ _ _ _ _ _; (try dsimp only)
    k_steps; refine Stop.out ?_; (k_dflt (refine' wpAny_call (pushTok ?k1 ?k2 ?k3 ?k4 ?k5 ?k6 ?k7 ?k8 ?k9 ?k10 ?k11 ?k12 ?k13 ?_); (case k1 => k_asm); (case k2 => k_asm); (case k3 => k_asm); (case k4 => k_asm); (case k5 => first | exact rfl | assumption); (case k6 => ktr_room); (case k7 => ktr_units); (case k8 => k_asm); (case k9 => k_mem); (case k10 => k_mem); (case k11 => k_updF); (case k12 => assumption); (case k13 => first | assumption | omega | (simp only [List.append_eq, List.length_append, List.length_cons, List.length_nil]; omega)))); intro _ _ _ _ _ _ _; (try dsimp only)
    k_steps
    rename_i hs9 tp h8 lF lN l8 kF kN Tc kX
    have hce : c0 :: cr = pre := by rw [hc, List.append_nil]
    have hturn : tlW pre [] ++ [Txt.mul (Str.ofString " ") (pre.length : Int) ++ Str.ofString "\t"] ++ [Str.ofString "."] = (turn (c0 :: cr)).map wd ++ [dot] := by
      rw [mul_tab, hce, turn, List.map_append]
      rfl
    rw [hturn] at hs9
    rw [← hce] at hi2 kN
    refine hret _ _ _ _ l' vr2 nr2 tp t2 t3 hs9 hi2 kF (by exact turn_news (hback _) kN) (fun p hp => ?_) l8.1
    · by_cases q : p.1 = pb
      · rw [q]; exact m3
      · exact hlt p (hin p hp q)
  | cons n5 r =>
    dsimp only [hdW] at F1
    rw [tlW_cons] at hs2 htl
    simp only [List.length_cons] at htl
    have hq1 := wd_ne_dot n5
    have hq2 := wd_ne_nil n5
    have hn5 : 1 ≤ n5 := hpos n5 (by rw [hc]; simp)
    have hwl : (wd n5).length ≤ 21 := by rw [wd_length]; simp at hsum2; omega
    by_cases h51 : n5 = 1
    · subst h51
      have hq3 := wd_one
      (try k_fold)
      k_steps; refine Stop.out ?_; (k_dflt (refine' wpAny_call (getTokPop ?k1 ?k2 ?k3 ?k4 ?k5 ?k6 ?k7 ?k8 ?k9 ?k10 ?k11 ?k12 ?k13 ?_); (case k1 => k_asm); (case k2 => k_asm); (case k3 => k_asm); (case k4 => k_asm); (case k5 => first | exact rfl | assumption); (case k6 => ktr_room); (case k7 => ktr_units); (case k8 => k_asm); (case k9 => k_mem); (case k10 => k_mem); (case k11 => k_updF); (case k12 => assumption); (case k13 => first | assumption | omega | (simp only [List.append_eq, List.length_append, List.length_cons, List.length_nil]; omega)))); intro _ _ _ _ _ _ _ _; (try dsimp only)
      k_steps
      refine Stop.out ?_
      refine ksw_end ⟨pre ++ [1], r, _, _, _, _, _, _, _⟩ (by assumption) (by assumption) (by exact fun p hp => hp) (by exact ⟨by simpa using hc, by rw [tlW_one]; assumption, by simpa [left_snoc] using hi2⟩) (by dsimp only; rw [cat_snoc, List.length_append, Int.natCast_add]; kst_all) (by ksw_same) trivial (by simp)
    · have hq3 := wd_ne_one n5 h51
      (try k_fold)
      k_steps; refine Stop.out ?_; (k_dflt (refine' wpAny_call (pushTok ?k1 ?k2 ?k3 ?k4 ?k5 ?k6 ?k7 ?k8 ?k9 ?k10 ?k11 ?k12 ?k13 ?_); (case k1 => k_asm); (case k2 => k_asm); (case k3 => k_asm); (case k4 => k_asm); (case k5 => first | exact rfl | assumption); (case k6 => ktr_room); (case k7 => ktr_units); (case k8 => k_asm); (case k9 => k_mem); (case k10 => k_mem); (case k11 => k_updF); (case k12 => assumption); (case k13 => first | assumption | omega | (simp only [List.append_eq, List.length_append, List.length_cons, List.length_nil]; omega)))); intro _ _ _ _ _ _ _; (try dsimp only)
      k_steps; refine Stop.out ?_; (k_dflt (refine' wpAny_call (insortL ?k1 ?k2 ?k3 ?k4 ?k5 ?k6 ?k7 ?k8 ?k9 ?k10 ?k11 ?k12 ?_); (case k1 => k_asm); (case k2 => k_asm); (case k3 => k_asm); (case k4 => k_asm); (case k5 => first | exact rfl | assumption); (case k6 => ktr_room); (case k7 => ktr_units); (case k8 => k_asm); (case k9 => k_updF); (case k10 => assumption); (case k11 => assumption); (case k12 => assumption))); intro _ _ _ _ _ _ _; (try dsimp only)
      k_steps; refine Stop.out ?_; (k_dflt (refine' wpAny_call (getTokPop ?k1 ?k2 ?k3 ?k4 ?k5 ?k6 ?k7 ?k8 ?k9 ?k10 ?k11 ?k12 ?k13 ?_); (case k1 => k_asm); (case k2 => k_asm); (case k3 => k_asm); (case k4 => k_asm); (case k5 => first | exact rfl | assumption); (case k6 => ktr_room); (case k7 => ktr_units); (case k8 => k_asm); (case k9 => k_mem); (case k10 => k_mem); (case k11 => k_updF); (case k12 => assumption); (case k13 => first | assumption | omega | (simp only [List.append_eq, List.length_append, List.length_cons, List.length_nil]; omega)))); intro _ _ _ _ _ _ _ _; (try dsimp only)
      k_steps
      refine Stop.out ?_
      rename_i hs9 _ _ _
      have hsl := wd_slice n5 hn5
      have hle : ((wd n5).length : Int) - 2 = ((n5 - 1 : Nat) : Int) := by rw [wd_length]; omega
      rw [hsl] at hs9
      refine ksw_end ⟨pre ++ [n5], r, _, _, _, _, _, _, _⟩ (by assumption) (by assumption) (by exact fun p hp => hp) (by exact ⟨by simpa using hc, by rw [tlW_snoc _ _ _ h51]; exact hs9, by rw [left_snoc, if_neg h51, rowOf_snoc, ← hle]; assumption⟩) (by dsimp only; rw [cat_snoc, List.length_append, Int.natCast_add]; kst_all) (by ksw_same) trivial (by simp)

structure WS where
  count : List Int
  b : Nat
  n : Nat
  nt : Nat
def bump (ct : List Int) (b : Nat) : List Int := ct.set b (ct.getD b 0 + 1)
def grow (ct : List Int) (b : Nat) : List Int := if ct.length ≤ b then ct ++ List.replicate (b - ct.length + 1) 0 else ct
def wsStep (s : WS) (ch : Nat) : WS := if ch = 32 then { s with b := s.b + 1, n := s.n + 1 } else { count := bump (grow s.count s.b) s.b, b := 0, n := s.n + 1, nt := s.nt + 1 }
def wsRun (l : List Nat) : WS := l.foldl wsStep ⟨[], 0, 0, 0⟩
theorem ws_sub {a b c d e p : Addr × Obj} {l : List (Addr × Obj)} (hp : p ∈ a :: b :: d :: e :: l) : p ∈ a :: b :: c :: d :: e :: l := by
  rcases List.mem_cons.mp hp with rfl | hp
  · exact .head _
  · rcases List.mem_cons.mp hp with rfl | hp
    · exact .tail _ (.head _)
    · exact .tail _ (.tail _ (.tail _ hp))
structure WSt where
  w : WS
  l : Addr
  vs : List Value
  nn : Nat
  tb : Tok
  tn : Tok
  tt : Tok

theorem flat_zeros : ∀ k : Nat, (List.replicate k [(0 : Int)]).flatten = List.replicate k 0
  | 0 => rfl
  | k + 1 => by rw [List.replicate_succ, List.flatten_cons, flat_zeros k]; rfl
theorem wsRun_snoc (l : List Nat) (ch : Nat) : wsRun (l ++ [ch]) = wsStep (wsRun l) ch := by simp [wsRun]
theorem bump_length (ct : List Int) (b : Nat) : (bump ct b).length = ct.length := by simp [bump]
theorem grow_length (ct : List Int) (b : Nat) : (grow ct b).length = max ct.length (b + 1) := by
  unfold grow
  split
  · rw [List.length_append, List.length_replicate]; omega
  · omega
theorem wsRun_bound : ∀ l : List Nat, (wsRun l).b ≤ l.length ∧ (wsRun l).n ≤ l.length ∧ (wsRun l).nt ≤ l.length ∧ (wsRun l).count.length ≤ l.length + 1 := by
  intro l
  have H : ∀ (l : List Nat) (s : WS) (k : Nat), s.b ≤ k → s.n ≤ k → s.nt ≤ k → s.count.length ≤ k + 1 → (l.foldl wsStep s).b ≤ k + l.length ∧ (l.foldl wsStep s).n ≤ k + l.length ∧ (l.foldl wsStep s).nt ≤ k + l.length ∧ (l.foldl wsStep s).count.length ≤ k + l.length + 1 := by
    intro l
    induction l with
    | nil => intro s k h1 h2 h3 h4; exact ⟨h1, h2, h3, h4⟩
    | cons ch l ih =>
      intro s k h1 h2 h3 h4
      have := ih (wsStep s ch) (k + 1) ?_ ?_ ?_ ?_
      · rw [List.foldl_cons, List.length_cons]; omega
      all_goals unfold wsStep
      all_goals split
      all_goals (try simp only [bump_length, grow_length])
      all_goals omega
  have := H l ⟨[], 0, 0, 0⟩ 0 (Nat.le_refl _) (Nat.le_refl _) (Nat.le_refl _) (Nat.zero_le _)
  unfold wsRun
  omega

set_option maxHeartbeats 8000000 in
theorem wsInit {w : World} {loose : List Str} {mean : ExcName → Option Value} {mg mb : Str → Option Value}
    {dp un : Nat} {gd : Option (List Code)} {cn : Str} {cs : Scope} {a : Addr} {ccd : Value} {cl : List (Str × Addr)} {outer : List Env} {A₀ : Around} {base h₀ : Heap} {L : Addr} {m : Str → Option Value} {s : Shared} {R : Result → Shared → Prop}
    {led : List (Addr × Obj)} {x dx : Addr} {xt : Str} {tx : Tok}
    (B : Below A₀ base outer h₀) (F : Fr h₀ L s.heap m) (X : (Mine.hd.heap_1 w.params).In h₀) (T : Top topProg loose mean mg mb h₀) (hk : cs.kind = .function)
    (hd : dp + 1 < recursionLimit) (hu : un + 8 < cLine)
    (N : News h₀ L s.heap ((x, instObj 161 dx) :: (dx, dictOf [] 0) :: led)) (hlt : ∀ p ∈ led, p.1 < dx) (hxd : dx < x)
    (hws : ∀ ch ∈ xt.cps.toList, ch = 32 ∨ ch = 9) (hlen : xt.cps.size ≤ 60)
    (hret : ∀ e1 e2 e3 e4 e5 k1 k2 k3 k4 k5 isv tr tn tt tp tc vs tb h' tk', IntsAre vs (wsRun xt.cps.toList).count → Fr h₀ L h' m →
      News h₀ L h' ((tp, ({ cls := .type "tuple", data := .seq #[.ref tc, .int (wsRun xt.cps.toList).b tb] } : Obj)) :: (tc, ({ cls := .type "tuple", data := .seq vs.toArray } : Obj)) :: (x, instObj 161 dx) ::
        (dx, dictOf [⟨e1, .str (Str.ofString "raw") k1, .str xt tr⟩, ⟨e2, .str (Str.ofString "n") k2, .int (wsRun xt.cps.toList).n tn⟩, ⟨e3, .str (Str.ofString "nt") k3, .int (wsRun xt.cps.toList).nt tt⟩, ⟨e4, .str (Str.ofString "norm") k4, .ref tp⟩, ⟨e5, .str (Str.ofString "is_simple") k5, isv⟩] 5) :: led) →
      x < tc → tc < tp → R (.ok (.ret .none)) { s with heap := h', toks := tk' }) :
    codeAny (model Challenge.rw_pe0248_01.row.prog w) (ktrTop dp un gd cn cs L a ccd cl outer) (.call (.ref 116) ⟨[.ref x, .str xt tx], []⟩) R s := by
  ((w_on; (have hfill : Challenge.rw_pe0248_01 = Challenge.rw_pe0248_01 ∧ Mine.hd.heap_1 = Mine.hd.heap_1 := by (k_fill; exact ⟨rfl, rfl⟩)); clear hfill))
  have hl1 : ∀ p ∈ led, p.1 ≠ dx := fun p hp => Nat.ne_of_lt (hlt p hp)
  have hl2 : ∀ p ∈ led, p.1 ≠ x := fun p hp => Nat.ne_of_lt (Nat.lt_trans (hlt p hp) hxd)
  replace hxd := ltN hxd
  k_dflt (((refine' code_def ?k1 ?k2 ?k3 ?k4 ?k5 ?kA ?kF ?kK ?k6 ?k7 ?k8 ?k9 ?kB ?_ ?c2 ?c3 ?c4 ?c5; (case kA => exact rfl); (case kF => exact rfl); (case kK => first | exact rfl | assumption); (case k1 => k_asm); (case k2 => k_asm); (case k3 => k_asm); (case k4 => k_asm); (case k5 => k_asm); (case k6 => k_is); (case k7 => k_is); (case k8 => ktr_room); (case k9 => first | exact BindsTo.of_eq rfl | exact binds_K (by k_in) rfl (by k_is) rfl rfl rfl | (refine' kp_binds ?kx ?ke; (case kx => k_in); (case ke => exact fun _ => rfl))); (case c5 => decide); (case kB => exact locs rfl); (case c2 => exact rfl); (case c3 => exact rfl); (case c4 => exact rfl); k_whole; intro _ _ _ _ _ _ B' _ _; (try dsimp only); (try k_lift B'); (try k_fold))))
  k_steps; refine Stop.out ?_; (with_unfolding_all refine' For_invVF (by assumption) ?k1 ?k2 ?_; (case k1 => exact rfl); (case k2 => exact rfl)); k_steps
  refine Stop.out ?_
  rename_i l' h5 l1 h6 h7 h8 h9 lF' lN'
  obtain ⟨e1, k1, tr, lN2⟩ : ∃ e1 k1 tr, News _ _ _ ((l', listOf #[] 0) :: (x, instObj 161 dx) :: (dx, dictOf [⟨e1, .str (Str.ofString "raw") k1, .str xt tr⟩] 1) :: led) := ⟨_, _, _, fun p hp => lN' p (by
    rcases List.mem_cons.mp hp with rfl | hp
    · exact .head _
    · exact .tail _ (.tail _ hp))⟩
  clear lN'
  (with_unfolding_all refine' for_text (σ := WSt) (fun c => [(c.l, listOf c.vs.toArray c.nn), (x, instObj 161 dx), (dx, dictOf [⟨e1, .str (Str.ofString "raw") k1, .str xt tr⟩] 1)] ++ led) (fun c => [(Str.ofString "count", .ref c.l), (Str.ofString "b", .int c.w.b c.tb), (Str.ofString "n", .int c.w.n c.tn), (Str.ofString "nt", .int c.w.nt c.tt)]) (fun i c => c.w = wsRun (xt.cps.toList.take i) ∧ IntsAre c.vs c.w.count ∧ x < c.l ∧ dx < c.l ∧ ∀ p ∈ led, p.1 < c.l) [] ⟨⟨[], 0, 0, 0⟩, l', [], 0, _, _, _⟩ rfl lF' lN2 ?kf ?kk ?_ ?_)
  case kf => exact ⟨rfl, .nil, l1.2.1, l1.2.2.1, ktn_ltOf l1.2.2.2⟩
  case kk => kst_all
  · rintro ⟨w5, l5, vs5, nn5, tb5, tn5, tt5⟩ i ch t u h tk I oI hi hch ⟨hw5, hi5, hx5, hd5, hl5⟩ hoff F1 N1
    dsimp only [kstB, envOf, List.cons_append, List.nil_append] at hw5 hi5 hx5 hd5 hl5 hoff F1 N1
    have hbd := wsRun_bound (xt.cps.toList.take i)
    rw [← hw5] at hbd
    have hli : (xt.cps.toList.take i).length ≤ 60 := by rw [List.length_take]; simp; omega
    have hmem : ch ∈ xt.cps.toList := List.mem_of_getElem? (i := i) (by simpa using hch)
    have hnl5 : ∀ p ∈ led, p.1 ≠ l5 := fun p hp => Nat.ne_of_lt (hl5 p hp)
    replace hx5 := ltN hx5
    replace hd5 := ltN hd5
    have hI5 := neN (hoff _ (.head _))
    have hIx := neN (hoff _ (.tail _ (.head _)))
    have hId := neN (hoff _ (.tail _ (.tail _ (.head _))))
    dsimp only at hI5 hIx hId
    have hIl : ∀ p ∈ led, p.1 ≠ I := fun p hp => hoff p (.tail _ (.tail _ (.tail _ hp)))
    have hstep : wsRun (xt.cps.toList.take (i + 1)) = wsStep w5 ch := by
      rw [List.take_add_one, show xt.cps.toList[i]? = some ch from by simpa using hch]
      show wsRun (_ ++ [ch]) = _
      rw [wsRun_snoc, hw5]
    rcases hws ch hmem with rfl | rfl
    · (try k_fold)
      k_steps
      refine Stop.out ?_
      refine g_end ⟨{ w5 with b := w5.b + 1, n := w5.n + 1 }, l5, vs5, nn5, _, _, _⟩ (by assumption) (by assumption) (by kst_in) (by k_all) (by exact ⟨by rw [hstep]; rfl, hi5, hx5, hd5, hl5⟩) (by dsimp only; rw [Int.natCast_add, Int.natCast_add]; kst_all) (by kst_same)
    · (try k_fold)
      k_steps
      · refine Stop.out ?_
        rename_i D' ws' h8 hI' l8 h9 t9 h10 hi' hl' hs' h11 F' N'
        have hgb : w5.count ++ (List.replicate ((w5.b : Int) - (w5.count.length : Int) + 1).toNat [(0 : Int)]).flatten = grow w5.count w5.b := by
          rw [flat_zeros, grow, if_pos (by omega), show ((w5.b : Int) - (w5.count.length : Int) + 1).toNat = w5.b - w5.count.length + 1 from by omega]
        have hcount : (w5.count ++ (List.replicate ((w5.b : Int) - (w5.count.length : Int) + 1).toNat [(0 : Int)]).flatten).set (w5.b : Int).toNat ((w5.count ++ (List.replicate ((w5.b : Int) - (w5.count.length : Int) + 1).toNat [(0 : Int)]).flatten).getD (w5.b : Int).toNat 0 + 1) = bump (grow w5.count w5.b) w5.b := by
          rw [hgb, Int.toNat_natCast]; rfl
        rw [hcount] at hi'
        refine g_end ⟨⟨bump (grow w5.count w5.b) w5.b, 0, w5.n + 1, w5.nt + 1⟩, D', _, _, _, _, _⟩ (by assumption) (by assumption) (by kst_in) (by k_all) (by exact ⟨by rw [hstep]; rfl, hi', l8.2.2.2.2.1, l8.2.2.2.2.2.1, ktn_ltOf l8.2.2.2.2.2.2⟩) (by dsimp only; rw [Int.natCast_add, Int.natCast_add]; kst_all) (by kst_same)
      · refine Stop.out ?_
        rename_i hi' hl' hs' h11 F' N'
        have hgb : grow w5.count w5.b = w5.count := by rw [grow, if_neg (by omega)]
        rw [Int.toNat_natCast] at hi'
        refine g_end ⟨⟨bump (grow w5.count w5.b) w5.b, 0, w5.n + 1, w5.nt + 1⟩, l5, _, _, _, _, _⟩ (by assumption) (by assumption) (by kst_in) (by k_all) (by exact ⟨by rw [hstep]; rfl, by dsimp only; rw [hgb]; exact hi', hx5, hd5, hl5⟩) (by dsimp only; rw [Int.natCast_add, Int.natCast_add]; kst_all) (by kst_same)
  · rintro ⟨w5, l5, vs5, nn5, tb5, tn5, tt5⟩ u h tk ⟨hw5, hi5, hx5, hd5, hl5⟩ F1 N1
    dsimp only [kstB, envOf, List.cons_append, List.nil_append] at hw5 hi5 hx5 hd5 hl5 F1 N1
    have hw6 : w5 = wsRun xt.cps.toList := by rw [hw5, ← Array.length_toList, List.take_length]
    have hbd := wsRun_bound xt.cps.toList
    rw [← hw6] at hbd
    have hnl5 : ∀ p ∈ led, p.1 ≠ l5 := fun p hp => Nat.ne_of_lt (hl5 p hp)
    replace hx5 := ltN hx5
    replace hd5 := ltN hd5
    (try k_fold)
    k_steps
    rename_i h7 F' N'
    rw [Array.length_toList] at hbd
    have hcl : w5.count.length ≤ 61 := by omega
    refine' kde_tupleOf (zs := vs5) F' N' ?kl ?kz rfl ?_
    case kl => exact ⟨_, (N' _ (.head _)).1, rfl, nn5, rfl⟩
    case kz => rw [List.size_toArray]; have := hi5.length; omega
    intro D' h' F' N' l1
    k_lt l1
    k_steps
    rename_i D2 h8 l2 h9 h10 F' N' kF kN Tc kX
    rw [hw6] at kN hi5
    refine hret _ _ _ _ _ _ _ _ _ _ _ _ _ _ _ _ _ _ _ _ hi5 kF (by exact fun p hp => kN p (ws_sub hp)) l1.2.1 l2.1

abbrev wsD (e1 e2 e3 e4 e5 : Int) (k1 k2 k3 k4 k5 : Tok) (raw : Str) (tr : Tok) (n : Int) (tn : Tok) (nt : Int) (tt : Tok) (tp : Addr) (isv : Value) : Obj :=
  dictOf [⟨e1, .str (Str.ofString "raw") k1, .str raw tr⟩, ⟨e2, .str (Str.ofString "n") k2, .int n tn⟩, ⟨e3, .str (Str.ofString "nt") k3, .int nt tt⟩, ⟨e4, .str (Str.ofString "norm") k4, .ref tp⟩, ⟨e5, .str (Str.ofString "is_simple") k5, isv⟩] 5
abbrev tupOf (vs : List Value) : Obj := { cls := .type "tuple", data := .seq vs.toArray }

set_option maxHeartbeats 8000000 in
theorem wsEqual {w : World} {loose : List Str} {mean : ExcName → Option Value} {mg mb : Str → Option Value}
    {dp un : Nat} {gd : Option (List Code)} {cn : Str} {cs : Scope} {a : Addr} {ccd : Value} {cl : List (Str × Addr)} {outer : List Env} {A₀ : Around} {base h₀ : Heap} {L : Addr} {m : Str → Option Value} {s : Shared} {R : Result → Shared → Prop}
    {led : List (Addr × Obj)} {x dx y dy tx ty cx cy : Addr} {e1 e2 e3 e4 e5 f1 f2 f3 f4 f5 : Int} {k1 k2 k3 k4 k5 l1 l2 l3 l4 l5 : Tok} {raw raw' : Str} {tr tr' tn tn' tt tt' tb tb' : Tok} {n n' nt nt' b : Int} {isv isv' : Value} {vs vs' : List Value} {ns : List Int}
    (B : Below A₀ base outer h₀) (F : Fr h₀ L s.heap m) (X : (Mine.hd.heap_1 w.params).In h₀) (T : Top topProg loose mean mg mb h₀) (hk : cs.kind = .function)
    (hd : dp + 1 < recursionLimit) (hu : un + 80 < cLine)
    (N : News h₀ L s.heap led) (hx : (x, instObj 161 dx) ∈ led) (hdx : (dx, wsD e1 e2 e3 e4 e5 k1 k2 k3 k4 k5 raw tr n tn nt tt tx isv) ∈ led) (htx : (tx, ({ cls := .type "tuple", data := .seq #[.ref cx, .int b tb] } : Obj)) ∈ led) (hcx : (cx, tupOf vs) ∈ led)
    (hy : (y, instObj 161 dy) ∈ led) (hdy : (dy, wsD f1 f2 f3 f4 f5 l1 l2 l3 l4 l5 raw' tr' n' tn' nt' tt' ty isv') ∈ led) (hty : (ty, ({ cls := .type "tuple", data := .seq #[.ref cy, .int b tb'] } : Obj)) ∈ led) (hcy : (cy, tupOf vs') ∈ led)
    (hi : IntsAre vs ns) (hi' : IntsAre vs' ns) (hlen : ns.length ≤ 61)
    (hret : ∀ h' tk', Fr h₀ L h' m → News h₀ L h' led → R (.ok (.ret (.bool true))) { s with heap := h', toks := tk' }) :
    codeAny (model Challenge.rw_pe0248_01.row.prog w) (ktrTop dp un gd cn cs L a ccd cl outer) (.call (.ref 137) ⟨[.ref x, .ref y], []⟩) R s := by
  ((w_on; (have hfill : Challenge.rw_pe0248_01 = Challenge.rw_pe0248_01 ∧ Mine.hd.heap_1 = Mine.hd.heap_1 := by (k_fill; exact ⟨rfl, rfl⟩)); clear hfill))
  replace N := news_dup (news_dup (news_dup (news_dup (news_dup (news_dup (news_dup (news_dup N hcy) (.tail _ hty)) (.tail _ (.tail _ hdy))) (.tail _ (.tail _ (.tail _ hy)))) (.tail _ (.tail _ (.tail _ (.tail _ hcx))))) (.tail _ (.tail _ (.tail _ (.tail _ (.tail _ htx)))))) (.tail _ (.tail _ (.tail _ (.tail _ (.tail _ (.tail _ hdx))))))) (.tail _ (.tail _ (.tail _ (.tail _ (.tail _ (.tail _ (.tail _ hx)))))))
  k_dflt (((refine' code_def ?k1 ?k2 ?k3 ?k4 ?k5 ?kA ?kF ?kK ?k6 ?k7 ?k8 ?k9 ?kB ?_ ?c2 ?c3 ?c4 ?c5; (case kA => exact rfl); (case kF => exact rfl); (case kK => first | exact rfl | assumption); (case k1 => k_asm); (case k2 => k_asm); (case k3 => k_asm); (case k4 => k_asm); (case k5 => k_asm); (case k6 => k_is); (case k7 => k_is); (case k8 => ktr_room); (case k9 => first | exact BindsTo.of_eq rfl | exact binds_K (by k_in) rfl (by k_is) rfl rfl rfl | (refine' kp_binds ?kx ?ke; (case kx => k_in); (case ke => exact fun _ => rfl))); (case c5 => decide); (case kB => exact locs rfl); (case c2 => exact rfl); (case c3 => exact rfl); (case c4 => exact rfl); k_whole; intro _ _ _ _ _ _ B' _ _; (try dsimp only); (try k_lift B'); (try k_fold))))
  k_steps
  rename_i F' N' X' T'
  have rd : ∀ {c t : Addr} {us : List Value} {tk : Tok} {h : Heap}, h.get? t = some { cls := .type "tuple", data := .seq #[.ref c, .int b tk] } → h.get? c = some (tupOf us) → IntsAre us ns → Reads h (.ref t) (.tuple [.tuple (ns.map .int), .int b]) [] := fun h1 h2 h3 =>
    reads_tuple_at h1 rfl rfl (.cons (as := []) (reads_tuple_at h2 rfl rfl (by simpa using h3.reads _)) (.cons (as := []) (.int _ _) .nil))
  have hsh : SeqAt.shaped (.tuple [.tuple (ns.map .int), .int b]) = true := by
    simp [SeqAt.shaped, PyData.canLay0, PyData.canLayAll0, PyData.depth, PyData.depthAll, ke_canLayAll0, ke_depthAll]
  refine eq_dataH (rd (N' _ (.tail _ (.tail _ (.head _)))).1 (N' _ (.tail _ (.tail _ (.tail _ (.head _))))).1 hi) (rd (N' _ (.tail _ (.tail _ (.tail _ (.tail _ (.tail _ (.tail _ (.head _)))))))).1 (N' _ (.tail _ (.tail _ (.tail _ (.tail _ (.tail _ (.tail _ (.tail _ (.head _))))))))).1 hi') hsh hsh (by ktr_units) ?_
  have he : PyData.eqv (.tuple [.tuple (ns.map .int), .int b]) (.tuple [.tuple (ns.map .int), .int b]) = true := by
    simp [PyData.eqv, PyData.eqvAll, ked_eqvAll]
  rw [he]
  k_steps
  exact hret _ _ (by assumption) (by exact fun p hp => (‹News h₀ L _ ((x, _) :: _)›) p (by repeat (first | exact hp | refine List.Mem.tail _ ?_)))

def szAt (ns : List Int) (k : Nat) : Int := ns.getD (ns.length - 1 - k) 0
def wUp (ns : List Int) : Nat → Int
  | 0 => 0
  | k + 1 => wUp ns k + ((k : Int) + 1) * szAt ns k + (szAt ns k * (szAt ns k + 1)).fdiv 2
def weightOf (ns : List Int) : Int := wUp ns ns.length
theorem szAt_bound {ns : List Int} (hb : ∀ n ∈ ns, 0 ≤ n ∧ n ≤ 20) (k : Nat) : 0 ≤ szAt ns k ∧ szAt ns k ≤ 20 := by
  unfold szAt
  rw [List.getD_eq_getElem?_getD]
  cases h : ns[ns.length - 1 - k]? with
  | none => simp
  | some v => exact hb v (List.mem_of_getElem? h)
theorem wUp_bound {ns : List Int} (hb : ∀ n ∈ ns, 0 ≤ n ∧ n ≤ 20) : ∀ k : Nat, k ≤ 30 → 0 ≤ wUp ns k ∧ wUp ns k ≤ 1000 * k
  | 0, _ => by simp [wUp]
  | k + 1, hk => by
    have ih := wUp_bound hb k (by omega)
    have hs := szAt_bound hb k
    have h1 : 0 ≤ ((k : Int) + 1) * szAt ns k := Int.mul_nonneg (by omega) hs.1
    have h2 : ((k : Int) + 1) * szAt ns k ≤ 30 * 20 := Int.mul_le_mul (by omega) hs.2 hs.1 (by omega)
    have h3 : 0 ≤ szAt ns k * (szAt ns k + 1) := Int.mul_nonneg hs.1 (by omega)
    have h4 : szAt ns k * (szAt ns k + 1) ≤ 20 * 21 := Int.mul_le_mul hs.2 (by omega) (by omega) (by omega)
    have e : (szAt ns k * (szAt ns k + 1)).fdiv 2 = (szAt ns k * (szAt ns k + 1)) / 2 := Int.fdiv_eq_ediv_of_nonneg _ (by decide)
    simp only [wUp]
    rw [e]
    omega

set_option maxHeartbeats 8000000 in
theorem lawWeight {w : World} {loose : List Str} {mean : ExcName → Option Value} {mg mb : Str → Option Value}
    {dp un : Nat} {gd : Option (List Code)} {cn : Str} {cs : Scope} {a : Addr} {ccd : Value} {cl : List (Str × Addr)} {outer : List Env} {A₀ : Around} {base h₀ : Heap} {L : Addr} {m : Str → Option Value} {s : Shared} {R : Result → Shared → Prop}
    {led : List (Addr × Obj)} {l : Addr} {vs : List Value} {ns : List Int} {nn : Nat}
    (B : Below A₀ base outer h₀) (F : Fr h₀ L s.heap m) (X : (Mine.hd.heap_1 w.params).In h₀) (T : Top topProg loose mean mg mb h₀) (hk : cs.kind = .function)
    (hd : dp + 1 < recursionLimit) (hu : un + 8 < cLine)
    (N : News h₀ L s.heap led) (hl : (l, listOf vs.toArray nn) ∈ led) (hi : IntsAre vs ns) (hlen : ns.length ≤ 20) (hb : ∀ n ∈ ns, 0 ≤ n ∧ n ≤ 20)
    (hret : ∀ t h' tk', Fr h₀ L h' m → News h₀ L h' led → R (.ok (.ret (.int (weightOf ns) t))) { s with heap := h', toks := tk' }) :
    codeAny (model Challenge.rw_pe0248_01.row.prog w) (ktrTop dp un gd cn cs L a ccd cl outer) (.call (.ref 189) ⟨[.ref l], []⟩) R s := by
  ((w_on; (have hfill : Challenge.rw_pe0248_01 = Challenge.rw_pe0248_01 ∧ Mine.hd.heap_1 = Mine.hd.heap_1 := by (k_fill; exact ⟨rfl, rfl⟩)); clear hfill))
  replace N := news_dup N hl
  k_dflt (((refine' code_def ?k1 ?k2 ?k3 ?k4 ?k5 ?kA ?kF ?kK ?k6 ?k7 ?k8 ?k9 ?kB ?_ ?c2 ?c3 ?c4 ?c5; (case kA => exact rfl); (case kF => exact rfl); (case kK => first | exact rfl | assumption); (case k1 => k_asm); (case k2 => k_asm); (case k3 => k_asm); (case k4 => k_asm); (case k5 => k_asm); (case k6 => k_is); (case k7 => k_is); (case k8 => ktr_room); (case k9 => first | exact BindsTo.of_eq rfl | exact binds_K (by k_in) rfl (by k_is) rfl rfl rfl | (refine' kp_binds ?kx ?ke; (case kx => k_in); (case ke => exact fun _ => rfl))); (case c5 => decide); (case kB => exact locs rfl); (case c2 => exact rfl); (case c3 => exact rfl); (case c4 => exact rfl); k_whole; intro _ _ _ _ _ _ B' _ _; (try dsimp only); (try k_lift B'); (try k_fold))))
  k_steps; refine Stop.out ?_; (with_unfolding_all refine' For_invVF (by assumption) ?k1 ?k2 ?_; (case k1 => exact rfl); (case k2 => exact rfl)); k_steps
  refine Stop.out ?_
  rename_i hR lF' lN' hkeep
  (with_unfolding_all refine' for_range (σ := Int × Tok) (n := ns.length) (fun _ => (l, listOf vs.toArray nn) :: led) (fun c => [(Str.ofString "total", .int c.1 c.2)]) (fun i c => c.1 = wUp ns i) [Str.ofString "size"] ⟨0, _⟩ rfl hR ?ks ?kn lF' lN' ?kf ?kk ?_ ?_)
  case ks => exact small_one (by omega) (by omega) (by omega) (by omega)
  case kn => exact rangeSize_nat _ _
  case kf => rfl
  case kk => kst_all
  · rintro ⟨tot, tt⟩ i t u h tk I oI hin hf hoff F1 N1
    dsimp only [kstB, envOf] at hf hoff F1 N1
    have hbd := wUp_bound hb i (by omega)
    have hsz := szAt_bound hb i
    have hidx : ns.getD ((ns.length : Int) - 1 - (0 + (i : Int))).toNat 0 = szAt ns i := by rw [szAt, show ((ns.length : Int) - 1 - (0 + (i : Int))).toNat = ns.length - 1 - i from by omega]
    have hz : 0 ≤ ns.getD ((ns.length : Int) - 1 - (0 + (i : Int))).toNat 0 ∧ ns.getD ((ns.length : Int) - 1 - (0 + (i : Int))).toNat 0 ≤ 20 := by rw [hidx]; exact hsz
    (try k_fold)
    k_steps
    refine Stop.out ?_
    rename_i F' N'
    refine g_end ⟨tot + (0 + (i : Int) + 1) * ns.getD ((ns.length : Int) - 1 - (0 + (i : Int))).toNat 0 + (ns.getD ((ns.length : Int) - 1 - (0 + (i : Int))).toNat 0 * (ns.getD ((ns.length : Int) - 1 - (0 + (i : Int))).toNat 0 + 1)).fdiv 2, _⟩ (by assumption) (by assumption) (by exact fun p hp => hp) (by exact hoff) (by dsimp only; rw [hf, hidx, wUp, Int.zero_add]) (by kst_all) (by kst_same)
  · rintro ⟨tot, tt⟩ u h tk hf F1 N1
    dsimp only [kstB, envOf] at hf F1 N1
    (try k_fold)
    k_steps
    have e : tot = weightOf ns := hf
    rw [e]
    exact hret _ _ _ (by assumption) (news_tail (by assumption))

theorem fmod_ge (x y : Int) (h : 0 < y) : 0 ≤ x.fmod y := by
  rw [Int.fmod_eq_emod_of_nonneg _ (by omega)]
  exact Int.emod_nonneg _ (by omega)
theorem sum_snoc (c : List Nat) (n : Nat) : (((c ++ [n]).sum : Nat) : Int) = (c.sum : Int) + (n : Int) := by simp
theorem pos_snoc {c : List Nat} (h : ∀ n ∈ c, 1 ≤ n) {k : Nat} : ∀ n ∈ c ++ [k + 1], 1 ≤ n := fun n hn => by
  rcases List.mem_append.mp hn with q | q
  · exact h n q
  · rw [List.mem_singleton.mp q]; omega
theorem pos_snoc' {c : List Nat} (h : ∀ n ∈ c, 1 ≤ n) {k : Nat} (hk : 1 ≤ k) : ∀ n ∈ c ++ [k], 1 ≤ n := fun n hn => by
  rcases List.mem_append.mp hn with q | q
  · exact h n q
  · rw [List.mem_singleton.mp q]; exact hk
theorem hoff9 {a b I : Addr} {o1 o2 o3 : Obj} {l : List (Addr × Obj)} (h : ∀ p ∈ (a, o1) :: (b, o2) :: l, p.1 ≠ I) : ∀ p ∈ (a, o1) :: (b, o3) :: l, p.1 ≠ I := fun p hp => by
  rcases List.mem_cons.mp hp with rfl | hp
  · exact h _ (.head _)
  · rcases List.mem_cons.mp hp with rfl | hp
    · exact h (b, o2) (.tail _ (.head _))
    · exact h p (.tail _ (.tail _ hp))
theorem piles_sub {h₀ h : Heap} {L : Addr} {a b c d : Addr × Obj} {l : List (Addr × Obj)} (N : News h₀ L h (a :: b :: c :: d :: l)) : News h₀ L h (a :: l) := fun p hp => by
  rcases List.mem_cons.mp hp with rfl | hp
  · exact N _ (.head _)
  · exact N p (.tail _ (.tail _ (.tail _ (.tail _ hp))))
structure PSt where
  c : List Nat
  left : Int
  tl : Tok
  us : List Value
  nu : Nat
theorem len_le_sum : ∀ {c : List Nat}, (∀ n ∈ c, 1 ≤ n) → c.length ≤ c.sum
  | [], _ => Nat.le_refl _
  | n :: c, h => by
    have h1 := h n (by simp)
    have h2 := len_le_sum (c := c) fun x hx => h x (by simp [hx])
    rw [List.length_cons, List.sum_cons]
    omega

set_option maxHeartbeats 8000000 in
theorem lawPiles {w : World} {loose : List Str} {mean : ExcName → Option Value} {mg mb : Str → Option Value}
    {dp un : Nat} {gd : Option (List Code)} {cn : Str} {cs : Scope} {a : Addr} {ccd : Value} {cl : List (Str × Addr)} {outer : List Env} {A₀ : Around} {base h₀ : Heap} {L : Addr} {m : Str → Option Value} {s : Shared} {R : Result → Shared → Prop}
    {led : List (Addr × Obj)} {l : Addr} {vs : List Value} {ns : List Int}
    (B : Below A₀ base outer h₀) (F : Fr h₀ L s.heap m) (X : (Mine.hd.heap_1 w.params).In h₀) (T : Top topProg loose mean mg mb h₀) (hk : cs.kind = .function)
    (hd : dp + 1 < recursionLimit) (hu : un + 8 < cLine)
    (N : News h₀ L s.heap led) (hl : base.IsList l vs.toArray) (hi : IntsAre vs ns) (hlen : ns.length ≤ 63)
    (hret : ∀ r us nn (c : List Nat) h' tk', IntsAre us (c.map fun (n : Nat) => (n : Int)) → (∀ n ∈ c, 1 ≤ n) → 7 ≤ c.sum → c.sum ≤ 10 → Fr h₀ L h' m → News h₀ L h' ((r, listOf us.toArray nn) :: led) → (∀ p ∈ led, p.1 < r) → R (.ok (.ret (.ref r))) { s with heap := h', toks := tk' }) :
    codeAny (model Challenge.rw_pe0248_01.row.prog w) (ktrTop dp un gd cn cs L a ccd cl outer) (.call (.ref 177) ⟨[.ref l], []⟩) R s := by
  ((w_on; (have hfill : Challenge.rw_pe0248_01 = Challenge.rw_pe0248_01 ∧ Mine.hd.heap_1 = Mine.hd.heap_1 := by (k_fill; exact ⟨rfl, rfl⟩)); clear hfill))
  have hl0 := stays_list B.stays hl
  k_dflt (((refine' code_def ?k1 ?k2 ?k3 ?k4 ?k5 ?kA ?kF ?kK ?k6 ?k7 ?k8 ?k9 ?kB ?_ ?c2 ?c3 ?c4 ?c5; (case kA => exact rfl); (case kF => exact rfl); (case kK => first | exact rfl | assumption); (case k1 => k_asm); (case k2 => k_asm); (case k3 => k_asm); (case k4 => k_asm); (case k5 => k_asm); (case k6 => k_is); (case k7 => k_is); (case k8 => ktr_room); (case k9 => first | exact BindsTo.of_eq rfl | exact binds_K (by k_in) rfl (by k_is) rfl rfl rfl | (refine' kp_binds ?kx ?ke; (case kx => k_in); (case ke => exact fun _ => rfl))); (case c5 => decide); (case kB => exact locs rfl); (case c2 => exact rfl); (case c3 => exact rfl); (case c4 => exact rfl); k_whole; intro _ _ _ _ _ _ B' _ _; (try dsimp only); (try k_lift B'); (try k_fold))))
  k_steps
  rename_i hcar
  have hints := CarriedAll.intsOf hcar
  k_steps; refine Stop.out ?_; (with_unfolding_all refine' For_invVF (by assumption) ?k1 ?k2 ?_; (case k1 => exact rfl); (case k2 => exact rfl)); k_steps
  refine Stop.out ?_
  rename_i l' h5 l1 h6 D' ws' h7 lF' lN' hI' hC' hL' l2
  have hq1 := fmod_ge (((ns.take 12).filter fun _ => true).map fun a => a.fmod 4).sum 4 (by decide)
  have hq2 := Int.fmod_lt_of_pos (((ns.take 12).filter fun _ => true).map fun a => a.fmod 4).sum (show (0 : Int) < 4 by decide)
  have hl2 : ∀ p ∈ led, p.1 < l' := ktn_ltOf l1.2
  have hl3 : ∀ p ∈ led, p.1 ≠ l' := fun p hp => Nat.ne_of_lt (hl2 p hp)
  have hDl := l2.1
  have lN2 : News _ _ _ ([(D', listOf ws'.toArray 0), (l', listOf #[] 0)] ++ led) := fun p hp => lN' p (by
    rcases List.mem_cons.mp hp with rfl | hp
    · exact .head _
    · rcases List.mem_cons.mp hp with rfl | hp
      · exact .tail _ (.head _)
      · exact .tail _ (.tail _ (.tail _ hp)))
  (with_unfolding_all refine' for_list (σ := PSt) (fun c => [(D', listOf ws'.toArray 0), (l', listOf c.us.toArray c.nu)] ++ led) (fun c => [(Str.ofString "left", .int c.left c.tl)]) (fun i c => IntsAre c.us (c.c.map fun (n : Nat) => (n : Int)) ∧ (∀ n ∈ c.c, 1 ≤ n) ∧ 1 ≤ c.left ∧ 7 ≤ (c.c.sum : Int) + c.left ∧ (c.c.sum : Int) + c.left ≤ 10) [] ⟨[], _, _, [], 0⟩ rfl ?kl lF' lN2 ?kf ?kk ?_ ?_)
  case kl => exact fun c => .head _
  case kk => kst_all
  case kf =>
    show IntsAre [] [] ∧ (∀ n ∈ ([] : List Nat), 1 ≤ n) ∧ _ ∧ _ ∧ _
    refine ⟨.nil, by simp, ?_, ?_, ?_⟩ <;> (simp only [List.sum_nil]; omega)
  · rintro ⟨c, lft, tl, us, nu⟩ i v u h tk I oI hin hv ⟨hf1, hf2, hf3, hf4, hf5⟩ hoff F1 N1
    dsimp only [kstB, envOf, List.cons_append, List.nil_append] at hf1 hf2 hf3 hf4 hf5 hoff F1 N1
    obtain ⟨x, tx, rfl, hx⟩ := hI'.at i v hv
    have hx1 := fmod_ge x 10 (by decide)
    have hx2 := Int.fmod_lt_of_pos x (show (0 : Int) < 10 by decide)
    have hI1 := neN (hoff _ (.head _))
    have hI2 := neN (hoff _ (.tail _ (.head _)))
    have hI3 : ∀ p ∈ led, p.1 ≠ I := fun p hp => hoff p (.tail _ (.tail _ hp))
    dsimp only at hI1 hI2
    have hcl : c.length ≤ 10 := by have := len_le_sum hf2; omega
    have hul : us.length ≤ 10 := by rw [hf1.length, List.length_map]; exact hcl
    (try k_fold)
    k_steps
    · refine' append_K ?F ?N ?U ?_ ?z
      case F => k_asm
      case N => k_asm
      case U => k_upd
      case z => rw [sizeLine_eq]; simp; omega
      intro h5 F5 N5
      rw [List.push_toArray] at N5
      obtain ⟨ws6, hf6, N6⟩ : ∃ ws, IntsAre ws ((c.map fun (n : Nat) => (n : Int)) ++ [x.fmod 10 + 1]) ∧ News _ _ h5 ((I, oI) :: (D', listOf ws'.toArray 0) :: (l', listOf ws.toArray (nu + 1)) :: led) := ⟨_, hf1.append (.cons (x.fmod 10 + 1) _ .nil), N5⟩
      clear N5
      k_steps
      refine Stop.out ?_
      have hk : ((((x.fmod 10).toNat + 1 : Nat)) : Int) = x.fmod 10 + 1 := by omega
      refine g_end ⟨c ++ [(x.fmod 10).toNat + 1], lft - (x.fmod 10 + 1), _, ws6, nu + 1⟩ (by assumption) (by assumption) (by exact fun p hp => hp) (by exact hoff9 hoff) (by exact ⟨by rw [List.map_append, List.map_cons, List.map_nil, hk]; exact hf6, pos_snoc hf2, by dsimp only; omega, by dsimp only; rw [sum_snoc]; omega, by dsimp only; rw [sum_snoc]; omega⟩) (by kst_all) (by kst_same)
    · refine Stop.out ?_
      refine g_end ⟨c, lft, tl, us, nu⟩ (by assumption) (by assumption) (by exact fun p hp => hp) (by exact hoff) (by exact ⟨hf1, hf2, hf3, hf4, hf5⟩) (by kst_all) (by kst_same)
  · rintro ⟨c, lft, tl, us, nu⟩ u h tk ⟨hf1, hf2, hf3, hf4, hf5⟩ F1 N1
    dsimp only [kstB, envOf, List.cons_append, List.nil_append] at hf1 hf2 hf3 hf4 hf5 F1 N1
    have hcl : c.length ≤ 10 := by have := len_le_sum hf2; omega
    have hul : us.length ≤ 10 := by rw [hf1.length, List.length_map]; exact hcl
    (try k_fold)
    k_steps
    rename_i l8 h8 l9 r9 ws9 h9 F9 N9 hI9 l10 kF kN Tc kX
    have hk : ((lft.toNat : Nat) : Int) = lft := by omega
    refine hret r9 ws9 _ (c ++ [lft.toNat]) _ _ (by rw [List.map_append, List.map_cons, List.map_nil, hk]; exact hI9) (pos_snoc' hf2 (by omega)) (by have := sum_snoc c lft.toNat; omega) (by have := sum_snoc c lft.toNat; omega) kF (by exact piles_sub kN) (ktn_ltOf l10.2.2.2)

-- EXPORT
local macro_rules
  | `(tactic| walk_at "eval ListComp") => `(tactic| refine Stop.mk ?_)
  | `(tactic| walk_at "exec Assign cons ListComp") => `(tactic| refine Stop.mk ?_)
  | `(tactic| walk_at "CompSrc") => `(tactic| refine Stop.mk ?_)
  | `(tactic| walk_at "CompSrcT") => `(tactic| refine Stop.mk ?_)

/-- a word as it stands in the text: by turns in quotation marks, or with a backslash ahead of each sign -/
def quo (n : Nat) : List Nat := 34 :: (wdL n ++ [34, 10])
def esc (n : Nat) : List Nat := (wdL n).flatMap (fun ch => [92, ch]) ++ [10]
def piece (k n : Nat) : List Nat := if k % 2 = 0 then quo n else esc n
def textL : Nat → List Nat → List Nat
  | _, [] => []
  | k, n :: c => piece k n ++ textL (k + 1) c
def textOf (c : List Nat) : Str := ⟨(textL 0 c).toArray⟩

/-- the text of the first k words -/
def textUp (c : List Nat) (k : Nat) : Str := textOf (c.take k)

theorem mem_le_sum : ∀ {c : List Nat} {n : Nat}, n ∈ c → n ≤ c.sum
  | m :: c, n, h => by
    rw [List.sum_cons]
    rcases List.mem_cons.mp h with rfl | h
    · omega
    · have := mem_le_sum h; omega

theorem foldl_glue : ∀ (l : List Str) (z : Array Nat), l.foldl (fun acc p => acc ++ (Str.ofString "").cps ++ p.cps) z = z ++ (l.map fun s => s.cps.toList).flatten.toArray
  | [], z => by simp
  | x :: l, z => by
    rw [List.foldl_cons, foldl_glue l]
    have e : (Str.ofString "").cps = #[] := by decide +kernel
    apply Array.toList_inj.mp
    simp [e]
theorem join_flat : ∀ ys : List Str, Txt.join (Str.ofString "") ys = ⟨(ys.map fun s => s.cps.toList).flatten.toArray⟩
  | [] => rfl
  | x :: l => by
    show Str.mk _ = Str.mk _
    congr 1
    show l.foldl (fun acc p => acc ++ (Str.ofString "").cps ++ p.cps) x.cps = _
    rw [foldl_glue]
    apply Array.toList_inj.mp
    simp
theorem two_sum : ∀ l : List Nat, ((l.map fun ch => (⟨#[92, ch]⟩ : Str)).map (·.length)).sum = 2 * l.length
  | [] => rfl
  | a :: l => by
    rw [List.map_cons, List.map_cons, List.sum_cons, two_sum l, List.length_cons]
    show 2 + _ = _
    omega
theorem textL_snoc (n : Nat) : ∀ (c : List Nat) (k : Nat), textL k (c ++ [n]) = textL k c ++ piece (k + c.length) n
  | [], k => by simp [textL]
  | m :: c, k => by
    rw [List.cons_append, textL, textL_snoc n c, textL, List.append_assoc, List.length_cons, show k + 1 + c.length = k + (c.length + 1) from by omega]
theorem esc_length : ∀ l : List Nat, (l.flatMap (fun ch => [92, ch])).length = 2 * l.length
  | [] => rfl
  | a :: l => by
    rw [List.flatMap_cons, List.length_append, esc_length l]
    show 2 + _ = 2 * (l.length + 1)
    omega
theorem piece_length (k n : Nat) : (piece k n).length ≤ 2 * n + 4 := by
  unfold piece
  split
  · unfold quo; rw [List.length_cons, List.length_append, wdL_length]; simp; omega
  · unfold esc; rw [List.length_append, esc_length, wdL_length]; simp; omega
theorem textL_length : ∀ (c : List Nat) (k : Nat), (textL k c).length ≤ 2 * c.sum + 4 * c.length
  | [], k => by simp [textL]
  | n :: c, k => by
    have h1 := piece_length k n
    have h2 := textL_length c (k + 1)
    rw [textL, List.length_append, List.sum_cons, List.length_cons]
    omega
theorem sum_take_le : ∀ (c : List Nat) (i : Nat), (c.take i).sum ≤ c.sum
  | [], i => by simp
  | n :: c, 0 => by simp
  | n :: c, i + 1 => by
    have := sum_take_le c i
    rw [List.take_succ_cons, List.sum_cons, List.sum_cons]
    omega
theorem textUp_length {c : List Nat} (hs : c.sum ≤ 10) (hl : c.length ≤ 10) (i : Nat) : (textUp c i).length ≤ 60 := by
  have h1 := textL_length (c.take i) 0
  have h2 := sum_take_le c i
  have h3 : (c.take i).length ≤ c.length := by rw [List.length_take]; omega
  show (textL 0 (c.take i)).toArray.size ≤ 60
  rw [List.size_toArray]
  omega
theorem textUp_succ {c : List Nat} {i : Nat} (h : i < c.length) : textUp c (i + 1) = ⟨((textL 0 (c.take i)) ++ piece i c[i]).toArray⟩ := by
  have e : c.take (i + 1) = c.take i ++ [c[i]] := by rw [List.take_add_one, List.getElem?_eq_getElem h]; rfl
  show Str.mk (textL 0 (c.take (i + 1))).toArray = _
  rw [e, textL_snoc, List.length_take, Nat.zero_add, Nat.min_eq_left (by omega)]
theorem textUp_even {c : List Nat} {i : Nat} (h : i < c.length) (he : i % 2 = 0) : textUp c i ++ Str.ofString "\"" ++ wd c[i] ++ Str.ofString "\"\n" = textUp c (i + 1) := by
  have e1 : Str.ofString "\"" = ⟨#[34]⟩ := by decide +kernel
  have e2 : Str.ofString "\"\n" = ⟨#[34, 10]⟩ := by decide +kernel
  rw [textUp_succ h, piece, if_pos he, e1, e2]
  refine Str.ext' ?_
  apply Array.toList_inj.mp
  simp [Str.cps_append, textUp, textOf, quo, wd]
theorem textUp_odd {c : List Nat} {i : Nat} (h : i < c.length) (he : ¬ i % 2 = 0) : textUp c i ++ Txt.join (Str.ofString "") ((wdL c[i]).map fun ch => (⟨#[92, ch]⟩ : Str)) ++ Str.ofString "\n" = textUp c (i + 1) := by
  have e2 : Str.ofString "\n" = ⟨#[10]⟩ := by decide +kernel
  rw [textUp_succ h, piece, if_neg he, e2, join_flat]
  refine Str.ext' ?_
  apply Array.toList_inj.mp
  simp [Str.cps_append, textUp, textOf, esc, List.flatMap, Function.comp_def]

set_option maxHeartbeats 8000000 in
theorem lawText {w : World} {loose : List Str} {mean : ExcName → Option Value} {mg mb : Str → Option Value}
    {dp un : Nat} {gd : Option (List Code)} {cn : Str} {cs : Scope} {a : Addr} {ccd : Value} {cl : List (Str × Addr)} {outer : List Env} {A₀ : Around} {base h₀ : Heap} {L : Addr} {m : Str → Option Value} {s : Shared} {R : Result → Shared → Prop}
    {led : List (Addr × Obj)} {l : Addr} {vs : List Value} {nn : Nat} {c : List Nat}
    (B : Below A₀ base outer h₀) (F : Fr h₀ L s.heap m) (X : (Mine.hd.heap_1 w.params).In h₀) (T : Top topProg loose mean mg mb h₀) (hk : cs.kind = .function)
    (hd : dp + 1 < recursionLimit) (hu : un + 8 < cLine)
    (N : News h₀ L s.heap led) (hl : (l, listOf vs.toArray nn) ∈ led) (hs : StrsAre vs (c.map wd)) (hlen : c.length ≤ 10) (hsum : c.sum ≤ 10)
    (hret : ∀ t h' tk', Fr h₀ L h' m → News h₀ L h' led → R (.ok (.ret (.str (textOf c) t))) { s with heap := h', toks := tk' }) :
    codeAny (model Challenge.rw_pe0248_01.row.prog w) (ktrTop dp un gd cn cs L a ccd cl outer) (.call (.ref 182) ⟨[.ref l], []⟩) R s := by
  ((w_on; (have hfill : Challenge.rw_pe0248_01 = Challenge.rw_pe0248_01 ∧ Mine.hd.heap_1 = Mine.hd.heap_1 := by (k_fill; exact ⟨rfl, rfl⟩)); clear hfill))
  replace N := news_dup N hl
  k_dflt (((refine' code_def ?k1 ?k2 ?k3 ?k4 ?k5 ?kA ?kF ?kK ?k6 ?k7 ?k8 ?k9 ?kB ?_ ?c2 ?c3 ?c4 ?c5; (case kA => exact rfl); (case kF => exact rfl); (case kK => first | exact rfl | assumption); (case k1 => k_asm); (case k2 => k_asm); (case k3 => k_asm); (case k4 => k_asm); (case k5 => k_asm); (case k6 => k_is); (case k7 => k_is); (case k8 => ktr_room); (case k9 => first | exact BindsTo.of_eq rfl | exact binds_K (by k_in) rfl (by k_is) rfl rfl rfl | (refine' kp_binds ?kx ?ke; (case kx => k_in); (case ke => exact fun _ => rfl))); (case c5 => decide); (case kB => exact locs rfl); (case c2 => exact rfl); (case c3 => exact rfl); (case c4 => exact rfl); k_whole; intro _ _ _ _ _ _ B' _ _; (try dsimp only); (try k_lift B'); (try k_fold))))
  k_steps; refine Stop.out ?_; (with_unfolding_all refine' For_invVF (by assumption) ?k1 ?k2 ?_; (case k1 => exact rfl); (case k2 => exact rfl)); k_steps
  refine Stop.out ?_
  rename_i hR lF' lN' hkeep
  rw [List.length_map] at hR
  (with_unfolding_all refine' for_range (σ := Str × Tok) (n := c.length) (fun _ => (l, listOf vs.toArray nn) :: led) (fun t => [(Str.ofString "text", .str t.1 t.2)]) (fun i t => t.1 = textUp c i) [] ⟨Str.ofString "", _⟩ rfl hR ?ks ?kn lF' lN' ?kf ?kk ?_ ?_)
  case ks => exact small_one (by omega) (by omega) (by omega) (by omega)
  case kn => exact rangeSize_nat _ _
  case kf => rfl
  case kk => kst_all
  · rintro ⟨tx, tt⟩ i t u h tk I oI hin hf hoff F1 N1
    dsimp only [kstB, envOf] at hf hoff F1 N1
    have hci : (c.map wd)[(0 + (i : Int)).toNat]? = some (wd c[i]) := by
      rw [show (0 + (i : Int)).toNat = i from by omega]; simp [hin]
    have hn : c[i] ≤ 10 := by have := mem_le_sum (c := c) (n := c[i]) (by simp); omega
    have hwl : (wd c[i]).length ≤ 11 := by rw [wd_length]; omega
    have htl : tx.length ≤ 60 := by rw [hf]; exact textUp_length hsum hlen i
    have hpar : (0 + (i : Int)).fmod 2 = ((i % 2 : Nat) : Int) := by rw [Int.zero_add, Int.fmod_eq_emod_of_nonneg _ (by decide)]; omega
    (try k_fold)
    k_steps
    · refine Stop.out ?_
      refine g_end ⟨tx ++ Str.ofString "\"" ++ wd c[i] ++ Str.ofString "\"\n", _⟩ (by assumption) (by assumption) (by exact fun p hp => hp) (by exact hoff) (by dsimp only; rw [hf]; exact textUp_even hin (by omega)) (by kst_all) (by kst_same)
    · refine Stop.out ?_
      have hwx : (wd c[i]).cps.toList = wdL c[i] := by simp [wd]
      refine comp_text (cl := []) F1 (closureFor_none (by decide)) (by decide) rfl (by decide) rfl ?_
      k_steps
      refine ⟨_, _, _, rfl, rfl, F1, N1, by rw [sizeLine_eq]; have := wd_length c[i]; unfold Str.length at this; omega, ?_⟩
      rintro s₂ ⟨h6, rfl⟩
      refine rest_inv (fun j ys nw => nw = (I, oI) :: (l, listOf vs.toArray nn) :: led ∧ StrsAre ys (((wdL c[i]).take j).map fun ch => (⟨#[92, ch]⟩ : Str))) ⟨rfl, .nil⟩ ?_ ?_
      · rintro j ys nw v I1 oI1 C oC D m2 h7 tk7 E' hj ⟨ch, tc, hch, rfl⟩ ⟨rfl, hys⟩ hC hx7 F7 N7 off ne
        dsimp only
        have hch2 : (wdL c[i])[j]? = some ch := by rw [← hwx]; simpa using hch
        k_steps
        refine LCg.CompEnd.intro F7 N7 _ (by exact fun p hp => hp) off trivial (by exact ⟨rfl, by rw [List.take_add_one, hch2, List.map_append]; exact hys.append' (.cons _ _ .nil)⟩)
      · rintro ys nw ⟨rfl, hys⟩
        intro D h8 tk8 F8 N8 off8
        dsimp only
        rw [List.take_of_length_le (by rw [wdL_length]; have := wd_length c[i]; unfold Str.length at this; omega)] at hys
        k_steps
        refine join_listW ⟨_, (N8 _ (.head _)).1, rfl, _, rfl⟩ hys (by decide) ?hw ?_
        case hw =>
          rw [two_sum, List.length_map, wdL_length]
          omega
        intro t9 k9
        have hjl : (Txt.join (Str.ofString "") ((wdL c[i]).map fun ch => (⟨#[92, ch]⟩ : Str))).length ≤ 100 := by
          have h1 := StrLaws.join_length_le (Str.ofString "") ((wdL c[i]).map fun ch => (⟨#[92, ch]⟩ : Str))
          rw [← StrLaws.glued_eq_join, two_sum, List.length_map, wdL_length, show (Str.ofString "").length = 0 from by decide +kernel] at h1
          show (Builtin.Str.glued _ _).length ≤ 100
          omega
        k_steps
        refine Stop.out ?_
        refine g_end ⟨tx ++ Txt.join (Str.ofString "") ((wdL c[i]).map fun ch => (⟨#[92, ch]⟩ : Str)) ++ Str.ofString "\n", _⟩ (by assumption) (by assumption) (by exact fun p hp => .tail _ hp) (by exact hoff) (by dsimp only; rw [hf]; exact textUp_odd hin (by omega)) (by kst_all) (by kst_same)
  · rintro ⟨tx, tt⟩ u h tk hf F1 N1
    dsimp only [kstB, envOf] at hf F1 N1
    (try k_fold)
    k_steps
    have e : tx = textOf c := by rw [hf, textUp, List.take_length]
    rw [e]
    exact hret _ _ _ (by assumption) (news_tail (by assumption))

/-- the next sign of the text, or none -/
def chAt (xt : Str) (p : Nat) : Str := Txt.slice xt (some (p : Int)) (some ((p : Int) + 1))
/-- what the stream's read does, whoever calls it -/
def ReadSpec (w : World) (sts : List (Addr × Obj)) (rf at' : Addr) (xt : Str) : Prop :=
  ∀ (loose : List Str) (mean : ExcName → Option Value) (mg mb : Str → Option Value) (dp un : Nat) (gd : Option (List Code)) (cn : Str) (cs : Scope) (a : Addr) (ccd : Value) (cl : List (Str × Addr)) (outer : List Env) (A₀ : Around) (base h₀ : Heap) (L : Addr) (m : Str → Option Value) (s : Shared) (R : Result → Shared → Prop)
    (led : List (Addr × Obj)) (g : Obj → List (Addr × Obj)) (p : Nat) (tp t1 : Tok) (na : Nat),
    Below A₀ base outer h₀ → Fr h₀ L s.heap m → (Mine.hd.heap_1 w.params).In h₀ → Top topProg loose mean mg mb h₀ → cs.kind = .function → dp + 1 < recursionLimit → un + 8 < cLine →
    News h₀ L s.heap led → (∀ q ∈ sts, q ∈ led) → UpdF at' (listOf #[.int p tp] na) led g → p ≤ xt.length →
    (∀ t' t2 na' h' tk', Fr h₀ L h' m → News h₀ L h' (g (listOf #[.int ((p : Int) + ((chAt xt p).length : Int)) t'] na')) → R (.ok (.ret (.str (chAt xt p) t2))) { s with heap := h', toks := tk' }) →
    codeAny (model Challenge.rw_pe0248_01.row.prog w) (ktrTop dp un gd cn cs L a ccd cl outer) (.call (.ref rf) ⟨[.int 1 t1], []⟩) R s

theorem perm9 {h₀ h : Heap} {L : Addr} {a b c p1 p2 p3 p4 p5 q r1 r2 r3 : Addr × Obj} {led : List (Addr × Obj)} (N : News h₀ L h (a :: b :: c :: p1 :: p2 :: p3 :: p4 :: p5 :: q :: r1 :: r2 :: r3 :: led)) :
    News h₀ L h (a :: b :: c :: q :: (p1 :: p2 :: p3 :: p4 :: p5 :: r1 :: r2 :: r3 :: led)) := fun p hp => by
  refine N p ?_
  simp only [List.mem_cons] at hp ⊢
  rcases hp with h | h | h | h | h | h | h | h | h | h | h | h | h <;> simp [h]

set_option maxHeartbeats 8000000 in
theorem lawLexer {w : World} {loose : List Str} {mean : ExcName → Option Value} {mg mb : Str → Option Value}
    {dp un : Nat} {gd : Option (List Code)} {cn : Str} {cs : Scope} {a : Addr} {ccd : Value} {cl : List (Str × Addr)} {outer : List Env} {A₀ : Around} {base h₀ : Heap} {L : Addr} {m : Str → Option Value} {s : Shared} {R : Result → Shared → Prop}
    {led : List (Addr × Obj)} {xt : Str} {tx : Tok}
    (B : Below A₀ base outer h₀) (F : Fr h₀ L s.heap m) (X : (Mine.hd.heap_1 w.params).In h₀) (T : Top topProg loose mean mg mb h₀) (hk : cs.kind = .function)
    (hd : dp + 3 < recursionLimit) (hu : un + 20 < cLine) (C : CodeHd base 171 167)
    (N : News h₀ L s.heap ((167, tabObj #[]) :: led)) (hne : ∀ p ∈ led, p.1 ≠ 167) (hlen : xt.length ≤ 100)
    (hret : ∀ h' tk' x dx pb at' st dst rf e1 e2 e3 e4 k1 k2 k3 k4 tl tw ta kh kt fd sl fr slr sts, Fr h₀ L h' m →
      News h₀ L h' ((pb, listOf #[] 0) :: (x, instObj 95 dx) :: (dx, lexD e1 e2 e3 e4 k1 k2 k3 k4 1 tl st tw pb 4) :: (at', listOf #[.int 0 ta] 0) :: (sts ++ led)) →
      (∀ p ∈ sts, ∀ q ∈ led, q.1 ≠ p.1) → (∃ ps, ((167 : Addr), tabObj ps) ∈ sts) → (st, (⟨.type "function", some dst, .func fd, sl⟩ : Obj)) ∈ sts → (dst, dictOf [⟨kh, .str (Str.ofString "read") kt, .ref rf⟩] 1) ∈ sts → (rf, (⟨.type "function", none, .func fr, slr⟩ : Obj)) ∈ sts → ReadSpec w sts rf at' xt →
      at' < dx → dx < x → x < pb → (∀ p ∈ sts ++ led, p.1 ≠ at' ∧ p.1 < dx) → R (.ok (.ret (.ref x))) { s with heap := h', toks := tk' }) :
    codeAny (model Challenge.rw_pe0248_01.row.prog w) (ktrTop dp un gd cn cs L a ccd cl outer) (.call (.ref 172) ⟨[.str xt tx], []⟩) R s := by
  ((w_on; (have hfill : Challenge.rw_pe0248_01 = Challenge.rw_pe0248_01 ∧ Mine.hd.heap_1 = Mine.hd.heap_1 := by (k_fill; exact ⟨rfl, rfl⟩)); clear hfill))
  k_dflt (((refine' code_defC ?k1 ?k2 ?k3 ?k4 ?k5 ?kA ?kF ?kK ?k6 ?k7 ?k8 ?k9 ?kB ?kD ?_ ?c2 ?c3 ?c4; (case kA => exact rfl); (case kF => exact rfl); (case kK => first | exact rfl | assumption); (case k1 => k_asm); (case k2 => k_asm); (case k3 => k_asm); (case k4 => k_asm); (case k5 => k_asm); (case k6 => k_is); (case k7 => k_is); (case k8 => ktr_room); (case k9 => first | exact BindsTo.of_eq rfl | exact binds_K (by k_in) rfl (by k_is) rfl rfl rfl); (case kB => exact rfl); (case kD => decide +kernel); (case c2 => exact rfl); (case c3 => exact rfl); (case c4 => exact rfl); k_whole; intro _ _ _ _ _ _ _ N' Y' B' _ _ l1; (try k_lt l1); k_cells Y'; (try simp only [List.cons_append, List.nil_append] at N'); (try dsimp only); (try k_lift B'); (try k_fold))))
  rename_i o1' o2' d1' d2'
  have hal := (‹167 < _ ∧ AllLt _ led›).2
  k_steps
  rename_i la h40 ll h41 oat hdat rf cr ocr vsr tr ctr dcr h42 tk42 hdr1 hdr2 lr1 lr2 h43 fs cc ocs vss ts cts h44 tk44 hds1 hds2 ls1 ls2 h45 F' N'
  refine' fn_set F' N' ?hnn ?_
  case hnn => k_all
  intro d h' tk' F' N' l1 l2
  k_lt l2
  k_lt2 l1
  k_steps
  (refine' call_cls ?k1 ?k2 ?k3 ?k4 ?k5 ?k6 ?_; (case k1 => k_asm); (case k2 => k_asm); (case k3 => k_asm); (case k4 => k_is); (case k5 => k_is); (case k6 => k_is); k_whole; intro x' d' h' F' N' l1 l2; (try k_lt l1); (try k_lt2 l2))
  k_dflt (((refine' code_def ?k1 ?k2 ?k3 ?k4 ?k5 ?kA ?kF ?kK ?k6 ?k7 ?k8 ?k9 ?kB ?_ ?c2 ?c3 ?c4 ?c5; (case kA => exact rfl); (case kF => exact rfl); (case kK => first | exact rfl | assumption); (case k1 => k_asm); (case k2 => k_asm); (case k3 => k_asm); (case k4 => k_asm); (case k5 => k_asm); (case k6 => k_is); (case k7 => k_is); (case k8 => ktr_room); (case k9 => first | exact BindsTo.of_eq rfl | exact binds_K (by k_in) rfl (by k_is) rfl rfl rfl | (refine' kp_binds ?kx ?ke; (case kx => k_in); (case ke => exact fun _ => rfl))); (case c5 => decide); (case kB => exact locs rfl); (case c2 => exact rfl); (case c3 => exact rfl); (case c4 => exact rfl); k_whole; intro _ _ _ _ _ _ B' _ _; (try dsimp only); (try k_lift B'); (try k_fold))))
  k_steps
  rename_i pb h50 l50 h51 F51 N51 kF1 kN1 Tc1 kX1 kF2 kN2 Tc2 kX2
  have hct : o2'.data = .cell (some (.str xt tx)) := d2'
  refine hret _ _ x' d' pb la fs d rf _ _ _ _ _ _ _ _ _ _ _ _ _ _ _ _ _ [_, _, _, _, _, _, _, _] kF2 (by exact perm9 kN2) ?hs1 ?hs9 (List.Mem.tail _ (List.Mem.head _)) (List.Mem.head _) (List.Mem.tail _ (List.Mem.tail _ (List.Mem.tail _ (List.Mem.head _)))) ?hs4 ?hs5 ?hs6 ?hs7 ?hs8
  case hs1 =>
    have hz : ∀ (d e : Nat), AllLt d led → (e = 167 ∨ d ≤ e) → ∀ q ∈ led, q.1 ≠ e := fun d e hal he q hq => he.elim (fun r => by rw [r]; exact hne q hq) fun r => ne_of_allLt hal r q hq
    intro p hp
    refine hz _ p.1 hal ?_
    simp only [List.mem_cons, List.not_mem_nil, or_false] at hp
    rcases hp with rfl | rfl | rfl | rfl | rfl | rfl | rfl | rfl
    all_goals (dsimp only; omega)
  case hs9 => first | exact ⟨_, .head _⟩ | exact ⟨_, .tail _ (.head _)⟩ | exact ⟨_, .tail _ (.tail _ (.head _))⟩ | exact ⟨_, .tail _ (.tail _ (.tail _ (.head _)))⟩ | exact ⟨_, .tail _ (.tail _ (.tail _ (.tail _ (.head _))))⟩ | exact ⟨_, .tail _ (.tail _ (.tail _ (.tail _ (.tail _ (.head _)))))⟩ | exact ⟨_, .tail _ (.tail _ (.tail _ (.tail _ (.tail _ (.tail _ (.head _))))))⟩ | exact ⟨_, .tail _ (.tail _ (.tail _ (.tail _ (.tail _ (.tail _ (.tail _ (.head _)))))))⟩
  case hs5 => have := l1.2.2.2.2.2.1; exact this
  case hs6 => exact l2
  case hs7 => exact l50.1
  case hs8 =>
    have hal2 := ne_of_allLt hal (e := la) (by omega)
    intro p hp
    simp only [List.cons_append, List.nil_append, List.mem_cons] at hp
    rcases hp with rfl | rfl | rfl | rfl | rfl | rfl | rfl | rfl | hp
    all_goals (try (dsimp only; refine ⟨neN ?_, ltN ?_⟩ <;> omega))
    exact ⟨hal2 p hp, Nat.lt_of_lt_of_le (ktn_ltOf hal p hp) (by omega)⟩
  case hs4 =>
    clear kF2 kN2 kF1 kN1 N51 F51 Tc1 kX1 Tc2 kX2 hret
    unfold ReadSpec
    intro loose2 mean2 mg2 mb2 dp2 un2 gd2 cn2 cs2 a2 ccd2 cl2 outer2 A2 base2 h02 L2 m2 s2 R2 led2 g2 p tp t1 na B2 F2 X2 T2 hk2 hd2 hu2 N2 hsub U2 hp hret2
    obtain ⟨news, N3, hne3, -, hin, hback⟩ := updF_front U2 N2
    have q1 := hsub _ (.tail _ (.tail _ (.tail _ (.head _))))
    have q2 := hsub _ (.tail _ (.tail _ (.tail _ (.tail _ (.head _)))))
    have q3 := hsub _ (.tail _ (.tail _ (.tail _ (.tail _ (.tail _ (.head _))))))
    have q4 := hsub _ (.tail _ (.tail _ (.tail _ (.tail _ (.tail _ (.tail _ (.head _)))))))
    clear hsub
    replace q1 := hin _ q1 (by dsimp only; refine neN ?_; omega)
    replace q2 := hin _ q2 (by dsimp only; refine neN ?_; omega)
    replace q3 := hin _ q3 (by dsimp only; refine neN ?_; omega)
    replace q4 := hin _ q4 (by dsimp only; refine neN ?_; omega)
    have n1 : rf ≠ la := by refine neN ?_; omega
    have n2 : cr ≠ la := by refine neN ?_; omega
    replace N3 := news_dup (news_dup (news_dup (news_dup N3 (.tail _ q4)) (.tail _ (.tail _ q3))) (.tail _ (.tail _ (.tail _ q2)))) (.tail _ (.tail _ (.tail _ (.tail _ q1))))
    clear q1 q2 q3 q4 hin U2 N2
    k_dflt ((refine' code_nest ?k1 ?k2 ?k3 ?k4 ?k5 ?kA ?kF ?kK ?k6 ?k7 ?k8 ?k9 ?kB ?_ ?c2 ?c3 ?c4 ?c5; (case kA => exact rfl); (case kF => exact rfl); (case kK => assumption); (case k1 => exact B2); (case k2 => exact F2); (case k3 => exact X2); (case k4 => exact N3); (case k5 => exact T2); (case k6 => k_mem); (case k7 => exact codeRec_news N3 (by k_mem) hdr1 hdr2); (case k8 => ktr_room); (case k9 => exact BindsTo.of_eq rfl); (case c5 => decide); (case kB => exact locs rfl); (case c2 => exact rfl); (case c3 => exact rfl); (case c4 => exact rfl); k_whole; intro g' L' h' FG' F' N' B' X' T'; (try dsimp only); (try k_fold)))
    k_steps
    rename_i kF kN Tc kX
    exact hret2 _ _ _ _ _ kF (hback _ _ (news_tail (news_tail (news_tail (news_tail kN)))))

set_option maxHeartbeats 8000000 in
theorem readChar {w : World} {loose : List Str} {mean : ExcName → Option Value} {mg mb : Str → Option Value}
    {dp un : Nat} {gd : Option (List Code)} {cn : Str} {cs : Scope} {a : Addr} {ccd : Value} {cl : List (Str × Addr)} {outer : List Env} {A₀ : Around} {base h₀ : Heap} {L : Addr} {m : Str → Option Value} {s : Shared} {R : Result → Shared → Prop}
    {led sts : List (Addr × Obj)} {x dx pb at' st dst rf : Addr} {e1 e2 e3 e4 kh : Int} {k1 k2 k3 k4 tl tw kt tp : Tok} {fd fr : FuncData} {sl slr : Array (Option Value)} {ln : Nat} {na p : Nat} {xt : Str}
    (B : Below A₀ base outer h₀) (F : Fr h₀ L s.heap m) (X : (Mine.hd.heap_1 w.params).In h₀) (T : Top topProg loose mean mg mb h₀) (hk : cs.kind = .function)
    (hd : dp + 2 < recursionLimit) (hu : un + 16 < cLine) (C : CodeHd base 171 167)
    (N : News h₀ L s.heap ((at', listOf #[.int p tp] na) :: (dx, lexD e1 e2 e3 e4 k1 k2 k3 k4 ln tl st tw pb 4) :: led)) (had : at' ≠ dx) (hl1 : ∀ q ∈ led, q.1 ≠ at') (hl2 : ∀ q ∈ led, q.1 ≠ dx)
    (hx : (x, instObj 95 dx) ∈ led) (hst : (st, (⟨.type "function", some dst, .func fd, sl⟩ : Obj)) ∈ led) (hdst : (dst, dictOf [⟨kh, .str (Str.ofString "read") kt, .ref rf⟩] 1) ∈ led)
    (hrf : (rf, (⟨.type "function", none, .func fr, slr⟩ : Obj)) ∈ led) (hsts : ∀ q ∈ sts, q ∈ led) (hrs : ReadSpec w sts rf at' xt) (hp : p ≤ xt.length) (hln : ln ≤ 1000) (hlen : xt.length ≤ 100)
    (hret : ∀ t' t2 tl' na' h' tk', Fr h₀ L h' m → News h₀ L h' ((at', listOf #[.int ((p : Int) + ((chAt xt p).length : Int)) t'] na') :: (dx, lexD e1 e2 e3 e4 k1 k2 k3 k4 (if chAt xt p = Str.ofString "\n" then (ln : Int) + 1 else ln) tl' st tw pb 4) :: led) → R (.ok (.ret (.str (chAt xt p) t2))) { s with heap := h', toks := tk' }) :
    codeAny (model Challenge.rw_pe0248_01.row.prog w) (ktrTop dp un gd cn cs L a ccd cl outer) (.call (.ref 78) ⟨[.ref x], []⟩) R s := by
  ((w_on; (have hfill : Challenge.rw_pe0248_01 = Challenge.rw_pe0248_01 ∧ Mine.hd.heap_1 = Mine.hd.heap_1 := by (k_fill; exact ⟨rfl, rfl⟩)); clear hfill))
  replace N := news_dup (news_dup (news_dup (news_dup N (.tail _ (.tail _ hrf))) (.tail _ (.tail _ (.tail _ hdst)))) (.tail _ (.tail _ (.tail _ (.tail _ hst))))) (.tail _ (.tail _ (.tail _ (.tail _ (.tail _ hx)))))
  have nr1 := hl1 _ hrf
  have nr2 := hl2 _ hrf
  have nx1 := hl1 _ hx
  have nx2 := hl2 _ hx
  have ns1 := hl1 _ hst
  have ns2 := hl2 _ hst
  have nd1 := hl1 _ hdst
  have nd2 := hl2 _ hdst
  dsimp only at nr1 nr2 nx1 nx2 ns1 ns2 nd1 nd2
  k_dflt (((refine' code_def ?k1 ?k2 ?k3 ?k4 ?k5 ?kA ?kF ?kK ?k6 ?k7 ?k8 ?k9 ?kB ?_ ?c2 ?c3 ?c4 ?c5; (case kA => exact rfl); (case kF => exact rfl); (case kK => first | exact rfl | assumption); (case k1 => k_asm); (case k2 => k_asm); (case k3 => k_asm); (case k4 => k_asm); (case k5 => k_asm); (case k6 => k_is); (case k7 => k_is); (case k8 => ktr_room); (case k9 => first | exact BindsTo.of_eq rfl | exact binds_K (by k_in) rfl (by k_is) rfl rfl rfl | (refine' kp_binds ?kx ?ke; (case kx => k_in); (case ke => exact fun _ => rfl))); (case c5 => decide); (case kB => exact locs rfl); (case c2 => exact rfl); (case c3 => exact rfl); (case c4 => exact rfl); k_whole; intro _ _ _ _ _ _ B' _ _; (try dsimp only); (try k_lift B'); (try k_fold))))
  k_steps
  rename_i F' N' X' T'
  refine fn_getMethod (N' _ (.tail _ (.head _))).1 (N' _ (.tail _ (.tail _ (.head _)))).1 ?_
  k_steps
  show wpAny _ _ (call (Value.ref rf) [Value.int 1 _]) _ _ _
  replace had := neN had
  k_dflt (refine' wpAny_call (hrs loose mean mg mb _ _ _ _ _ _ _ _ _ _ _ _ _ _ _ _ _ _ p tp _ na B' F' X' T' ?q1 ?q2 ?q3 N' ?q4 ?q5 hp ?_); (case q1 => exact rfl); (case q2 => ktr_room); (case q3 => ktr_units); (case q4 => exact fun q hq => .tail _ (.tail _ (.tail _ (.tail _ (.tail _ (.tail _ (hsts q hq))))))); (case q5 => k_updF))
  intro t' t2 na' h' tk' F' N'
  dsimp only
  k_steps
  · rename_i F9 N9 kF kN Tc kX
    have hch2 : chAt xt p = Str.ofString "\n" := by have hch := ‹(chAt xt p == Str.ofString "\n") = true›; simpa using hch
    exact hret _ _ _ _ _ _ kF (by rw [if_pos hch2]; exact news_tail (news_tail (news_tail (news_tail kN))))
  · rename_i hch kF kN Tc kX
    have hch2 : ¬ chAt xt p = Str.ofString "\n" := by simpa using hch
    exact hret _ _ _ _ _ _ kF (by rw [if_neg hch2]; exact news_tail (news_tail (news_tail (news_tail kN))))

section
open PySem.Builtin
theorem ci_slot_next : Slot "callable_iterator" "__next__" "callable_iterator.__next__" :=
  .of (owner := "callable_iterator") (n := "__next__") (by rw [typeLookup_type, builtinLookup_eq_fast]; kernel_rfl) (by decide +kernel) (by decide +kernel) (by decide +kernel)
    (by first | exact .inl (by decide +kernel) | exact .inr (by decide +kernel)) (by rw [isSubtype_type]; kernel_rfl)
theorem ci_slot_iter : Slot "callable_iterator" "__iter__" "callable_iterator.__iter__" :=
  .of (owner := "callable_iterator") (n := "__iter__") (by rw [typeLookup_type, builtinLookup_eq_fast]; kernel_rfl) (by decide +kernel) (by decide +kernel) (by decide +kernel)
    (by first | exact .inl (by decide +kernel) | exact .inr (by decide +kernel)) (by rw [isSubtype_type]; kernel_rfl)
theorem ci_entry_next : entryFor table "callable_iterator.__next__" = some Builtin.«callable_iterator.__next__» := entryFor_of_fast (by kernel_rfl)
theorem ci_args_next (a : Value) : argsOk "callable_iterator.__next__" ⟨[a], []⟩ := by unfold argsOk; kernel_rfl
theorem ci_args_iter (a : Value) : argsOk "callable_iterator.__iter__" ⟨[a], []⟩ := by unfold argsOk; kernel_rfl
abbrev ciObj (p : Addr) (t : Tok) : Obj := { cls := .type "callable_iterator", data := .fields #[.ref p, .str (Str.ofString "") t, .bool false] }

variable {prog : Program} {w : World} {A : Around} {E : Value → Shared → Prop} {s : Shared}
theorem wpAny_callBorrowed {f : Value} {pos : List Value} {Q : Value → Shared → Prop}
    (hc : codeAny (model prog w) A (.call f ⟨pos, []⟩) (fun r s' => match r with | .ok (.ret v) => Q v s' | .ok _ => False | .error e => E e s') s) :
    wpAny (model prog w) A (callBorrowed f pos) Q E s := by
  intro Γ p hΓ
  have h := hc _ p rfl (hΓ.enter (.call f ⟨pos, []⟩) none p (by intro x; cases x))
  unfold callBorrowed
  rw [Sem.wp_call]
  refine wpCode_mono (fun r s' h' => ?_) h
  cases r with
  | error e => exact h'
  | ok f =>
    cases f with
    | ret v => exact h'
    | next => exact h'.elim
    | brk => exact h'.elim
    | cont => exact h'.elim
theorem borrows_method {p g : Addr} {self : Value} {o : Obj} {fd : FuncData} {Q : Bool → Shared → Prop} (hp : s.heap.get? p = some (methodObj (.ref g) self)) (hg : s.heap.get? g = some o) (ho : o.data = .func fd)
    (h : Q true s) : wpAny (model prog w) A (borrowsExactly (.ref p)) Q E s := by
  unfold borrowsExactly
  refine wpAny_bind (wpAny_load hp ?_)
  show wpAny _ _ (load g >>= _) _ _ _
  refine wpAny_bind (wpAny_load hg ?_)
  rw [ho]
  exact wpAny_pure h
theorem ci_iter {it p : Addr} {t : Tok} {Q : Value → Shared → Prop} (hit : s.heap.get? it = some (ciObj p t)) (h : Q (.ref it) s) : wpAny (model prog w) A (pyIter (.ref it)) Q E s := by
  have hT : s.TypeIs (.ref it) "callable_iterator" := ⟨_, hit, rfl⟩
  refine wpAny_pyIter_slot hT ci_slot_iter (wpAny_call_entry ci_slot_iter hT (b := Builtin.«dict_keyiterator.__iter__») (entryFor_alias (id' := "dict_keyiterator.__iter__") (by kernel_rfl) rfl (by decide +kernel) (by kernel_rfl)) ?_ (ci_args_iter _))
  exact wpAny_pure ⟨_, rfl, "callable_iterator", _, hT, ci_slot_next.lookup, h⟩
theorem ci_next {it p g : Addr} {t : Tok} {self : Value} {o : Obj} {fd : FuncData} {Q : Option Value → Shared → Prop} (hh : A.handled = none)
    (hit : s.heap.get? it = some (ciObj p t)) (hp : s.heap.get? p = some (methodObj (.ref g) self)) (hg : s.heap.get? g = some o) (ho : o.data = .func fd)
    (hc : codeAny (model prog w) A.in1 (.call (.ref g) ⟨[self], []⟩) (fun r s' => match r with
      | .ok (.ret v) => ∃ x u, v = .str x u ∧ s'.heap.get? it = some (ciObj p t) ∧ s'.heap.get? p = some (methodObj (.ref g) self) ∧ s'.heap.get? g = some o ∧ (x ≠ Str.ofString "" → Q (some v) s') ∧ (x = Str.ofString "" → ∀ h', Heap.ExtBut it s'.heap h' → Q none { s' with heap := h' })
      | _ => False) s) :
    wpAny (model prog w) A (pyNext (.ref it)) Q E s := by
  have hT : s.TypeIs (.ref it) "callable_iterator" := ⟨_, hit, rfl⟩
  unfold pyNext
  refine wpAny_bind (wpAny_attempt (wpAny_callSpecial?_slot (name := Str.ofString "__next__") hT ci_slot_next
    (wpAny_call_entry ci_slot_next hT ci_entry_next ?_ (ci_args_next _))))
  show wpAny _ _ (field (.ref it) 2 >>= _) _ _ s
  refine wpAny_bind (wpAny_field hit rfl (x := .bool false) rfl ?_)
  show wpAny _ _ (if (Value.bool false == Value.bool true) = true then _ else _) _ _ s
  rw [if_neg (show ¬ ((Value.bool false == Value.bool true) = true) from Bool.false_ne_true)]
  show wpAny _ _ (field (.ref it) 0 >>= _) _ _ s
  refine wpAny_bind (wpAny_field hit rfl (x := .ref p) rfl ?_)
  refine wpAny_bind (wpAny_attempt ?_)
  unfold callOutOfASlot
  refine wpAny_bind (borrows_method hp hg ho ?_)
  show wpAny _ _ (callBorrowed (.ref p) []) _ _ _
  refine wpAny_callBorrowed (method_call hp (codeAny_mono hc fun r s' hr => ?_))
  cases r with
  | error e => exact hr.elim
  | ok f =>
    cases f with
    | next => exact hr.elim
    | cont => exact hr.elim
    | brk => exact hr.elim
    | ret v =>
      obtain ⟨x, u, rfl, hit', hp', hg', hy, hn⟩ := hr
      dsimp only
      refine wpAny_bind (wpAny_field hit' rfl (x := .bool false) rfl ?_)
      show wpAny _ _ (if (Value.bool false == Value.bool true) = true then _ else _) _ _ s'
      rw [if_neg (show ¬ ((Value.bool false == Value.bool true) = true) from Bool.false_ne_true)]
      show wpAny _ _ (field (.ref it) 1 >>= _) _ _ s'
      refine wpAny_bind (wpAny_field hit' rfl (x := .str (Str.ofString "") t) rfl ?_)
      refine wpAny_bind (wpAny_holding (wpAny_eqBool_str ?_))
      by_cases hx : x = Str.ofString ""
      · subst hx
        rw [show (!decide (Str.ofString "" = Str.ofString "")) = false from by simp]
        rw [if_neg Bool.false_ne_true]
        refine wpAny_bind (wpAny_rule ?_)
        refine wpAny_bind ?_
        refine wpAny_bind (wpAny_field hit' rfl (x := .ref p) rfl ?_)
        refine wpAny_bind ?_
        unfold slotLetsGo
        refine wpAny_bind (borrows_method hp' hg' ho ?_)
        rw [if_pos rfl]
        refine wpAny_pure ?_
        have g1 := Heap.get?_update_self (Obj.mapFields (·.setIfInBounds 0 Value.none)) hit' rfl
        refine wpAny_bind (wpAny_setField hit' rfl (by simp) ?_)
        refine wpAny_bind (wpAny_setField g1 rfl (by simp) ?_)
        have g2 := Heap.get?_update_self (Obj.mapFields (·.setIfInBounds 1 Value.none)) g1 rfl
        refine wpAny_setField g2 rfl (by simp) ?_
        show wpAny _ _ (newExc (.type "StopIteration") [] >>= _) _ _ _
        refine wpAny_bind ?_
        simp only [newExc, newTuple]
        refine wpAny_bind (wpAny_newObj_type ?_ (by size_fits))
        refine wpAny_bind (m := firstArgMember _ _) (wpAny_of_eq (a := Value.none) (by first | rfl | (simp only [firstArgMember]; rfl)) ?_)
        refine wpAny_newObj_type ?_ (by size_fits)
        simp only [raiseNew]
        refine wpAny_bind (wpAny_handled ?_)
        first | rw [show A.in1.handled = none from hh] | rw [hh]
        refine wpAny_bind (wpAny_pure (wpAny_throw ?_))
        refine wpAny_bind (wpAny_isInstance (T := "StopIteration") (b := true) ⟨_, Heap.get?_push_size _ rfl, rfl⟩ isSubtype_stop ?_)
        exact wpAny_pure (hn rfl _ ((((Heap.SameBut.update ..).trans ((Heap.SameBut.update ..).trans (Heap.SameBut.update ..))).extBut.push _).push _))
      · rw [show (!decide (Str.ofString "" = x)) = true from by simpa using fun e => hx e.symm]
        rw [if_pos rfl]
        exact wpAny_pure ⟨_, rfl, wpAny_pure (hy hx)⟩
theorem ci_args (a b : Value) : argsOk "iter" ⟨[a, b], []⟩ := by unfold argsOk; kernel_rfl
theorem method_callable : ∃ r, typeLookup (.type "method") (Str.ofString "__call__") = pure (some r) := ⟨.builtin "method.__call__", by rw [typeLookup_type, builtinLookup_eq_fast]; kernel_rfl⟩
theorem ci_make {h₀ : Heap} {L : Addr} {m : Str → Option Value} {news : List (Addr × Obj)} {q : Addr} {f self : Value} {t : Tok} {Q : Value → Shared → Prop} (F : Fr h₀ L s.heap m) (N : News h₀ L s.heap news) (hq : (q, methodObj f self) ∈ news)
    (h : ∀ (it : Addr) h', Fr h₀ L h' m → News h₀ L h' ((it, ciObj q t) :: news) → (∀ p ∈ news, p.1 < it) → Q (.ref it) { s with heap := h' }) :
    wpAny (model prog w) A (call (.builtin "iter") [.ref q, .str (Str.ofString "") t]) Q E s := by
  obtain ⟨r, hr⟩ := method_callable
  refine call_function_entry (by decide +kernel) (by decide +kernel) kdk_entry_iter (ci_args _ _) ?_
  unfold Builtin.«iter»
  refine wpAny_bind (m := someArgs "iter" 1 2 _) (wpAny_of_eq (a := [Value.ref q, .str (Str.ofString "") t]) (by first | rfl | kernel_rfl!) ?_)
  refine wpAny_bind (wpAny_specialOf (T := "method") ⟨_, (N _ hq).1, rfl⟩ hr ?_)
  show wpAny _ _ (rule _ >>= _) _ _ _
  refine wpAny_bind (wpAny_rule ?_)
  exact wpAny_bind (wpAny_newObj_type (wpAny_pure ⟨_, rfl, h _ _ (F.push _) (News.push F N _ rfl) (fun q hq => Heap.lt_size (N q hq).1)⟩))
end

set_option maxHeartbeats 4000000 in
/-- one pull at the lexer's own iterator -/
theorem ci_pull {w : World} {loose : List Str} {mean : ExcName → Option Value} {mg mb : Str → Option Value}
    {dp un : Nat} {gd : Option (List Code)} {cn : Str} {cs : Scope} {a : Addr} {ccd : Value} {cl : List (Str × Addr)} {outer : List Env} {A₀ : Around} {base h₀ : Heap} {L : Addr} {m : Str → Option Value} {s : Shared} {E : Value → Shared → Prop} {Q : Option Value → Shared → Prop}
    {led sts : List (Addr × Obj)} {x dx pb at' st dst rf it pm : Addr} {e1 e2 e3 e4 kh : Int} {k1 k2 k3 k4 tl tw kt tp ti : Tok} {fd fr : FuncData} {sl slr : Array (Option Value)} {ln : Nat} {na p : Nat} {xt : Str}
    (B : Below A₀ base outer h₀) (F : Fr h₀ L s.heap m) (X : (Mine.hd.heap_1 w.params).In h₀) (T : Top topProg loose mean mg mb h₀) (hk : cs.kind = .function)
    (hd : dp + 2 < recursionLimit) (hu : un + 17 < cLine) (C : CodeHd base 171 167)
    (N : News h₀ L s.heap ((it, ciObj pm ti) :: (at', listOf #[.int p tp] na) :: (dx, lexD e1 e2 e3 e4 k1 k2 k3 k4 ln tl st tw pb 4) :: led)) (had : at' ≠ dx) (hia : at' ≠ it) (hid : dx ≠ it) (hl1 : ∀ q ∈ led, q.1 ≠ at') (hl2 : ∀ q ∈ led, q.1 ≠ dx) (hl3 : ∀ q ∈ led, q.1 ≠ it)
    (hx : (x, instObj 95 dx) ∈ led) (hpm : (pm, methodObj (.ref 78) (.ref x)) ∈ led) (hst : (st, (⟨.type "function", some dst, .func fd, sl⟩ : Obj)) ∈ led) (hdst : (dst, dictOf [⟨kh, .str (Str.ofString "read") kt, .ref rf⟩] 1) ∈ led)
    (hrf : (rf, (⟨.type "function", none, .func fr, slr⟩ : Obj)) ∈ led) (hsts : ∀ q ∈ sts, q ∈ led) (hrs : ReadSpec w sts rf at' xt) (hp : p ≤ xt.length) (hln : ln ≤ 1000) (hlen : xt.length ≤ 100)
    (hitem : chAt xt p ≠ Str.ofString "" → ∀ t' t2 tl' na' h' tk', Fr h₀ L h' m → News h₀ L h' ((it, ciObj pm ti) :: (at', listOf #[.int ((p : Int) + ((chAt xt p).length : Int)) t'] na') :: (dx, lexD e1 e2 e3 e4 k1 k2 k3 k4 (if chAt xt p = Str.ofString "\n" then (ln : Int) + 1 else ln) tl' st tw pb 4) :: led) → Q (some (.str (chAt xt p) t2)) { s with heap := h', toks := tk' })
    (hend : chAt xt p = Str.ofString "" → ∀ t' tl' na' h' tk', Fr h₀ L h' m → News h₀ L h' ((at', listOf #[.int p t'] na') :: (dx, lexD e1 e2 e3 e4 k1 k2 k3 k4 ln tl' st tw pb 4) :: led) → Q none { s with heap := h', toks := tk' }) :
    wpAny (model Challenge.rw_pe0248_01.row.prog w) (ktrTop dp un gd cn cs L a ccd cl outer) (pyNext (.ref it)) Q E s := by
  have hN : News h₀ L s.heap ((at', listOf #[.int p tp] na) :: (dx, lexD e1 e2 e3 e4 k1 k2 k3 k4 ln tl st tw pb 4) :: (it, ciObj pm ti) :: led) := fun q hq => N q (by
    rcases List.mem_cons.mp hq with rfl | hq
    · exact .tail _ (.head _)
    · rcases List.mem_cons.mp hq with rfl | hq
      · exact .tail _ (.tail _ (.head _))
      · rcases List.mem_cons.mp hq with rfl | hq
        · exact .head _
        · exact .tail _ (.tail _ (.tail _ hq)))
  have hg : ∃ oc od fd osl, (Mine.hd.heap_1 w.params).lookup 78 = some ⟨oc, od, .func fd, osl⟩ := by
    ((w_on; (have hfill : Challenge.rw_pe0248_01 = Challenge.rw_pe0248_01 ∧ Mine.hd.heap_1 = Mine.hd.heap_1 := by (k_fill; exact ⟨rfl, rfl⟩)); clear hfill))
    exact ⟨_, _, _, _, by k_is⟩
  obtain ⟨oc, od, fd, osl, hg⟩ := hg
  refine ci_next rfl (N _ (.head _)).1 (N _ (.tail _ (.tail _ (.tail _ hpm)))).1 (F.keep _ _ (X _ _ hg)) rfl ?_
  refine readChar (un := un + 1) B F X T hk hd (by omega) C hN had ?_ ?_ (.tail _ hx) (.tail _ hst) (.tail _ hdst) (.tail _ hrf) (fun q hq => .tail _ (hsts q hq)) hrs hp hln hlen ?_
  · intro q hq
    rcases List.mem_cons.mp hq with rfl | hq
    · exact hia.symm
    · exact hl1 q hq
  · intro q hq
    rcases List.mem_cons.mp hq with rfl | hq
    · exact hid.symm
    · exact hl2 q hq
  · intro t' t2 tl' na' h' tk' F' N'
    refine ⟨_, _, rfl, (N' _ (.tail _ (.tail _ (.head _)))).1, (N' _ (.tail _ (.tail _ (.tail _ hpm)))).1, F'.keep _ _ (X _ _ hg), fun hne => ?_, fun he h'' hx'' => ?_⟩
    · refine hitem hne t' t2 tl' na' h' tk' F' fun q hq => N' q ?_
      rcases List.mem_cons.mp hq with rfl | hq
      · exact .tail _ (.tail _ (.head _))
      · rcases List.mem_cons.mp hq with rfl | hq
        · exact .head _
        · rcases List.mem_cons.mp hq with rfl | hq
          · exact .tail _ (.head _)
          · exact .tail _ (.tail _ (.tail _ hq))
    · have hit := N' _ (.tail _ (.tail _ (.head _)))
      dsimp only at hx''
      refine hend he t' tl' na' h'' tk' ⟨F'.ns.at' fun o e => hx'' _ _ (fun q => hit.2.1 q.symm) e, fun b o e => hx'' b o (fun q => ?_) (F'.keep b o e), F'.above⟩ fun q hq => ?_
      · rw [q, hit.2.2] at e; cases e
      · have hne : q.1 ≠ it := by
          rcases List.mem_cons.mp hq with rfl | hq
          · exact hia
          · rcases List.mem_cons.mp hq with rfl | hq
            · exact hid
            · exact hl3 q hq
        have : News h₀ L h' ((at', listOf #[.int p t'] na') :: (dx, lexD e1 e2 e3 e4 k1 k2 k3 k4 ln tl' st tw pb 4) :: led) := by
          rw [he, if_neg (by decide +kernel)] at N'
          have e0 : (p : Int) + ((Str.ofString "").length : Int) = p := by rw [show (Str.ofString "").length = 0 from by decide +kernel]; omega
          rw [e0] at N'
          intro q hq
          refine N' q ?_
          rcases List.mem_cons.mp hq with rfl | hq
          · exact .head _
          · rcases List.mem_cons.mp hq with rfl | hq
            · exact .tail _ (.head _)
            · exact .tail _ (.tail _ (.tail _ hq))
        exact ⟨hx'' _ _ hne (this q hq).1, (this q hq).2⟩

theorem tlen (xt : Str) : xt.cps.toList.length = xt.length := Array.length_toList
theorem chAt_cons {xt : Str} {p ch : Nat} {r : List Nat} (h : xt.cps.toList.drop p = ch :: r) : chAt xt p = ⟨#[ch]⟩ := by
  have hl : p < xt.cps.toList.length := by
    rcases Nat.lt_or_ge p xt.cps.toList.length with q | q
    · exact q
    · rw [List.drop_eq_nil_of_le q] at h; cases h
  unfold chAt
  rw [beq_iff_eq.mp (slice_closesL (x := xt) (i := (p : Int)) (j := (p : Int) + 1) (by omega) (by omega) (by rw [tlen] at hl; omega))]
  rw [Int.toNat_natCast, h, show ((p : Int) + 1 - p).toNat = 1 from by omega]
  rfl
theorem chAt_nil {xt : Str} : chAt xt xt.length = Str.ofString "" := by
  unfold chAt
  have h0 : ¬ ((xt.length : Int) < 0) := by omega
  have h1 : ¬ ((xt.length : Int) + 1 < 0) := by omega
  have h2 : (1 : Int) > 0 := by decide
  have e : PySem.Builtin.Str.strSliceIndices (some (xt.length : Int)) (some ((xt.length : Int) + 1)) 1 xt.length = PySem.Builtin.Str.strSliceIndices (some (xt.length : Int)) (some (xt.length : Int)) 1 xt.length := by
    simp only [PySem.Builtin.Str.strSliceIndices, h0, h1, h2, if_false, if_true, Int.min_eq_right (show (xt.length : Int) ≤ (xt.length : Int) + 1 by omega), Int.min_self]
  have e2 : Txt.slice xt (some (xt.length : Int)) (some ((xt.length : Int) + 1)) = Txt.slice xt (some (xt.length : Int)) (some (xt.length : Int)) := by
    unfold Txt.slice
    rw [e]
  rw [e2, beq_iff_eq.mp (slice_closesL (x := xt) (i := (xt.length : Int)) (j := (xt.length : Int)) (by omega) (by omega) (by omega))]
  rw [Int.sub_self]
  rfl
structure CS where
  p : Nat
  ln : Nat
  tp : Tok
  tl : Tok
  na : Nat
  tok : Str
  tt : Tok

set_option maxHeartbeats 4000000 in
/-- a loop over the lexer's own iterator -/
theorem ci_loop {w : World} {loose : List Str} {mean : ExcName → Option Value} {mg mb : Str → Option Value}
    {dp un : Nat} {gd : Option (List Code)} {cn : Str} {cs : Scope} {a : Addr} {ccd : Value} {cl : List (Str × Addr)} {outer : List Env} {A₀ : Around} {base h₀ : Heap} {m₀ : Str → Option Value} {s : Shared} {E : Value → Shared → Prop} {Q : Flow → Shared → Prop}
    {led sts : List (Addr × Obj)} {x dx pb at' st dst rf it pm : Addr} {e1 e2 e3 e4 kh : Int} {k1 k2 k3 k4 tw kt ti : Tok} {fd fr : FuncData} {sl slr : Array (Option Value)} {xt : Str}
    {env : Env} {y : Str} {py : Pos} {body : List Stmt} (Facts : CS → Prop) (ps : CS → List (Str × Value)) (stored : List Str) (c₀ : CS)
    (B : Below A₀ base outer h₀) (F : Fr h₀ env.locals s.heap m₀) (X : (Mine.hd.heap_1 w.params).In h₀) (T : Top topProg loose mean mg mb h₀) (hk : cs.kind = .function)
    (hd : dp + 2 < recursionLimit) (hu : un + 17 < cLine) (C : CodeHd base 171 167)
    (N : News h₀ env.locals s.heap ((it, ciObj pm ti) :: (at', listOf #[.int c₀.p c₀.tp] c₀.na) :: (dx, lexD e1 e2 e3 e4 k1 k2 k3 k4 c₀.ln c₀.tl st tw pb 4) :: led)) (had : at' ≠ dx) (hia : at' ≠ it) (hid : dx ≠ it) (hl1 : ∀ q ∈ led, q.1 ≠ at') (hl2 : ∀ q ∈ led, q.1 ≠ dx) (hl3 : ∀ q ∈ led, q.1 ≠ it)
    (hx : (x, instObj 95 dx) ∈ led) (hpm : (pm, methodObj (.ref 78) (.ref x)) ∈ led) (hst : (st, (⟨.type "function", some dst, .func fd, sl⟩ : Obj)) ∈ led) (hdst : (dst, dictOf [⟨kh, .str (Str.ofString "read") kt, .ref rf⟩] 1) ∈ led)
    (hrf : (rf, (⟨.type "function", none, .func fr, slr⟩ : Obj)) ∈ led) (hsts : ∀ q ∈ sts, q ∈ led) (hrs : ReadSpec w sts rf at' xt) (hlen : xt.length ≤ 100)
    (hF : ∀ c, Facts c → c.p ≤ xt.length ∧ c.ln ≤ 1000) (hf : Facts c₀) (hps : ∀ p ∈ ps c₀, m₀ p.1 = some p.2)
    (hy : env.kindOf y = some .local) (hp : (env.scope.kind == .class || (env.scope.kind == .module && env.locals != env.globals)) = false)
    (turn : ∀ (c : CS) (ch : Nat) (r : List Nat) t t' tl' na' (u : Str → Option Value) h tk, xt.cps.toList.drop c.p = ch :: r → Facts c → Fr h₀ env.locals h (fun z => if z = y then some (.str ⟨#[ch]⟩ t) else kstB (fun z => if stored.contains z then u z else m₀ z) (ps c) z) →
      News h₀ env.locals h ((it, ciObj pm ti) :: (at', listOf #[.int ((c.p + 1 : Nat) : Int) t'] na') :: (dx, lexD e1 e2 e3 e4 k1 k2 k3 k4 ((if ch = 10 then c.ln + 1 else c.ln : Nat) : Int) tl' st tw pb 4) :: led) →
      wpAny (model Challenge.rw_pe0248_01.row.prog w) (ktrTop dp un gd cn cs env.locals a ccd cl outer) (execs body env)
        (GPost h₀ env.locals it (ciObj pm ti) (fun c => (at', listOf #[.int c.p c.tp] c.na) :: (dx, lexD e1 e2 e3 e4 k1 k2 k3 k4 c.ln c.tl st tw pb 4) :: led) ps (fun _ c' => Facts c' ∧ c.p < c'.p) y stored m₀ 0 { s with heap := h, toks := tk } Q) E { s with heap := h, toks := tk })
    (done : ∀ (c : CS) (u : Str → Option Value) h tk t' tl' na', c.p = xt.length → Facts c → Fr h₀ env.locals h (fun z => if z = y then u z else kstB (fun z => if stored.contains z then u z else m₀ z) (ps c) z) →
      News h₀ env.locals h ((at', listOf #[.int c.p t'] na') :: (dx, lexD e1 e2 e3 e4 k1 k2 k3 k4 c.ln tl' st tw pb 4) :: led) → Q .next { s with heap := h, toks := tk })
    (hE : PassesOwn (model Challenge.rw_pe0248_01.row.prog w) (ktrTop dp un gd cn cs env.locals a ccd cl outer) env E := by passes_own) :
    codeAny (model Challenge.rw_pe0248_01.row.prog w) (ktrTop dp un gd cn cs env.locals a ccd cl outer) (.forLoop (.Name y py) (.ref it) body [] env)
      (fun r s' => match r with | .ok f => Q f s' | .error e => cameBackBy (model Challenge.rw_pe0248_01.row.prog w) (ktrTop dp un gd cn cs env.locals a ccd cl outer) env E e s') s := by
  refine codeAny_forLoop (fun k s' => ∃ (c : CS) (h : Heap) (tk : Nat) (m' : Str → Option Value), s' = { s with heap := h, toks := tk } ∧ Fr h₀ env.locals h m' ∧
      News h₀ env.locals h ((it, ciObj pm ti) :: (at', listOf #[.int c.p c.tp] c.na) :: (dx, lexD e1 e2 e3 e4 k1 k2 k3 k4 c.ln c.tl st tw pb 4) :: led) ∧ Facts c ∧ (∀ p ∈ ps c, m' p.1 = some p.2) ∧
      (∀ z, z ≠ y → (∀ p ∈ ps c, z ≠ p.1) → stored.contains z = false → m' z = m₀ z) ∧ k = xt.length + 1 - c.p) ?_ _ ⟨c₀, s.heap, s.toks, m₀, rfl, F, N, hf, hps, fun _ _ _ _ => rfl, rfl⟩
  rintro k s' ⟨c, h, tk, m', rfl, F', N', hf', h1, h2, rfl⟩
  obtain ⟨hcp, hcl⟩ := hF c hf'
  refine ci_pull (s := { s with heap := h, toks := tk }) B F' X T hk hd hu C N' had hia hid hl1 hl2 hl3 hx hpm hst hdst hrf hsts hrs hcp hcl hlen ?_ ?_
  · intro hne t' t2 tl' na' h' tk' F₁ N₁
    obtain ⟨ch, r, hr⟩ : ∃ ch r, xt.cps.toList.drop c.p = ch :: r := by
      cases hr : xt.cps.toList.drop c.p with
      | cons ch r => exact ⟨_, _, rfl⟩
      | nil =>
        have h5 := List.drop_eq_nil_iff.mp hr
        rw [tlen] at h5
        have h6 : c.p = xt.length := by omega
        rw [h6] at hne
        exact absurd chAt_nil hne
    have hch := chAt_cons hr
    rw [hch] at N₁ ⊢
    have ea : ((c.p : Int) + ((Str.mk #[ch]).length : Int)) = ((c.p + 1 : Nat) : Int) := by
      show ((c.p : Int) + ((1 : Nat) : Int)) = _
      omega
    have eb : (if Str.mk #[ch] = Str.ofString "\n" then (c.ln : Int) + 1 else c.ln) = ((if ch = 10 then c.ln + 1 else c.ln : Nat) : Int) := by
      by_cases hc : ch = 10
      · subst hc
        rw [if_pos (by decide +kernel), if_pos rfl]; omega
      · rw [if_neg, if_neg hc]
        intro q
        rw [show Str.ofString "\n" = ⟨#[10]⟩ from by decide +kernel] at q
        injection q with q
        simp at q
        exact hc q
    rw [ea, eb] at N₁
    dsimp only
    refine wpAny_assign_Name (wpAny_storeName_local hy F₁.ns (fun h₂ hn₂ hs₂ => ?_) hp)
    have F₂ := F₁.set hn₂ hs₂
    have N₂ := N₁.set hs₂
    refine wpAny_mono (wpAny_passesOwn hE (turn c ch r t2 t' tl' na' m' h₂ (tk' + 1) hr hf' (kst_fr h1 h2 F₂) N₂)) (fun f s₃ h₃ => ?_) fun _ _ e => e
    have fin : GEnd h₀ env.locals it (ciObj pm ti) (fun c => (at', listOf #[.int c.p c.tp] c.na) :: (dx, lexD e1 e2 e3 e4 k1 k2 k3 k4 c.ln c.tl st tw pb 4) :: led) ps (fun _ c' => Facts c' ∧ c.p < c'.p) y stored m₀ 0 { s with heap := h₂, toks := tk' + 1 } s₃ → ∃ m, m < xt.length + 1 - c.p ∧ ∃ (c : CS) (h : Heap) (tk : Nat) (m' : Str → Option Value), s₃ = { s with heap := h, toks := tk } ∧ Fr h₀ env.locals h m' ∧
      News h₀ env.locals h ((it, ciObj pm ti) :: (at', listOf #[.int c.p c.tp] c.na) :: (dx, lexD e1 e2 e3 e4 k1 k2 k3 k4 c.ln c.tl st tw pb 4) :: led) ∧ Facts c ∧ (∀ p ∈ ps c, m' p.1 = some p.2) ∧
      (∀ z, z ≠ y → (∀ p ∈ ps c, z ≠ p.1) → stored.contains z = false → m' z = m₀ z) ∧ m = xt.length + 1 - c.p := by
      rintro ⟨c', h', tk, m'', e, F', N', ho, ⟨hf'', hlt⟩, hk'', hr''⟩
      obtain ⟨hcp', _⟩ := hF c' hf''
      exact ⟨xt.length + 1 - c'.p, by omega, c', h', tk, m'', e, F', N', hf'', hk'', hr'', rfl⟩
    cases f with
    | ret v => exact h₃
    | brk => exact h₃
    | next => exact fin h₃
    | cont => exact fin h₃
  · intro he t' tl' na' h' tk' F₁ N₁
    have hpe : c.p = xt.length := by
      rcases Nat.lt_or_ge c.p xt.length with q | q
      · exfalso
        cases hr : xt.cps.toList.drop c.p with
        | cons ch r =>
          rw [chAt_cons hr] at he
          have := congrArg Str.length he
          rw [show (Str.ofString "").length = 0 from by decide +kernel] at this
          exact absurd this (by show (1 : Nat) ≠ 0; decide)
        | nil =>
          have h5 := List.drop_eq_nil_iff.mp hr
          rw [tlen] at h5
          omega
      · omega
    exact wpAny_execs_nil (done c m' h' tk' t' tl' na' hpe hf' (kst_frOut h1 h2 F₁) N₁)

set_option maxHeartbeats 4000000 in
/-- one reading behind the iterator's back -/
theorem read_step {w : World} {loose : List Str} {mean : ExcName → Option Value} {mg mb : Str → Option Value}
    {dp un : Nat} {gd : Option (List Code)} {cn : Str} {cs : Scope} {a : Addr} {ccd : Value} {cl : List (Str × Addr)} {outer : List Env} {A₀ : Around} {base h₀ : Heap} {L : Addr} {m : Str → Option Value} {s : Shared} {E : Value → Shared → Prop} {Q : Value → Shared → Prop}
    {led sts : List (Addr × Obj)} {x dx pb at' st dst rf it pm : Addr} {e1 e2 e3 e4 kh : Int} {k1 k2 k3 k4 tl tw kt tp ti : Tok} {fd fr : FuncData} {sl slr : Array (Option Value)} {ln : Nat} {na p z : Nat} {r : List Nat} {xt : Str}
    (B : Below A₀ base outer h₀) (F : Fr h₀ L s.heap m) (X : (Mine.hd.heap_1 w.params).In h₀) (T : Top topProg loose mean mg mb h₀) (hk : cs.kind = .function)
    (hd : dp + 2 < recursionLimit) (hu : un + 16 < cLine) (C : CodeHd base 171 167)
    (N : News h₀ L s.heap ((it, ciObj pm ti) :: (at', listOf #[.int p tp] na) :: (dx, lexD e1 e2 e3 e4 k1 k2 k3 k4 ln tl st tw pb 4) :: led)) (had : at' ≠ dx) (hia : at' ≠ it) (hid : dx ≠ it) (hl1 : ∀ q ∈ led, q.1 ≠ at') (hl2 : ∀ q ∈ led, q.1 ≠ dx)
    (hx : (x, instObj 95 dx) ∈ led) (hst : (st, (⟨.type "function", some dst, .func fd, sl⟩ : Obj)) ∈ led) (hdst : (dst, dictOf [⟨kh, .str (Str.ofString "read") kt, .ref rf⟩] 1) ∈ led)
    (hrf : (rf, (⟨.type "function", none, .func fr, slr⟩ : Obj)) ∈ led) (hsts : ∀ q ∈ sts, q ∈ led) (hrs : ReadSpec w sts rf at' xt) (hp : p ≤ xt.length) (hln : ln ≤ 1000) (hlen : xt.length ≤ 100)
    (hr : xt.cps.toList.drop p = z :: r) (hz : z ≠ 10)
    (h : ∀ t' t2 tl' na' h' tk', Fr h₀ L h' m → News h₀ L h' ((x, instObj 95 dx) :: (it, ciObj pm ti) :: (at', listOf #[.int ((p + 1 : Nat) : Int) t'] na') :: (dx, lexD e1 e2 e3 e4 k1 k2 k3 k4 ln tl' st tw pb 4) :: led) → Q (.str ⟨#[z]⟩ t2) { s with heap := h', toks := tk' }) :
    wpAny (model Challenge.rw_pe0248_01.row.prog w) (ktrTop dp un gd cn cs L a ccd cl outer) (call (.ref 78) [.ref x]) Q E s := by
  have hN : News h₀ L s.heap ((at', listOf #[.int p tp] na) :: (dx, lexD e1 e2 e3 e4 k1 k2 k3 k4 ln tl st tw pb 4) :: (it, ciObj pm ti) :: led) := fun q hq => N q (by
    simp only [List.mem_cons] at hq ⊢
    rcases hq with h | h | h | h <;> simp [h])
  refine wpAny_call (readChar B F X T hk hd hu C hN had ?_ ?_ (.tail _ hx) (.tail _ hst) (.tail _ hdst) (.tail _ hrf) (fun q hq => .tail _ (hsts q hq)) hrs hp hln hlen ?_)
  · intro q hq
    rcases List.mem_cons.mp hq with rfl | hq
    · exact hia.symm
    · exact hl1 q hq
  · intro q hq
    rcases List.mem_cons.mp hq with rfl | hq
    · exact hid.symm
    · exact hl2 q hq
  · intro t' t2 tl' na' h' tk' F' N'
    rw [chAt_cons hr] at N' ⊢
    have ea : ((p : Int) + ((Str.mk #[z]).length : Int)) = ((p + 1 : Nat) : Int) := by
      show ((p : Int) + ((1 : Nat) : Int)) = _
      omega
    have eb : (if Str.mk #[z] = Str.ofString "\n" then (ln : Int) + 1 else ln) = ln := by
      rw [if_neg]
      intro q
      rw [show Str.ofString "\n" = ⟨#[10]⟩ from by decide +kernel] at q
      injection q with q
      simp at q
      exact hz q
    rw [ea, eb] at N'
    refine h t' t2 tl' na' h' tk' F' fun q hq => N' q ?_
    simp only [List.mem_cons] at hq ⊢
    rcases hq with h | h | h | h | h
    · rw [h]; exact .inr (.inr (.inr hx))
    · simp [h]
    · simp [h]
    · simp [h]
    · simp [h]

/-- what a reading of the text meets: the token, what is left of the text, the lines it goes past -/
inductive Tk : List Nat → Str → List Nat → Nat → Prop
  | q (n : Nat) (rr : List Nat) : Tk (34 :: (wdL n ++ 34 :: rr)) (wd n) rr 0
  | e (n : Nat) (rr : List Nat) : Tk ((wdL n).flatMap (fun z => [92, z]) ++ 10 :: rr) (wd n) rr 1
  | nl {r v r' d} : Tk r v r' d → Tk (10 :: r) v r' (d + 1)
  | nil : Tk [] (Str.ofString "") [] 0

theorem Tk.inv {ch : Nat} {r : List Nat} {v : Str} {r' : List Nat} {d : Nat} (h : Tk (ch :: r) v r' d) : (∃ n, ch = 34 ∧ r = wdL n ++ 34 :: r' ∧ v = wd n ∧ d = 0) ∨ (∃ n z todo, ch = 92 ∧ wdL n = z :: todo ∧ r = z :: (todo.flatMap (fun z => [92, z]) ++ 10 :: r') ∧ v = wd n ∧ d = 1) ∨ (∃ d', ch = 10 ∧ d = d' + 1 ∧ Tk r v r' d') := by
  generalize hl : ch :: r = l at h
  cases h with
  | q n rr => injection hl with h1 h2; exact .inl ⟨n, h1, h2, rfl, rfl⟩
  | e n rr =>
    refine .inr (.inl ?_)
    cases hw : wdL n with
    | nil => have := wdL_length n; rw [hw] at this; cases this
    | cons z todo =>
      rw [hw] at hl
      have : ch :: r = 92 :: z :: (todo.flatMap (fun z => [92, z]) ++ 10 :: r') := hl
      injection this with h1 h2
      exact ⟨n, z, todo, h1, hw, h2, rfl, rfl⟩
  | nl h => injection hl with h1 h2; subst h2; exact .inr (.inr ⟨_, h1, rfl, h⟩)
  | nil => cases hl
theorem Tk.inv_nil {v : Str} {r' : List Nat} {d : Nat} (h : Tk [] v r' d) : v = Str.ofString "" ∧ r' = [] ∧ d = 0 := by
  generalize hl : ([] : List Nat) = l at h
  cases h with
  | q n rr => cases hl
  | e n rr => exact absurd hl.symm (by simp)
  | nl h => cases hl
  | nil => exact ⟨rfl, rfl, rfl⟩
theorem wdL_mem {n z : Nat} (h : z ∈ wdL n) : z = 32 ∨ z = 9 := by
  unfold wdL at h
  rcases List.mem_append.mp h with h | h
  · exact .inl (List.eq_of_mem_replicate h)
  · exact .inr (List.mem_singleton.mp h)
theorem drop_next {xt : Str} {p ch : Nat} {r : List Nat} (h : xt.cps.toList.drop p = ch :: r) : xt.cps.toList.drop (p + 1) = r ∧ p + 1 ≤ xt.length := by
  have hl : p < xt.cps.toList.length := by
    rcases Nat.lt_or_ge p xt.cps.toList.length with q | q
    · exact q
    · rw [List.drop_eq_nil_of_le q] at h; cases h
  refine ⟨?_, by rw [tlen] at hl; omega⟩
  rw [← List.drop_drop, h]
  rfl
theorem news_p1 {h₀ h : Heap} {L : Addr} {i m x b a d : Addr × Obj} {led : List (Addr × Obj)} (N : News h₀ L h (i :: m :: x :: b :: a :: d :: led)) : News h₀ L h (i :: a :: d :: m :: led) := fun q hq => N q (by
  simp only [List.mem_cons] at hq ⊢
  rcases hq with h | h | h | h | h <;> simp [h])
theorem ws10 : (Builtin.Str.occurrences (Str.ofString "\n\t\r ") (Str.ofString "\n") 0 (Str.ofString "\n\t\r ").length 1).isEmpty = false := by decide +kernel
theorem ws34 : (Builtin.Str.occurrences (Str.ofString "\n\t\r ") (Str.ofString "\"") 0 (Str.ofString "\n\t\r ").length 1).isEmpty = true := by decide +kernel
theorem ws92 : (Builtin.Str.occurrences (Str.ofString "\n\t\r ") (Str.ofString "\\") 0 (Str.ofString "\n\t\r ").length 1).isEmpty = true := by decide +kernel
theorem tok_eq {x : Str} {n : Nat} (h : x.cps.toList ++ [] = wdL n) : x = wd n := by
  rw [List.append_nil] at h
  refine Str.ext' ?_
  show x.cps = (wdL n).toArray
  rw [← h]
theorem tok_next {x : Str} {n z : Nat} {todo : List Nat} {y : Str} (h : x.cps.toList ++ z :: todo = wdL n) (hy : (⟨#[z]⟩ : Str) = y) : (x ++ y).cps.toList ++ todo = wdL n := by
  subst hy
  rw [← h, Str.cps_append]
  simp
theorem news_p2 {h₀ h : Heap} {L : Addr} {x i a d m : Addr × Obj} {led : List (Addr × Obj)} (N : News h₀ L h (x :: i :: a :: d :: m :: led)) : News h₀ L h (a :: d :: led) := fun q hq => N q (by
  simp only [List.mem_cons] at hq ⊢
  rcases hq with h | h | h <;> simp [h])
theorem esc_len : ∀ l : List Nat, (l.flatMap (fun ch => [92, ch])).length = 2 * l.length
  | [] => rfl
  | a :: l => by
    rw [List.flatMap_cons, List.length_append, esc_len l]
    show 2 + _ = 2 * (l.length + 1)
    omega
theorem news_p3 {h₀ h : Heap} {L : Addr} {x a d m : Addr × Obj} {led : List (Addr × Obj)} (N : News h₀ L h (x :: a :: d :: m :: led)) : News h₀ L h (a :: d :: led) := fun q hq => N q (by
  simp only [List.mem_cons] at hq ⊢
  rcases hq with h | h | h <;> simp [h])
theorem sg34 : (⟨#[34]⟩ : Str) = Str.ofString "\"" := by decide +kernel
theorem sg92 : (⟨#[92]⟩ : Str) = Str.ofString "\\" := by decide +kernel
theorem sg10 : (⟨#[10]⟩ : Str) = Str.ofString "\n" := by decide +kernel
theorem sg32 : (⟨#[32]⟩ : Str) = Str.ofString " " := by decide +kernel
theorem sg9 : (⟨#[9]⟩ : Str) = Str.ofString "\t" := by decide +kernel

local macro_rules | `(tactic| walk_at "exec For Name Name cons nil") => `(tactic| (k_here; (with_unfolding_all refine' wpAny_For ?_); k_whole))
local macro_rules | `(tactic| walk_at "pyIter ref") => `(tactic| ((rename News _ _ _ _ => lN'); refine ci_iter (lN' _ (by k_mem)).1 ?_; refine Stop.mk ?_))

set_option maxHeartbeats 8000000 in
theorem getTok {w : World} {loose : List Str} {mean : ExcName → Option Value} {mg mb : Str → Option Value}
    {dp un : Nat} {gd : Option (List Code)} {cn : Str} {cs : Scope} {a : Addr} {ccd : Value} {cl : List (Str × Addr)} {outer : List Env} {A₀ : Around} {base h₀ : Heap} {L : Addr} {m : Str → Option Value} {s : Shared} {R : Result → Shared → Prop}
    {led sts : List (Addr × Obj)} {x dx pb at' st dst rf : Addr} {e1 e2 e3 e4 kh : Int} {k1 k2 k3 k4 tl tw kt tp : Tok} {fd fr : FuncData} {sl slr : Array (Option Value)} {ln : Nat} {na nn p dl : Nat} {xt v : Str} {rest' : List Nat}
    (B : Below A₀ base outer h₀) (F : Fr h₀ L s.heap m) (X : (Mine.hd.heap_1 w.params).In h₀) (T : Top topProg loose mean mg mb h₀) (hk : cs.kind = .function)
    (hd : dp + 4 < recursionLimit) (hu : un + 40 < cLine) (C : CodeHd base 171 167)
    (N : News h₀ L s.heap ((at', listOf #[.int p tp] na) :: (dx, lexD e1 e2 e3 e4 k1 k2 k3 k4 ln tl st tw pb 4) :: led)) (had : at' ≠ dx) (hl1 : ∀ q ∈ led, q.1 ≠ at') (hl2 : ∀ q ∈ led, q.1 ≠ dx)
    (hx : (x, instObj 95 dx) ∈ led) (hpb : (pb, listOf #[] nn) ∈ led) (hst : (st, (⟨.type "function", some dst, .func fd, sl⟩ : Obj)) ∈ led) (hdst : (dst, dictOf [⟨kh, .str (Str.ofString "read") kt, .ref rf⟩] 1) ∈ led)
    (hrf : (rf, (⟨.type "function", none, .func fr, slr⟩ : Obj)) ∈ led) (hsts : ∀ q ∈ sts, q ∈ led) (hrs : ReadSpec w sts rf at' xt) (hp : p ≤ xt.length) (hln : ln + dl ≤ 1000) (hlen : xt.length ≤ 100)
    (htk : Tk (xt.cps.toList.drop p) v rest' dl)
    (hret : ∀ p' t' t2 tl' na' h' tk', xt.cps.toList.drop p' = rest' → p' ≤ xt.length → Fr h₀ L h' m → News h₀ L h' ((at', listOf #[.int ((p' : Nat) : Int) t'] na') :: (dx, lexD e1 e2 e3 e4 k1 k2 k3 k4 ((ln + dl : Nat) : Int) tl' st tw pb 4) :: led) → R (.ok (.ret (.str v t2))) { s with heap := h', toks := tk' }) :
    codeAny (model Challenge.rw_pe0248_01.row.prog w) (ktrTop dp un gd cn cs L a ccd cl outer) (.call (.ref 85) ⟨[.ref x], []⟩) R s := by
  ((w_on; (have hfill : Challenge.rw_pe0248_01 = Challenge.rw_pe0248_01 ∧ Mine.hd.heap_1 = Mine.hd.heap_1 := by (k_fill; exact ⟨rfl, rfl⟩)); clear hfill))
  replace N := news_dup (news_dup N (.tail _ (.tail _ hpb))) (.tail _ (.tail _ (.tail _ hx)))
  k_dflt (((refine' code_def ?k1 ?k2 ?k3 ?k4 ?k5 ?kA ?kF ?kK ?k6 ?k7 ?k8 ?k9 ?kB ?_ ?c2 ?c3 ?c4 ?c5; (case kA => exact rfl); (case kF => exact rfl); (case kK => first | exact rfl | assumption); (case k1 => k_asm); (case k2 => k_asm); (case k3 => k_asm); (case k4 => k_asm); (case k5 => k_asm); (case k6 => k_is); (case k7 => k_is); (case k8 => ktr_room); (case k9 => first | exact BindsTo.of_eq rfl | exact binds_K (by k_in) rfl (by k_is) rfl rfl rfl | (refine' kp_binds ?kx ?ke; (case kx => k_in); (case ke => exact fun _ => rfl))); (case c5 => decide); (case kB => exact locs rfl); (case c2 => exact rfl); (case c3 => exact rfl); (case c4 => exact rfl); k_whole; intro _ _ _ _ _ _ B' _ _; (try dsimp only); (try k_lift B'); (try k_fold))))
  k_steps
  refine' ci_make ?F ?N ?q ?_
  case F => k_asm
  case N => k_asm
  case q => k_mem
  intro it h5 F5 N5 hit5
  dsimp only
  k_steps
  refine Stop.out ?_
  rename_i g1 L1 hA FG X' T' tA tB hB pm hC l1 hD F' N'
  clear F B X T N
  have hoA : at' ≠ it := Nat.ne_of_lt (hit5 _ (.tail _ (.tail _ (.tail _ (.head _)))))
  have hoD : dx ≠ it := Nat.ne_of_lt (hit5 _ (.tail _ (.tail _ (.tail _ (.tail _ (.head _))))))
  have hoffI : ∀ (o1 o2 : Obj) (q : Addr × Obj), q ∈ (at', o1) :: (dx, o2) :: (pm, methodObj (.ref 78) (.ref x)) :: led → q.1 ≠ it := by
    intro o1 o2 q hq
    simp only [List.mem_cons] at hq
    rcases hq with rfl | rfl | rfl | hq
    · exact hoA
    · exact hoD
    · exact Nat.ne_of_lt (hit5 _ (.head _))
    · exact Nat.ne_of_lt (hit5 _ (.tail _ (.tail _ (.tail _ (.tail _ (.tail _ hq))))))
  have hpm1 : ∀ q ∈ (pm, methodObj (.ref 78) (.ref x)) :: led, q.1 ≠ at' := by
    intro q hq
    rcases List.mem_cons.mp hq with rfl | hq
    · exact Nat.ne_of_gt l1.2.2.1
    · exact hl1 q hq
  have hpm2 : ∀ q ∈ (pm, methodObj (.ref 78) (.ref x)) :: led, q.1 ≠ dx := by
    intro q hq
    rcases List.mem_cons.mp hq with rfl | hq
    · exact Nat.ne_of_gt l1.2.2.2.1
    · exact hl2 q hq
  have hoL : ∀ q ∈ (pm, methodObj (.ref 78) (.ref x)) :: led, q.1 ≠ it := fun q hq => hoffI (instObj 0 0) (instObj 0 0) q (.tail _ (.tail _ hq))
  k_dflt (refine' ci_loop (led := (pm, methodObj (.ref 78) (.ref x)) :: led) (fun c => c.tok = Str.ofString "" ∧ c.p ≤ xt.length ∧ ∃ d, Tk (xt.cps.toList.drop c.p) v rest' d ∧ c.ln + d = ln + dl) (fun c => [(Str.ofString "token", .str c.tok c.tt)]) [] ⟨p, ln, tp, tl, na, Str.ofString "", _⟩ B' F' X' T' ?k1 ?k2 ?k3 C ?k4 had hoA hoD hpm1 hpm2 hoL (.tail _ hx) (.head _) (.tail _ hst) (.tail _ hdst) (.tail _ hrf) (fun q hq => .tail _ (hsts q hq)) hrs hlen ?k10 ?k11 ?k12 ?k13 ?k14 ?k15 ?k16)
  case k1 => exact rfl
  case k2 => ktr_room
  case k3 => ktr_units
  case k4 =>
    exact news_p1 N'
  case k12 => kst_all
  case k10 => rintro c ⟨_, h1, d, _, h2⟩; exact ⟨h1, by omega⟩
  case k11 => exact ⟨rfl, hp, dl, htk, rfl⟩
  case k13 => exact rfl
  case k14 => exact rfl
  case k15 =>
    rintro c ch r t t' tl' na' u h tk hr ⟨htok, hcp, d, hT, hld⟩ F1 N1
    clear F' N' hit5 l1
    obtain ⟨hr1, hr2⟩ := drop_next hr
    replace N1 := news_dup N1 (.tail _ (.tail _ (.tail _ (.tail _ hx))))
    dsimp only [kstB, envOf, List.cons_append, List.nil_append] at F1 N1
    (try k_fold)
    rw [hr] at hT
    rcases hT.inv with ⟨n, rfl, hrr, hv, rfl⟩ | ⟨n, z, todo, rfl, hw, hrr, hv, rfl⟩ | ⟨d', rfl, rfl, hT'⟩
    · rw [sg34] at F1
      rw [if_neg (by decide)] at N1
      k_steps
      all_goals (try (exfalso; exact absurd (ws34.symm.trans ‹(Builtin.Str.occurrences _ (Str.ofString "\"") _ _ _).isEmpty = false›) (by decide)))
      refine ci_iter (N1 _ (.tail _ (.head _))).1 ?_
      k_dflt (refine' ci_loop (led := (pm, methodObj (.ref 78) (.ref x)) :: led) (fun c2 => c2.ln = c.ln ∧ c2.p ≤ xt.length ∧ ∃ todo, c2.tok.cps.toList ++ todo = wdL n ∧ (∀ z ∈ todo, z = 32 ∨ z = 9) ∧ xt.cps.toList.drop c2.p = todo ++ 34 :: rest') (fun c2 => [(Str.ofString "token", .str c2.tok c2.tt)]) [] (CS.mk (c.p + 1) c.ln t' tl' na' c.tok c.tt) B' ?jF X' T' ?jk1 ?jk2 ?jk3 C ?jk4 had hoA hoD hpm1 hpm2 hoL (.tail _ hx) (.head _) (.tail _ hst) (.tail _ hdst) (.tail _ hrf) (fun q hq => .tail _ (hsts q hq)) hrs hlen ?jk10 ?jk11 ?jk12 ?jk13 ?jk14 ?jk15 ?jk16 ?jE)
      case jF => exact F1
      case jE => passes_own
      case jk1 => exact rfl
      case jk4 => exact news_tail N1
      case jk2 => ktr_room
      case jk3 => ktr_units
      case jk12 => kst_all
      case jk10 => rintro c2 ⟨h1, h2, _⟩; exact ⟨h2, by omega⟩
      case jk11 => exact ⟨rfl, hr2, wdL n, by rw [htok]; rfl, fun z hz => wdL_mem hz, by rw [hr1]; exact hrr⟩
      case jk13 => exact rfl
      case jk14 => exact rfl
      case jk15 =>
        rintro c2 ch2 r2 t2 t2' tl2 na2 u2 h2 tk2 hrA ⟨hl2', hcp2, todo, htd, hall, hdr⟩ F2 N2
        obtain ⟨hrA1, hrA2⟩ := drop_next hrA
        replace N2 := news_dup N2 (.tail _ (.tail _ (.tail _ (.tail _ hx))))
        dsimp only [kstB, envOf, List.cons_append, List.nil_append] at F2 N2
        (try k_fold)
        rw [hrA] at hdr
        cases todo with
        | nil =>
          injection hdr with q1 q2
          subst q1
          rw [sg34] at F2
          rw [if_neg (by decide)] at N2
          k_steps
          refine leaveK_ F2 N2 fun kF kN => ?_
          rw [tok_eq htd, ← hv]
          have e : c2.ln = ln + dl := by omega
          rw [e] at kN
          exact hret _ _ _ _ _ _ _ (by rw [hrA1]; exact q2) hrA2 kF (news_p2 kN)
        | cons z todo =>
          injection hdr with q1 q2
          subst q1
          rcases hall _ (.head _) with rfl | rfl
          · rw [sg32] at F2
            rw [if_neg (by decide)] at N2
            k_steps
            refine SB.iadd (fun t9 k9 => ?_) (by rw [sizeLine_eq]; have hz := congrArg List.length htd; have hy := congrArg List.length hrr; rw [List.length_append, List.length_cons, tlen] at hz; have hq : r.length ≤ 100 := (by rw [← hr1, List.length_drop, tlen]; omega); rw [hy, List.length_append] at hq; have he : (Str.ofString " ").length = 1 := (by decide +kernel); omega)
            k_steps
            refine Stop.out ?_
            refine g_end (σ := CS) (CS.mk (c2.p + 1) c2.ln _ _ _ (c2.tok ++ Str.ofString " ") _) (by assumption) (by assumption) (by exact fun q hq => .tail _ hq) (by exact hoffI _ _) (by exact ⟨⟨hl2', hrA2, todo, tok_next htd sg32, fun z hz => hall z (.tail _ hz), by rw [hrA1]; exact q2⟩, by dsimp only; omega⟩) (by dsimp only; kst_all) (by kst_same)
          · rw [sg9] at F2
            rw [if_neg (by decide)] at N2
            k_steps
            refine SB.iadd (fun t9 k9 => ?_) (by rw [sizeLine_eq]; have hz := congrArg List.length htd; have hy := congrArg List.length hrr; rw [List.length_append, List.length_cons, tlen] at hz; have hq : r.length ≤ 100 := (by rw [← hr1, List.length_drop, tlen]; omega); rw [hy, List.length_append] at hq; have he : (Str.ofString "\t").length = 1 := (by decide +kernel); omega)
            k_steps
            refine Stop.out ?_
            refine g_end (σ := CS) (CS.mk (c2.p + 1) c2.ln _ _ _ (c2.tok ++ Str.ofString "\t") _) (by assumption) (by assumption) (by exact fun q hq => .tail _ hq) (by exact hoffI _ _) (by exact ⟨⟨hl2', hrA2, todo, tok_next htd sg9, fun z hz => hall z (.tail _ hz), by rw [hrA1]; exact q2⟩, by dsimp only; omega⟩) (by dsimp only; kst_all) (by kst_same)
      case jk16 =>
        rintro c2 u2 h2 tk2 t2' tl2 na2 hpe ⟨_, _, todo, _, _, hdr⟩ _ _
        rw [hpe, List.drop_eq_nil_of_le (by rw [tlen]; omega)] at hdr
        cases todo <;> cases hdr
    · rw [sg92] at F1
      rw [if_neg (by decide)] at N1
      k_steps
      all_goals (try (exfalso; exact absurd (ws92.symm.trans ‹(Builtin.Str.occurrences _ (Str.ofString "\\") _ _ _).isEmpty = false›) (by decide)))
      have hwb : wdL n ≠ [] := by rw [hw]; exact List.cons_ne_nil _ _
      have hz10 : ∀ z ∈ wdL n, z ≠ 10 := fun z hz => by rcases wdL_mem hz with rfl | rfl <;> decide
      have hz := hz10 z (by rw [hw]; exact .head _)
      rw [← hr1] at hrr
      obtain ⟨hr3, hr4⟩ := drop_next hrr
      have hlw : (wdL n).length ≤ 100 := by
        have hq := congrArg List.length hr3
        rw [List.length_drop, tlen, List.length_append, esc_len] at hq
        rw [hw, List.length_cons]
        omega
      show wpAny _ _ (call (Value.ref 78) [Value.ref x]) _ _ _
      k_dflt (refine' read_step (led := (pm, methodObj (.ref 78) (.ref x)) :: led) B' ?rF X' T' ?r1 ?r2 ?r3 C ?rN had hoA hoD hpm1 hpm2 (.tail _ hx) (.tail _ hst) (.tail _ hdst) (.tail _ hrf) (fun q hq => .tail _ (hsts q hq)) hrs hr2 ?r4 hlen hrr hz ?_)
      case rF => exact F1
      case rN => exact news_tail N1
      case r1 => exact rfl
      case r2 => ktr_room
      case r3 => ktr_units
      case r4 => omega
      intro t3 t4 tl3 na3 h3 tk3 F3 N3
      dsimp only [envOf] at F3 N3
      k_steps
      refine SB.iadd (fun t9 k9 => ?_) (by rw [sizeLine_eq, htok, show (Str.ofString "").length = 0 from by decide +kernel, show (Str.mk #[z]).length = 1 from rfl]; decide)
      dsimp only
      k_steps
      rename_i hE1 hE2 F4 N4
      refine ci_iter (N4 _ (.tail _ (.head _))).1 ?_
      k_dflt (refine' ci_loop (led := (pm, methodObj (.ref 78) (.ref x)) :: led) (fun c2 => c2.ln = c.ln ∧ c2.p ≤ xt.length ∧ ∃ todo, c2.tok.cps.toList ++ todo = wdL n ∧ xt.cps.toList.drop c2.p = todo.flatMap (fun z => [92, z]) ++ 10 :: rest') (fun c2 => [(Str.ofString "token", .str c2.tok c2.tt)]) [] (CS.mk (c.p + 1 + 1) c.ln t3 tl3 na3 (c.tok ++ ⟨#[z]⟩) t9) B' ?mF X' T' ?mk1 ?mk2 ?mk3 C ?mk4 had hoA hoD hpm1 hpm2 hoL (.tail _ hx) (.head _) (.tail _ hst) (.tail _ hdst) (.tail _ hrf) (fun q hq => .tail _ (hsts q hq)) hrs hlen ?mk10 ?mk11 ?mk12 ?mk13 ?mk14 ?mk15 ?mk16 ?mE)
      case mF => exact F4
      case mE => passes_own
      case mk1 => exact rfl
      case mk4 => exact news_tail N4
      case mk2 => ktr_room
      case mk3 => ktr_units
      case mk12 => kst_all
      case mk10 => rintro c2 ⟨h1, h2, _⟩; exact ⟨h2, by omega⟩
      case mk11 => exact ⟨rfl, hr4, todo, tok_next (by rw [htok]; exact hw.symm) rfl, hr3⟩
      case mk13 => exact rfl
      case mk14 => exact rfl
      case mk15 =>
        rintro c2 ch2 r2 t2 t2' tl2 na2 u2 h2 tk2 hrA ⟨hl2', hcp2, todo2, htd, hdr⟩ F2 N2
        obtain ⟨hrA1, hrA2⟩ := drop_next hrA
        replace N2 := news_dup N2 (.tail _ (.tail _ (.tail _ (.tail _ hx))))
        dsimp only [kstB, envOf, List.cons_append, List.nil_append] at F2 N2
        clear F4 N4
        (try k_fold)
        rw [hrA] at hdr
        cases todo2 with
        | nil =>
          injection hdr with q1 q2
          subst q1
          rw [sg10] at F2
          rw [if_pos rfl] at N2
          k_steps
          all_goals (try (exfalso; exact absurd (ws10.symm.trans ‹(Builtin.Str.occurrences _ (Str.ofString "\n") _ _ _).isEmpty = true›) (by decide)))
          refine leaveK_ F2 N2 fun kF kN => ?_
          rw [tok_eq htd, ← hv]
          have e : c2.ln + 1 = ln + dl := by omega
          rw [e] at kN
          exact hret _ _ _ _ _ _ _ (by rw [hrA1]; exact q2) hrA2 kF (news_p2 kN)
        | cons z2 todo2 =>
          have hdr' : ch2 :: r2 = 92 :: z2 :: (todo2.flatMap (fun z => [92, z]) ++ 10 :: rest') := hdr
          injection hdr' with q1 q2
          subst q1
          have hz2 := hz10 z2 (by rw [← htd]; exact List.mem_append.mpr (.inr (.head _)))
          rw [← hrA1] at q2
          obtain ⟨hrB1, hrB2⟩ := drop_next q2
          rw [sg92] at F2
          rw [if_neg (by decide)] at N2
          k_steps
          all_goals (try (exfalso; exact absurd (ws92.symm.trans ‹(Builtin.Str.occurrences _ (Str.ofString "\\") _ _ _).isEmpty = false›) (by decide)))
          show wpAny _ _ (call (Value.ref 78) [Value.ref x]) _ _ _
          k_dflt (refine' read_step (led := (pm, methodObj (.ref 78) (.ref x)) :: led) B' ?nF X' T' ?n1 ?n2 ?n3 C ?nN had hoA hoD hpm1 hpm2 (.tail _ hx) (.tail _ hst) (.tail _ hdst) (.tail _ hrf) (fun q hq => .tail _ (hsts q hq)) hrs hrA2 ?n4 hlen q2 hz2 ?_)
          case nF => exact F2
          case nN => exact news_tail N2
          case n1 => exact rfl
          case n2 => ktr_room
          case n3 => ktr_units
          case n4 => omega
          intro t5 t6 tl5 na5 h5 tk5 F5 N5
          dsimp only [envOf] at F5 N5
          clear F2 N2
          k_steps
          refine SB.iadd (fun t9 k9 => ?_) (by rw [sizeLine_eq, show (Str.mk #[z2]).length = 1 from rfl]; have hz := congrArg List.length htd; rw [List.length_append, List.length_cons, tlen] at hz; omega)
          dsimp only
          k_steps
          refine Stop.out ?_
          refine g_end (σ := CS) (CS.mk (c2.p + 1 + 1) c2.ln _ _ _ (c2.tok ++ ⟨#[z2]⟩) _) (by assumption) (by assumption) (by exact fun q hq => .tail _ hq) (by exact hoffI _ _) (by exact ⟨⟨hl2', hrB2, todo2, tok_next htd rfl, hrB1⟩, by dsimp only; omega⟩) (by dsimp only; kst_all) (by kst_same)
      case mk16 =>
        rintro c2 u2 h2 tk2 t2' tl2 na2 hpe ⟨_, _, todo, _, hdr⟩ _ _
        rw [hpe, List.drop_eq_nil_of_le (by rw [tlen]; omega)] at hdr
        cases todo <;> cases hdr
    · rw [sg10] at F1
      rw [if_pos rfl] at N1
      k_steps
      all_goals (try (exfalso; exact absurd (ws10.symm.trans ‹(Builtin.Str.occurrences _ (Str.ofString "\n") _ _ _).isEmpty = true›) (by decide)))
      refine Stop.out ?_
      refine g_end (σ := CS) (CS.mk (c.p + 1) (c.ln + 1) _ _ _ c.tok c.tt) (by assumption) (by assumption) (by exact fun q hq => .tail _ hq) (by exact hoffI _ _) (by exact ⟨⟨htok, hr2, d', by rw [hr1]; exact hT', by dsimp only; omega⟩, by dsimp only; omega⟩) (by dsimp only; kst_all) (by kst_same)
  case k16 =>
    rintro c u h tk t' tl' na' hpe ⟨htok, hcp, d, hT, hld⟩ F1 N1
    rw [hpe, List.drop_eq_nil_of_le (by rw [tlen]; omega)] at hT
    obtain ⟨hv, hr', hd0⟩ := hT.inv_nil
    clear F' N' hit5 l1
    replace N1 := news_dup N1 (.tail _ (.tail _ (.tail _ hx)))
    dsimp only [kstB, envOf, List.cons_append, List.nil_append] at F1 N1
    dsimp only
    (try k_fold)
    k_steps
    refine leaveK_ F1 N1 fun kF kN => ?_
    rw [htok, ← hv]
    have e : c.ln = ln + dl := by omega
    rw [e] at kN
    exact hret _ _ _ _ _ _ _ (by rw [hpe, hr']; exact List.drop_eq_nil_of_le (by rw [tlen]; omega)) hcp kF (news_p3 kN)

noncomputable def lawFn : List Stmt × Scope := match Challenge.pw_pe0248_01.main.body.getLast? with
  | some (.FunctionDef _ _ b _ _ _ sc _ _ _) => (b, sc)
  | _ => ([], { kind := .function, names := [], isGenerator := false, isCoroutine := false, more := [] })
noncomputable def lawBody : List Stmt := lawFn.1
noncomputable def lawScope : Scope := lawFn.2
noncomputable abbrev lawEnv (L : Nat) (a : Addr) (ccd : Value) : Env := envOfC (Str.ofString "law") lawScope L a ccd
/-- around the law's own statements -/
noncomputable abbrev lawAr (dp un : Nat) (gd : Option (List Code)) (L : Nat) (a : Addr) (ccd : Value) (outer : List Env) : Around := ktrTop dp un gd (Str.ofString "law") lawScope L a ccd (cellsFrom (L + 1) lawScope.names []) outer
/-- what stands around the law -/
structure LawCtx (w : World) (loose : List Str) (mean : ExcName → Option Value) (mg mb : Str → Option Value) (dp un : Nat) (outer : List Env) (A₀ : Around) (base h₀ : Heap) : Prop where
  B : Below A₀ base outer h₀
  X : (Mine.hd.heap_1 w.params).In h₀
  T : Top topProg loose mean mg mb h₀
  hd : dp + 20 < recursionLimit
  hu : un + 200 < cLine
structure LK where
  e1 : Int
  e2 : Int
  e3 : Int
  e4 : Int
  k1 : Tok
  k2 : Tok
  k3 : Tok
  k4 : Tok
  tw : Tok
abbrev lexO (K : LK) (ln : Int) (tl : Tok) (st pb : Addr) : Obj := lexD K.e1 K.e2 K.e3 K.e4 K.k1 K.k2 K.k3 K.k4 ln tl st K.tw pb 4
/-- the lexer's stream: what reading needs of the ledger -/
inductive LexS (w : World) (at' : Addr) (xt : Str) (st : Addr) (led : List (Addr × Obj)) : Prop
  | mk (sts : List (Addr × Obj)) (dst rf : Addr) (kh : Int) (kt : Tok) (fd fr : FuncData) (sl slr : Array (Option Value))
      (h1 : (st, (⟨.type "function", some dst, .func fd, sl⟩ : Obj)) ∈ led) (h2 : (dst, dictOf [⟨kh, .str (Str.ofString "read") kt, .ref rf⟩] 1) ∈ led) (h3 : (rf, (⟨.type "function", none, .func fr, slr⟩ : Obj)) ∈ led)
      (h4 : ∀ q ∈ sts, q ∈ led) (h5 : ReadSpec w sts rf at' xt) (h6 : ∃ ps, ((167 : Addr), tabObj ps) ∈ led)
theorem LexS.more {w : World} {at' : Addr} {xt : Str} {st : Addr} {led led' : List (Addr × Obj)} (x : LexS w at' xt st led) (h : ∀ q ∈ led, q ∈ led') : LexS w at' xt st led' := by
  obtain ⟨sts, dst, rf, kh, kt, fd, fr, sl, slr, h1, h2, h3, h4, h5, h6⟩ := x
  exact ⟨sts, dst, rf, kh, kt, fd, fr, sl, slr, h _ h1, h _ h2, h _ h3, fun q hq => h _ (h4 q hq), h5, h6.imp fun _ q => h _ q⟩
def CellsOk (oB oC oF : Obj) : Prop := ∃ v1 v2 v3, oB.data = .cell v1 ∧ oC.data = .cell v2 ∧ oF.data = .cell v3
/-- behind `lexer = ..` -/
inductive Ph1 (w : World) (h₀ : Heap) (L : Nat) (h : Heap) : Prop
  | mk (m : Str → Option Value) (c : List Nat) (us ws : List Value) (nu nw p : Nat) (wl pl x dx pb at' st : Nat) (K : LK) (tl ta : Tok) (na : Nat) (oB oC oF oL : Obj) (led : List (Addr × Obj))
      (hpos : ∀ n ∈ c, 1 ≤ n) (h7 : 7 ≤ c.sum) (h10 : c.sum ≤ 10) (hu : IntsAre us (c.map fun (n : Nat) => (n : Int))) (hw : StrsAre ws (c.map wd))
      (F : Fr h₀ L h m) (m1 : m (Str.ofString "piles") = some (.ref pl)) (m2 : m (Str.ofString "words") = some (.ref wl))
      (N : News h₀ L h ((pb, listOf #[] 0) :: (at', listOf #[.int p ta] na) :: (dx, lexO K 1 tl st pb) :: (wl, listOf ws.toArray nw) :: (pl, listOf us.toArray nu) :: (L + 1 + 1, oB) :: (L + 1 + 1 + 1, oC) :: (L + 1 + 1 + 1 + 1, oF) :: led))
      (hp : p = 0) (n1 : ∀ q ∈ led, q.1 ≠ pb ∧ q.1 ≠ L + 1 + 1 ∧ q.1 ≠ L + 1 + 1 + 1 ∧ q.1 ≠ L + 1 + 1 + 1 + 1 ∧ q.1 ≠ at' ∧ q.1 ≠ dx) (n2 : at' < dx) (n3 : dx < pb)
      (n4 : wl < dx ∧ pl < dx ∧ L + 1 + 1 + 1 + 1 < dx) (n5 : wl ≠ at' ∧ pl ≠ at' ∧ L + 1 + 1 ≠ at' ∧ L + 1 + 1 + 1 ≠ at' ∧ L + 1 + 1 + 1 + 1 ≠ at')
      (hcd : CellsOk oB oC oF) (hL : (L + 1, oL) ∈ led) (hoL : oL.data = .cell (some (.ref x))) (hx : (x, instObj 95 dx) ∈ led) (S : LexS w at' (textOf c) st led)
theorem news_sub {h₀ h : Heap} {L : Addr} {l l' : List (Addr × Obj)} (N : News h₀ L h l) (h' : ∀ p ∈ l', p ∈ l) : News h₀ L h l' := fun p hp => N p (h' p hp)
noncomputable def lawSt (k : Nat) : Stmt := lawBody.getD k (.Pass ⟨0, 0, 0, 0⟩)
/-- the lexer in the ledger -/
inductive LexIn (led : List (Addr × Obj)) (x pb : Nat) : Prop
  | mk (dx : Addr) (K : LK) (ln : Int) (tl : Tok) (st : Addr) (h1 : (x, instObj 95 dx) ∈ led) (h2 : (dx, lexO K ln tl st pb) ∈ led) (h3 : ∃ ps, ((167 : Addr), tabObj ps) ∈ led)
/-- behind the reading: the lexer's line is c's words from the j-th on told -/
inductive Ph2 (h₀ : Heap) (L : Nat) (c : List Nat) (x pb : Nat) (us ws : List Value) (h : Heap) : Prop
  | mk (m : Str → Option Value) (nu nwd : Nat) (wl pl : Nat) (oB oC oF oL : Obj) (led : List (Addr × Obj))
      (hpos : ∀ n ∈ c, 1 ≤ n) (h7 : 7 ≤ c.sum) (h10 : c.sum ≤ 10) (hu : IntsAre us (c.map fun (n : Nat) => (n : Int))) (hw : StrsAre ws (c.map wd))
      (F : Fr h₀ L h m) (m1 : m (Str.ofString "piles") = some (.ref pl)) (m2 : m (Str.ofString "words") = some (.ref wl))
      (N : News h₀ L h ((pb, listOf #[] 0) :: (wl, listOf ws.toArray nwd) :: (pl, listOf us.toArray nu) :: (L + 1 + 1, oB) :: (L + 1 + 1 + 1, oC) :: (L + 1 + 1 + 1 + 1, oF) :: led))
      (n1 : ∀ q ∈ led, q.1 ≠ pb ∧ q.1 ≠ L + 1 + 1 ∧ q.1 ≠ L + 1 + 1 + 1 ∧ q.1 ≠ L + 1 + 1 + 1 + 1) (n4 : wl < pb ∧ pl < pb ∧ L + 1 + 1 + 1 + 1 < pb)
      (hcd : CellsOk oB oC oF) (hL : (L + 1, oL) ∈ led) (hoL : oL.data = .cell (some (.ref x))) (hx : LexIn led x pb)
noncomputable def turnBody : List Stmt := match lawSt 9 with
  | .For _ _ b _ _ => b
  | _ => []
noncomputable def turnSt (k : Nat) : Stmt := turnBody.getD k (.Pass ⟨0, 0, 0, 0⟩)
theorem off1_mem {D : Addr} : ∀ {l : List (Addr × Obj)}, LCg.Off1 D l → ∀ p ∈ l, p.1 ≠ D
  | [], _, _, h => nomatch h
  | _ :: _, x, p, h => by
    rcases List.mem_cons.mp h with rfl | h
    · exact x.1
    · exact off1_mem x.2 p h
-- EXPORT
local macro_rules | `(tactic| walk_at "eval Name") => `(tactic| (k_here; k_dflt (refine' nameX_L ?F ?v ?_ ?a ?b; (case a => rfl); (case b => rfl); (case F => k_asm); (case v => first | rfl | assumption); k_whole)))

section
variable {w : World} {loose : List Str} {mean : ExcName → Option Value} {mg mb : Str → Option Value} {dp un : Nat} {gd : Option (List Code)} {L : Nat} {a : Addr} {ccd : Value} {outer : List Env} {A₀ : Around} {base h₀ : Heap} {m : Str → Option Value} {s : Shared} {Q : Flow → Shared → Prop} {E : Value → Shared → Prop}

set_option maxHeartbeats 8000000 in
theorem lawA1 {l : Addr} {vs : List Value} {ns : List Int} {oL oB oC oF : Obj}
    (G : LawCtx w loose mean mg mb dp un outer A₀ base h₀) (F : Fr h₀ L s.heap m) (hm : m (Str.ofString "script") = some (.ref l))
    (N : News h₀ L s.heap [(167, tabObj #[]), (L + 1, oL), (L + 1 + 1, oB), (L + 1 + 1 + 1, oC), (L + 1 + 1 + 1 + 1, oF)]) (h167 : (167 : Nat) < L) (C : CodeHd base 171 167) (hoL : oL.data = .cell none) (hcd : CellsOk oB oC oF)
    (hl : base.IsList l vs.toArray) (hi : IntsAre vs ns) (hlen : ns.length ≤ 63)
    (hret : ∀ h' tk', Ph1 w h₀ L h' → wpAny (model Challenge.rw_pe0248_01.row.prog w) (lawAr dp un gd L a ccd outer) (execs (lawBody.drop 3) (lawEnv L a ccd)) Q E { s with heap := h', toks := tk' }) :
    wpAny (model Challenge.rw_pe0248_01.row.prog w) (lawAr dp un gd L a ccd outer) (execs lawBody (lawEnv L a ccd)) Q E s := by
  obtain ⟨B, X, T, hd, hu⟩ := G
  ((w_on; (have hfill : Challenge.rw_pe0248_01 = Challenge.rw_pe0248_01 ∧ Mine.hd.heap_1 = Mine.hd.heap_1 := by (k_fill; exact ⟨rfl, rfl⟩)); clear hfill))
  conv => arg 3; arg 1; whnf
  k_steps
  refine Stop.out ?_
  (k_dflt (refine' wpAny_call (lawPiles ?k1 ?k2 ?k3 ?k4 ?k5 ?k6 ?k7 ?k8 ?k9 ?k10 ?k11 ?_); (case k1 => k_asm); (case k2 => k_asm); (case k3 => k_asm); (case k4 => k_asm); (case k5 => first | exact rfl | assumption); (case k6 => ktr_room); (case k7 => ktr_units); (case k8 => k_asm); (case k9 => k_asm); (case k10 => assumption); (case k11 => assumption)))
  intro pl us nu c h1 tk1 hus hpos hs1 hs2 F1 N1 hpl
  dsimp only
  have hpl2 := hpl
  simp only [List.mem_cons, List.not_mem_nil, or_false, forall_eq_or_imp, forall_eq] at hpl2
  replace hpl2 : @LT.lt Nat _ 167 pl ∧ @LT.lt Nat _ (L + 1 + 1 + 1 + 1) pl := ⟨ltN hpl2.1, ltN hpl2.2.2.2.2⟩
  k_steps
  refine Stop.out ?_
  k_dflt (refine LCg.Assign_ListComp_U (F₀ := by k_asm) (by rfl) (by with_unfolding_all rfl) (by with_unfolding_all rfl) (by decide) (by rfl) (by decide) (by rfl) (by rfl) (by rfl) ?_)
  k_steps
  refine Stop.out ?_
  rename_i h2 F2 N2
  have hul : us.toArray.size = c.length := by rw [List.size_toArray, hus.length, List.length_map]
  have hcl : c.length ≤ 10 := by have := len_le_sum hpos; omega
  refine LCg.CompSrc.ledger rfl F2 N2 (List.Mem.head _) (by rw [sizeLine_eq, hul]; omega) fun g3 => rest_inv (fun i ys nw => nw = [(pl, listOf us.toArray nu), (167, tabObj #[]), (L + 1, oL), (L + 1 + 1, oB), (L + 1 + 1 + 1, oC), (L + 1 + 1 + 1 + 1, oF)] ∧ StrsAre ys ((c.take i).map wd)) ⟨rfl, .nil⟩ ?_ ?_
  · rintro j ys nw v I1 oI1 C1 oC1 D1 m2 h7 tk7 E' hj hv ⟨rfl, hys⟩ hC hx7 F7 N7 off ne
    dsimp only
    rw [hul] at hj
    obtain ⟨n, tn, rfl, hn⟩ : ∃ (n : Nat) (tn : Tok), v = .int (n : Int) tn ∧ c[j]? = some n := by
      obtain ⟨x, tx, rfl, hx⟩ := hus.at j v (by simpa using hv)
      rw [List.getElem?_map] at hx
      cases e : c[j]? with
      | none => rw [e] at hx; cases hx
      | some n => rw [e] at hx; exact ⟨n, tx, by rw [← Option.some.inj hx], rfl⟩
    have hn10 : n ≤ 10 := by have := mem_le_sum (List.mem_of_getElem? hn); omega
    k_steps
    rw [mul_tab]
    refine LCg.CompEnd.intro F7 N7 _ (by exact fun p hp => hp) off (.inr ⟨_, .head _, rfl, _, rfl⟩) (by exact ⟨rfl, by rw [List.take_add_one, hn, List.map_append]; exact hys.append' (.cons _ _ .nil)⟩)
  · rintro ys nw ⟨rfl, hys⟩
    intro wl h8 tk8 F8 N8 off8
    dsimp only
    rw [hul, List.take_length] at hys
    clear N2 F2
    k_steps
    refine Stop.out ?_
    (k_dflt (refine' wpAny_call (lawText ?k1 ?k2 ?k3 ?k4 ?k5 ?k6 ?k7 ?k8 ?k9 ?k10 ?k11 ?k12 ?_); (case k1 => k_asm); (case k2 => k_asm); (case k3 => k_asm); (case k4 => k_asm); (case k5 => first | exact rfl | assumption); (case k6 => ktr_room); (case k7 => ktr_units); (case k8 => k_asm); (case k9 => k_mem); (case k10 => assumption); (case k11 => assumption); (case k12 => assumption)))
    intro t9 h9 tk9 F9 N9
    dsimp only
    k_steps
    refine Stop.out ?_
    have hN : ∀ q ∈ [(wl, LCg.lst ys), (pl, listOf us.toArray nu), (L + 1, oL), (L + 1 + 1, oB), (L + 1 + 1 + 1, oC), (L + 1 + 1 + 1 + 1, oF)], q.1 ≠ 167 := by
      simp only [LCg.Off1] at off8
      simp only [List.mem_cons, List.not_mem_nil, or_false, forall_eq_or_imp, forall_eq]
      refine ⟨fun q => off8.2.1 q.symm, ?_, ?_, ?_, ?_, ?_⟩ <;> (refine neN ?_; omega)
    (k_dflt (refine' wpAny_call (lawLexer (led := [(wl, LCg.lst ys), (pl, listOf us.toArray nu), (L + 1, oL), (L + 1 + 1, oB), (L + 1 + 1 + 1, oC), (L + 1 + 1 + 1 + 1, oF)]) ?k1 ?k2 ?k3 ?k4 rfl ?k6 ?k7 C ?k8 hN ?k9 ?_); (case k1 => k_asm); (case k2 => k_asm); (case k3 => k_asm); (case k4 => k_asm); (case k6 => ktr_room); (case k7 => ktr_units); (case k8 => exact news_sub N9 (by kst_in)); (case k9 => have := textUp_length hs2 hcl c.length; unfold textUp at this; rw [List.take_length] at this; omega)))
    intro h' tk' x dx pb at' st dst rf e1 e2 e3 e4 k1 k2 k3 k4 tl tw ta kh kt fd sl fr slr sts Fa Na hsd htab hst hdst hrf hrs l1 l2 l3 l4
    dsimp only
    clear F9 N9 F8 N8
    replace l1 := ltN l1
    replace l2 := ltN l2
    replace l3 := ltN l3
    have l5 : ∀ q ∈ [(wl, LCg.lst ys), (pl, listOf us.toArray nu), (L + 1, oL), (L + 1 + 1, oB), (L + 1 + 1 + 1, oC), (L + 1 + 1 + 1 + 1, oF)], q.1 ≠ at' ∧ q.1 < dx := fun q hq => l4 q (List.mem_append_right _ hq)
    simp only [List.mem_cons, List.not_mem_nil, or_false, forall_eq_or_imp, forall_eq] at l5
    obtain ⟨⟨p1, q1⟩, ⟨p2, q2⟩, ⟨p3, q3⟩, ⟨p4, q4⟩, ⟨p5, q5⟩, ⟨p6, q6⟩⟩ := l5
    replace q1 := ltN q1
    replace q2 := ltN q2
    replace q6 := ltN q6
    replace Na := news_sub (l' := (L + 1, oL) :: (pb, listOf #[] 0) :: (at', listOf #[.int (0 : Nat) ta] 0) :: (dx, lexO ⟨e1, e2, e3, e4, k1, k2, k3, k4, tw⟩ 1 tl st pb) :: (wl, listOf ys.toArray ys.length) :: (pl, listOf us.toArray nu) :: (L + 1 + 1, oB) :: (L + 1 + 1 + 1, oC) :: (L + 1 + 1 + 1 + 1, oF) :: (x, instObj 95 dx) :: sts) Na (fun q hq => by
      simp only [List.mem_cons, List.mem_append] at hq ⊢
      rcases hq with h | h | h | h | h | h | h | h | h | h | h <;> simp [h])
    have hnl : ∀ q ∈ sts, q.1 ≠ L + 1 := fun q hq e => hsd q hq (L + 1, oL) (.tail _ (.tail _ (.head _))) e.symm
    k_steps
    have hU : ∀ q ∈ (pb, listOf #[] 0) :: (at', listOf #[.int (0 : Nat) ta] 0) :: (dx, lexO ⟨e1, e2, e3, e4, k1, k2, k3, k4, tw⟩ 1 tl st pb) :: (wl, listOf ys.toArray ys.length) :: (pl, listOf us.toArray nu) :: (L + 1 + 1, oB) :: (L + 1 + 1 + 1, oC) :: (L + 1 + 1 + 1 + 1, oF) :: (x, instObj 95 dx) :: sts, q.1 ≠ L + 1 := by
      simp only [LCg.Off1] at off8
      simp only [List.forall_mem_cons]
      refine ⟨?_, fun e => p3 e.symm, ?_, fun e => off8.2.2.1 e.symm, ?_, ?_, ?_, ?_, ?_, hnl⟩ <;> (refine neN ?_; omega)
    k_dflt (refine storeX_C Fa Na rfl (.head hU) hoL ?_ rfl rfl)
    intro h5 oL' F5 N5 hoL'
    dsimp only
    refine hret _ _ (Ph1.mk _ c us ys nu ys.length 0 wl pl x dx pb at' st ⟨e1, e2, e3, e4, k1, k2, k3, k4, tw⟩ tl ta 0 oB oC oF oL' ((L + 1, oL') :: (x, instObj 95 dx) :: sts) hpos hs1 hs2 hus hys F5 rfl rfl (news_sub N5 (by kst_in)) rfl ?_ l1 (by omega) ⟨q1, q2, q6⟩ ⟨p1, p2, p4, p5, p6⟩ hcd (.head _) hoL' (.tail _ (.head _)) ⟨sts, dst, rf, kh, kt, fd, fr, sl, slr, .tail _ (.tail _ hst), .tail _ (.tail _ hdst), .tail _ (.tail _ hrf), fun q hq => .tail _ (.tail _ hq), hrs, htab.imp fun _ q => .tail _ (.tail _ q)⟩)
    simp only [List.forall_mem_cons]
    refine ⟨⟨?_, ?_, ?_, ?_, p3, ?_⟩, ⟨?_, ?_, ?_, ?_, ?_, ?_⟩, fun q hq => ?_⟩
    rotate_right
    · have hq' := l4 q (List.mem_append_left _ hq)
      have := ltN hq'.2
      exact ⟨by refine neN ?_; omega, fun e => hsd q hq (L + 1 + 1, oB) (.tail _ (.tail _ (.tail _ (.head _)))) e.symm, fun e => hsd q hq (L + 1 + 1 + 1, oC) (.tail _ (.tail _ (.tail _ (.tail _ (.head _))))) e.symm, fun e => hsd q hq (L + 1 + 1 + 1 + 1, oF) (.tail _ (.tail _ (.tail _ (.tail _ (.tail _ (.head _)))))) e.symm, hq'.1, by refine neN ?_; omega⟩
    all_goals (refine neN ?_; omega)
end

def remL (k : Nat) (r : List Nat) : List Nat := (if k % 2 = 1 then [10] else []) ++ textL k r
theorem tk_word (k n : Nat) (r : List Nat) : Tk (remL k (n :: r)) (wd n) (remL (k + 1) r) (if k % 2 = 1 then 2 else 0) := by
  unfold remL
  by_cases h : k % 2 = 1
  · have h1 : ¬ (k + 1) % 2 = 1 := by omega
    have h2 : ¬ k % 2 = 0 := by omega
    rw [if_pos h, if_neg h1, if_pos h]
    have e : textL k (n :: r) = (wdL n).flatMap (fun z => [92, z]) ++ 10 :: textL (k + 1) r := by simp [textL, piece, h2, esc]
    rw [e]
    exact .nl (.e n _)
  · have h1 : (k + 1) % 2 = 1 := by omega
    have h2 : k % 2 = 0 := by omega
    rw [if_neg h, if_pos h1, if_neg h]
    have e : textL k (n :: r) = 34 :: (wdL n ++ 34 :: (10 :: textL (k + 1) r)) := by simp [textL, piece, h2, quo]
    rw [e]
    exact .q n _
def remAt (c : List Nat) (j : Nat) : List Nat := if j ≤ c.length then remL j (c.drop j) else []
def lnAt (c : List Nat) (j : Nat) : Nat := if j ≤ c.length then 1 + j - j % 2 else c.length + 1
def tokAt (c : List Nat) : List Str := c.map wd ++ [Str.ofString ""]
theorem tk_at (c : List Nat) (j : Nat) (h : j < c.length + 1) : ∃ v dl, (tokAt c)[j]? = some v ∧ Tk (remAt c j) v (remAt c (j + 1)) dl ∧ lnAt c j + dl = lnAt c (j + 1) := by
  by_cases hj : j < c.length
  · refine ⟨wd c[j], if j % 2 = 1 then 2 else 0, ?_, ?_, ?_⟩
    · unfold tokAt; rw [List.getElem?_append_left (by simpa using hj)]; simp [hj]
    · unfold remAt
      rw [if_pos (by omega), if_pos (by omega), List.drop_eq_getElem_cons hj]
      exact tk_word j _ _
    · unfold lnAt
      rw [if_pos (show j ≤ c.length by omega), if_pos (show j + 1 ≤ c.length by omega)]
      split <;> omega
  · have e : j = c.length := by omega
    subst e
    refine ⟨Str.ofString "", c.length % 2, ?_, ?_, ?_⟩
    · unfold tokAt; simp
    · unfold remAt
      rw [if_pos (Nat.le_refl _), if_neg (by omega), List.drop_length]
      unfold remL textL
      by_cases h : c.length % 2 = 1
      · rw [if_pos h, h]; exact .nl .nil
      · rw [if_neg h, show c.length % 2 = 0 from by omega]; exact .nil
    · unfold lnAt
      rw [if_pos (Nat.le_refl _), if_neg (by omega)]
      omega
theorem mem11 {a b c d e f g i j k l p : Addr × Obj} {led : List (Addr × Obj)} (h : p ∈ led) : p ∈ a :: b :: c :: d :: e :: f :: g :: i :: j :: k :: l :: led := by simp [h]
theorem sub71 {p q1 q2 q3 q4 q5 q6 q7 q8 : Addr × Obj} {led : List (Addr × Obj)} (h : p ∈ q1 :: q4 :: q5 :: q6 :: q7 :: q8 :: q2 :: q3 :: led) : p ∈ q1 :: q2 :: q3 :: q4 :: q5 :: q6 :: q7 :: q8 :: led := by
  simp only [List.mem_cons] at h ⊢
  rcases h with h | h | h | h | h | h | h | h | h <;> simp [h]
theorem shaped_strs {ss : List Str} (h : ∀ x ∈ ss, PyData.strOk x = true) : SeqAt.shaped (.list (ss.map PyData.str)) = true := by
  have h1 : ∀ ss : List Str, (∀ x ∈ ss, PyData.strOk x = true) → PyData.canLayAll0 (ss.map PyData.str) = true ∧ PyData.depthAll (ss.map PyData.str) ≤ 1 := by
    intro ss
    induction ss with
    | nil => intro _; simp [PyData.canLayAll0, PyData.depthAll]
    | cons x r ih =>
      intro h
      obtain ⟨q1, q2⟩ := ih fun y hy => h y (.tail _ hy)
      refine ⟨by simp [PyData.canLayAll0, PyData.canLay0, h x (.head _), q1], ?_⟩
      simp only [List.map_cons, PyData.depthAll, PyData.depth]
      omega
  obtain ⟨q1, q2⟩ := h1 ss h
  have h2 : PyData.depth (.list (ss.map PyData.str)) ≤ 64 := by simp only [PyData.depth]; omega
  show (PyData.canLay0 (.list (ss.map PyData.str)) && decide (PyData.depth (.list (ss.map PyData.str)) ≤ 64)) = true
  rw [Bool.and_eq_true]
  exact ⟨by simp only [PyData.canLay0]; exact q1, decide_eq_true h2⟩
theorem tokAt_ok {c : List Nat} : ∀ x ∈ tokAt c, PyData.strOk x = true := by
  intro x hx
  unfold tokAt at hx
  rcases List.mem_append.mp hx with h | h
  · obtain ⟨n, _, rfl⟩ := List.mem_map.mp h
    show (wdL n).toArray.all _ = true
    rw [List.all_toArray, List.all_eq_true]
    intro z hz
    rcases wdL_mem hz with rfl | rfl <;> rfl
  · rw [List.mem_singleton.mp h]; decide +kernel
theorem ne_strs {prog : Program} {w : World} {A : Around} {E : Value → Shared → Prop} {s : Shared} {a b : Addr} {vs us : List Value} {ss : List Str} {Q : Value → Shared → Prop} (hl : s.heap.IsList a vs.toArray) (hi : StrsAre vs ss) (hl' : s.heap.IsList b us.toArray) (hi' : StrsAre us ss)
    (ho : ∀ x ∈ ss, PyData.strOk x = true) (hu : A.units + 64 < cLine) (h : Q (.bool false) s) : wpAny (model prog w) A (compareOp .NotEq (.ref a) (.ref b)) Q E s := by
  have rd : ∀ {a : Addr} {vs : List Value}, s.heap.IsList a vs.toArray → StrsAre vs ss → Reads s.heap (.ref a) (.list (ss.map PyData.str)) [a] := fun hl hi => by
    obtain ⟨o, ho, hc, n, hd⟩ := hl
    exact Reads.list ho hc hd (by simpa using hi.reads _)
  have hs := shaped_strs ho
  refine ne_dataH (rd hl hi) (rd hl' hi') hs hs hu ?_
  rw [SeqAt.eqv_refl _ (SeqAt.canLay_of_shaped hs)]
  exact h
section
variable {w : World} {loose : List Str} {mean : ExcName → Option Value} {mg mb : Str → Option Value} {dp un : Nat} {gd : Option (List Code)} {L : Nat} {a : Addr} {ccd : Value} {outer : List Env} {A₀ : Around} {base h₀ : Heap} {s : Shared} {Q : Flow → Shared → Prop} {E : Value → Shared → Prop}

set_option maxHeartbeats 8000000 in
theorem lawA2 (G : LawCtx w loose mean mg mb dp un outer A₀ base h₀) (C : CodeHd base 171 167) (P : Ph1 w h₀ L s.heap)
    (hret : ∀ c x pb us ws h' tk', Ph2 h₀ L c x pb us ws h' → Q .next { s with heap := h', toks := tk' }) :
    wpAny (model Challenge.rw_pe0248_01.row.prog w) (lawAr dp un gd L a ccd outer) (exec (lawSt 3) (lawEnv L a ccd)) Q E s := by
  obtain ⟨B, X, T, hd, hu⟩ := G
  obtain ⟨m, c, us, ws, nu, nwd, p, wl, pl, x, dx, pb, at', st, K, tl, ta, na, oB, oC, oF, oL, led, hpos, h7, h10, hus, hws, F, m1, m2, N, hp, n1, n2, n3, n4, n5, hcd, hL, hoL, hx, S⟩ := P
  ((w_on; (have hfill : Challenge.rw_pe0248_01 = Challenge.rw_pe0248_01 ∧ Mine.hd.heap_1 = Mine.hd.heap_1 := by (k_fill; exact ⟨rfl, rfl⟩)); clear hfill))
  conv => arg 3; arg 1; whnf
  obtain ⟨sts, dst, rf, kh, kt, fd, fr, sl, slr, s1, s2, s3, s4, s5, s6⟩ := S
  have hcl : c.length ≤ 10 := by have := len_le_sum hpos; omega
  have hus' : True → IntsAre us (c.map fun (n : Nat) => (n : Int)) := fun _ => hus
  replace N := news_dup N (.tail _ (.tail _ (.tail _ (.tail _ (.tail _ (.tail _ (.tail _ (.tail _ hL))))))))
  k_steps
  refine Stop.out ?_
  k_dflt (refine LCg.ListComp_U (F₀ := by k_asm) (by with_unfolding_all rfl) (by decide) (by rfl) (by decide) (by rfl) ?_)
  k_steps
  refine Stop.out ?_
  rename_i h2 t1 u1 v1 hR F2 N2 k2
  obtain ⟨R0, hR0⟩ : ∃ r : Addr, r = s.heap.objs.size := ⟨_, rfl⟩
  clear k2
  have hlw : (c.map wd).length = c.length := List.length_map _
  rw [hlw] at hR
  refine LCg.CompSrc.range (n := c.length + 1) rfl F2 N2 hR (small_one (by omega) (by omega) (by omega) (by omega)) (by rw [← Int.natCast_succ]; exact rangeSize_nat _ _) (by rw [sizeLine_eq]; omega) fun g3 => rest_inv (fun j ys nw => ∃ p ta na tl, nw = (L + 1, oL) :: (pb, listOf #[] 0) :: (at', listOf #[.int ((p : Nat) : Int) ta] na) :: (dx, lexO K (lnAt c j : Nat) tl st pb) :: (wl, listOf ws.toArray nwd) :: (pl, listOf us.toArray nu) :: (L + 1 + 1, oB) :: (L + 1 + 1 + 1, oC) :: (L + 1 + 1 + 1 + 1, oF) :: led ∧ StrsAre ys ((tokAt c).take j) ∧ p ≤ (textOf c).length ∧ (textOf c).cps.toList.drop p = remAt c j) ?_ ?_ ?_
  · exact ⟨p, ta, na, tl, rfl, .nil, by omega, by rw [hp]; rfl⟩
  · rintro j ys nw v I1 oI1 C1 oC1 D1 m2 h7 tk7 E' hj hv ⟨p, ta, na, tl, rfl, hys, hp, hdr⟩ hC hx7 F7 N7 off ne
    dsimp only
    have N8 := news_dup N7 (.tail _ (.tail _ (.tail _ (.tail _ (.tail _ (.tail _ (.tail _ (.tail _ (.tail _ (.tail _ (.tail _ (.tail _ hx))))))))))))
    clear N7
    k_steps
    refine Stop.out ?_
    show wpAny _ _ (call (Value.ref 85) [Value.ref x]) _ _ _
    have offm := LCg.Off3.mem off
    simp only [List.forall_mem_cons] at offm
    obtain ⟨o1, o2, o3, o4, o5, o6, o7, o8, o9, o10⟩ := offm
    obtain ⟨v', dl, hv', htk, hln⟩ := tk_at c j hj
    have hlb : lnAt c (j + 1) ≤ 12 := by unfold lnAt; split <;> omega
    have hq : ∀ (y : Addr), (y = at' ∨ y = dx) → ∀ q ∈ (I1, oI1) :: (C1, oC1) :: (D1, LCg.lst ys) :: (L + 1, oL) :: (x, instObj 95 dx) :: (pb, listOf #[] 0) :: (wl, listOf ws.toArray nwd) :: (pl, listOf us.toArray nu) :: (L + 1 + 1, oB) :: (L + 1 + 1 + 1, oC) :: (L + 1 + 1 + 1 + 1, oF) :: led, q.1 ≠ y := by
      intro y hy
      have hLa := (n1 _ hL).2.2.2.2
      have hxa := (n1 _ hx).2.2.2.2
      dsimp only at hLa hxa
      simp only [List.forall_mem_cons]
      rcases hy with rfl | rfl
      · exact ⟨fun e => o3.1 e.symm, fun e => o3.2.1 e.symm, fun e => o3.2.2 e.symm, hLa.1, hxa.1, by refine neN ?_; omega, n5.1, n5.2.1, n5.2.2.1, n5.2.2.2.1, n5.2.2.2.2, fun q hq => (n1 q hq).2.2.2.2.1⟩
      · exact ⟨fun e => o4.1 e.symm, fun e => o4.2.1 e.symm, fun e => o4.2.2 e.symm, hLa.2, hxa.2, by refine neN ?_; omega, by refine neN ?_; omega, by refine neN ?_; omega, by refine neN ?_; omega, by refine neN ?_; omega, by refine neN ?_; omega, fun q hq => (n1 q hq).2.2.2.2.2⟩
    have N9 := news_sub (l' := (at', listOf #[.int ((p : Nat) : Int) ta] na) :: (dx, lexO K (lnAt c j : Nat) tl st pb) :: (I1, oI1) :: (C1, oC1) :: (D1, LCg.lst ys) :: (L + 1, oL) :: (x, instObj 95 dx) :: (pb, listOf #[] 0) :: (wl, listOf ws.toArray nwd) :: (pl, listOf us.toArray nu) :: (L + 1 + 1, oB) :: (L + 1 + 1 + 1, oC) :: (L + 1 + 1 + 1 + 1, oF) :: led) N8 (by kst_in)
    k_dflt (refine' wpAny_call (getTok (led := (I1, oI1) :: (C1, oC1) :: (D1, LCg.lst ys) :: (L + 1, oL) :: (x, instObj 95 dx) :: (pb, listOf #[] 0) :: (wl, listOf ws.toArray nwd) :: (pl, listOf us.toArray nu) :: (L + 1 + 1, oB) :: (L + 1 + 1 + 1, oC) :: (L + 1 + 1 + 1 + 1, oF) :: led) (sts := sts) (rest' := remAt c (j + 1)) (v := v') (dl := dl) (ln := lnAt c j) (nn := 0) B F7 X T rfl ?k6 ?k7 C N9 ?k9 (hq _ (.inl rfl)) (hq _ (.inr rfl)) ?k10 ?k11 (mem11 s1) (mem11 s2) (mem11 s3) (fun q hq => mem11 (s4 q hq)) s5 hp ?k16 ?k17 ?k18 ?_))
    case k6 => ktr_room
    case k7 => ktr_units
    case k9 => refine neN ?_; omega
    case k10 => repeat (first | exact List.Mem.head _ | refine List.Mem.tail _ ?_)
    case k11 => repeat (first | exact List.Mem.head _ | refine List.Mem.tail _ ?_)
    case k16 => omega
    case k17 => have := textUp_length h10 hcl c.length; unfold textUp at this; rw [List.take_length] at this; omega
    case k18 => rw [hdr]; exact htk
    intro p' t' t2 tl' na' h' tk' hdr' hp' F' N'
    dsimp only
    refine LCg.CompEnd.intro F' N' ((L + 1, oL) :: (pb, listOf #[] 0) :: (at', listOf #[.int ((p' : Nat) : Int) t'] na') :: (dx, lexO K (lnAt c (j + 1) : Nat) tl' st pb) :: (wl, listOf ws.toArray nwd) :: (pl, listOf us.toArray nu) :: (L + 1 + 1, oB) :: (L + 1 + 1 + 1, oC) :: (L + 1 + 1 + 1 + 1, oF) :: led) ?_ ?_ trivial ⟨p', t', na', tl', rfl, by rw [List.take_add_one, hv']; exact hys.append' (.cons _ _ .nil), hp', hdr'⟩
    · rw [← hln]; kst_in
    · exact off
  · rintro ys nw ⟨p, ta, na, tl, rfl, hys, hp, hdr⟩
    intro D h8 tk8 F8 N8 off8
    dsimp only
    have hln : ((lnAt c (c.length + 1) : Nat) : Int) = (c.length : Int) + 1 := by unfold lnAt; rw [if_neg (by omega)]; rfl
    rw [hln] at N8
    k_steps
    rename_i wx h9 F9 N9 l9
    refine kmk_add_lit F9 N9 ⟨_, (N9 (wl, listOf ws.toArray nwd) (by repeat (first | exact List.Mem.head _ | refine List.Mem.tail _ ?_))).1, rfl, _, rfl⟩ ⟨_, (N9 _ (.head _)).1, rfl, _, rfl⟩ rfl ?_ (by have := hws.length; simp at this ⊢; rw [sizeLine_eq]; omega)
    intro wz g10 F10 N10 l10
    refine ne_strs ⟨_, (N10 _ (.tail _ (.tail _ (.head _)))).1, rfl, _, rfl⟩ hys ⟨_, (N10 _ (.head _)).1, rfl, _, rfl⟩ ?_ ?_ (by ktr_units) ?_
    · rw [List.take_of_length_le (by unfold tokAt; simp)]
      unfold tokAt
      exact hws.append' (.cons _ _ .nil)
    · rw [List.take_of_length_le (by unfold tokAt; simp)]
      exact tokAt_ok
    dsimp only
    replace N10 := news_dup N10 (List.mem_append_right [_, _, _, _, _, _, _, _, _, _, _, _] hx)
    k_steps
    · exfalso
      rename_i hne
      exact hne (by rw [hlw])
    · have hLa := n1 _ hL
      dsimp only at hLa
      refine hret c x pb us ws _ _ (Ph2.mk m nu nwd wl pl oB oC oF oL ((at', listOf #[.int ((p : Nat) : Int) ta] na) :: (dx, lexO K ((c.length : Int) + 1) tl st pb) :: led) hpos h7 h10 (hus' trivial) hws F10 m1 m2 (news_sub N10 (fun q hq => .tail _ (.tail _ (.tail _ (.tail _ (.tail _ (sub71 hq))))))) ?_ ⟨by omega, by omega, by omega⟩ hcd (.tail _ (.tail _ hL)) hoL ⟨dx, K, _, tl, st, .tail _ (.tail _ hx), .tail _ (.head _), s6.imp fun _ q => .tail _ (.tail _ q)⟩)
      simp only [List.forall_mem_cons]
      refine ⟨⟨?_, fun e => n5.2.2.1 e.symm, fun e => n5.2.2.2.1 e.symm, fun e => n5.2.2.2.2 e.symm⟩, ⟨?_, ?_, ?_, ?_⟩, fun q hq => ⟨(n1 q hq).1, (n1 q hq).2.1, (n1 q hq).2.2.1, (n1 q hq).2.2.2.1⟩⟩
      all_goals (refine neN ?_; omega)
end

theorem strs_at : ∀ {vs : List Value} {ss : List Str}, StrsAre vs ss → ∀ (i : Nat) (v : Value), vs[i]? = some v → ∃ x t, v = .str x t ∧ ss[i]? = some x
  | _, _, .nil, _, _, h => by simp at h
  | _, _, .cons x t r, 0, v, h => ⟨x, t, by simpa using h.symm, rfl⟩
  | _, _, .cons x t r, i + 1, v, h => by
    obtain ⟨y, u, h1, h2⟩ := strs_at r i v (by simpa using h)
    exact ⟨y, u, h1, by simpa using h2⟩
section
variable {w : World} {loose : List Str} {mean : ExcName → Option Value} {mg mb : Str → Option Value} {dp un : Nat} {gd : Option (List Code)} {L : Nat} {a : Addr} {ccd : Value} {outer : List Env} {A₀ : Around} {base h₀ : Heap} {s : Shared} {Q : Flow → Shared → Prop} {E : Value → Shared → Prop}

/-- behind the pushing: all of it but the words -/
inductive Ph3 (h₀ : Heap) (L : Nat) (c : List Nat) (x pb : Nat) (us : List Value) (h : Heap) : Prop
  | mk (m : Str → Option Value) (vs : List Value) (nn nu pl : Nat) (oB oC oF oL : Obj) (led : List (Addr × Obj))
      (hpos : ∀ n ∈ c, 1 ≤ n) (h7 : 7 ≤ c.sum) (h10 : c.sum ≤ 10) (hu : IntsAre us (c.map fun (n : Nat) => (n : Int))) (hv : StrsAre vs (c.map wd ++ [dot]))
      (F : Fr h₀ L h m) (m1 : m (Str.ofString "piles") = some (.ref pl))
      (N : News h₀ L h ((pb, listOf vs.toArray nn) :: (pl, listOf us.toArray nu) :: (L + 1 + 1, oB) :: (L + 1 + 1 + 1, oC) :: (L + 1 + 1 + 1 + 1, oF) :: led))
      (n1 : ∀ q ∈ led, q.1 ≠ pb ∧ q.1 ≠ L + 1 + 1 ∧ q.1 ≠ L + 1 + 1 + 1 ∧ q.1 ≠ L + 1 + 1 + 1 + 1) (n4 : pl < pb ∧ L + 1 + 1 + 1 + 1 < pb)
      (hcd : CellsOk oB oC oF) (hL : (L + 1, oL) ∈ led) (hoL : oL.data = .cell (some (.ref x))) (hx : LexIn led x pb)

set_option maxHeartbeats 8000000 in
theorem lawA3 {c : List Nat} {x pb : Nat} {us ws : List Value} (G : LawCtx w loose mean mg mb dp un outer A₀ base h₀) (hE : PassesOwn (model Challenge.rw_pe0248_01.row.prog w) (lawAr dp un gd L a ccd outer) (lawEnv L a ccd) E) (P : Ph2 h₀ L c x pb us ws s.heap)
    (hret : ∀ h' tk', Ph3 h₀ L c x pb us h' → Q .next { s with heap := h', toks := tk' }) :
    wpAny (model Challenge.rw_pe0248_01.row.prog w) (lawAr dp un gd L a ccd outer) (exec (lawSt 4) (lawEnv L a ccd)) Q E s := by
  obtain ⟨B, X, T, hd, hu⟩ := G
  obtain ⟨m, nu, nwd, wl, pl, oB, oC, oF, oL, led, hpos, h7, h10, hus, hws, F, m1, m2, N, n1, n4, hcd, hL, hoL, hx⟩ := P
  obtain ⟨dx, K, ln, tl, st, x1, x2, x3⟩ := hx
  ((w_on; (have hfill : Challenge.rw_pe0248_01 = Challenge.rw_pe0248_01 ∧ Mine.hd.heap_1 = Mine.hd.heap_1 := by (k_fill; exact ⟨rfl, rfl⟩)); clear hfill))
  conv => arg 3; arg 1; whnf
  have hcl : c.length ≤ 10 := by have := len_le_sum hpos; omega
  have hus' : True → IntsAre us (c.map fun (n : Nat) => (n : Int)) := fun _ => hus
  clear hus
  refine For_invVF (hE := hE) F rfl rfl ?_
  k_steps
  rename_i wx h9 F9 N9 l9
  refine kmk_add_lit F9 N9 ⟨_, (N9 (wl, listOf ws.toArray nwd) (.tail _ (.tail _ (.head _)))).1, rfl, _, rfl⟩ ⟨_, (N9 _ (.head _)).1, rfl, _, rfl⟩ rfl ?_ (by have := hws.length; simp at this ⊢; rw [sizeLine_eq]; omega)
  intro zl g1 F1 N1 l1
  dsimp only
  k_steps
  refine Stop.out ?_
  obtain ⟨led2, hled2⟩ : ∃ l, l = (pl, listOf us.toArray nu) :: (L + 1 + 1, oB) :: (L + 1 + 1 + 1, oC) :: (L + 1 + 1 + 1 + 1, oF) :: led := ⟨_, rfl⟩
  have hup : ∀ q ∈ led, q ∈ led2 := fun q hq => by rw [hled2]; exact .tail _ (.tail _ (.tail _ (.tail _ hq)))
  have hpb : ∀ q ∈ led2, q.1 ≠ pb := by
    rw [hled2]
    simp only [List.forall_mem_cons]
    refine ⟨?_, ?_, ?_, ?_, fun q hq => (n1 q hq).1⟩ <;> (refine neN ?_; omega)
  have hL' := hup _ hL
  have y1 := x1
  have y2 := x2
  replace x1 := hup _ x1
  replace x2 := hup _ x2
  have hzl := ltN (l1 (pb, listOf #[] 0) (.tail _ (.head _)))
  have hw2 : StrsAre (ws.toArray.toList ++ #[Value.str (Str.ofString ".") s.toks].toList) (c.map wd ++ [dot]) := hws.append' (.cons _ _ .nil)
  generalize ws.toArray.toList ++ #[Value.str (Str.ofString ".") s.toks].toList = zs at N1 hw2
  replace N1 := news_sub (l' := (zl, listOf zs.toArray 0) :: (pb, listOf ([] : List Value).toArray 0) :: led2) N1 (fun q hq => by
    rw [hled2] at hq
    simp only [List.mem_cons] at hq ⊢
    rcases hq with h | h | h | h | h | h | h <;> simp [h])
  clear F9 N9 l9 l1
  refine for_list (σ := List Value × Nat) (fun c => (zl, listOf zs.toArray 0) :: (pb, listOf c.1.toArray c.2) :: led2) (fun _ => []) (fun i v => StrsAre v.1 ((c.map wd ++ [dot]).take i)) [] ([], 0) rfl (fun c => .head _) F1 N1 .nil (by intro p hp; cases hp) ?_ ?_
  · rintro ⟨vs, nn⟩ i v u h tk I oI hi hv hf hoff F2 N2
    dsimp only [kstB, lawEnv, envOfC] at hf hoff F2 N2
    clear F1 N1
    obtain ⟨sv, tv, rfl, hsv⟩ := strs_at hw2 i v hv
    have hlz : zs.length ≤ 11 := by rw [hw2.length]; simp; omega
    have hlf : ((c.map wd ++ [dot]).take i).length < 100 := by rw [List.length_take]; simp; omega
    have N3 := news_dup (news_dup (news_dup N2 (.tail _ (.tail _ (.tail _ x2)))) (.tail _ (.tail _ (.tail _ (.tail _ x1))))) (.tail _ (.tail _ (.tail _ (.tail _ (.tail _ hL')))))
    clear N2
    have hI := hoff _ (.tail _ (.head _))
    have hne2 : ∀ q ∈ (I, oI) :: (zl, listOf zs.toArray 0) :: led2, q.1 ≠ pb := by
      simp only [List.forall_mem_cons]
      exact ⟨fun e => hI e.symm, by refine neN ?_; omega, hpb⟩
    k_steps
    refine Stop.out ?_
    (k_dflt (refine' wpAny_call (pushTok (led := (pb, listOf vs.toArray nn) :: (I, oI) :: (zl, listOf zs.toArray 0) :: led2) B ?k2 X T rfl ?k6 ?k7 ?k8 (.tail _ (.tail _ (.tail _ x1))) (.tail _ (.tail _ (.tail _ x2))) (.head hne2) hf hlf ?_); (case k2 => k_asm); (case k6 => ktr_room); (case k7 => ktr_units); (case k8 => exact news_sub N3 (by kst_in))))
    intro vs' nn' h' tk' hs' F' N'
    dsimp only
    k_steps
    refine Stop.out ?_
    refine g_end (σ := List Value × Nat) (vs', nn') F' N' (by kst_in) ?_ (by dsimp only; rw [List.take_add_one, hsv]; exact hs') (by kst_all) (by kst_same)
    intro q hq
    rcases List.mem_cons.mp hq with rfl | hq
    · exact hoff _ (.head _)
    · rcases List.mem_cons.mp hq with rfl | hq
      · exact hI
      · exact hoff q (.tail _ (.tail _ hq))
  · rintro ⟨vs, nn⟩ u h tk hf F2 N2
    dsimp only [kstB, lawEnv, envOfC] at hf F2 N2
    rw [hw2.length, List.take_length] at hf
    subst hled2
    refine hret _ _ (Ph3.mk _ vs nn nu pl oB oC oF oL led hpos h7 h10 (hus' trivial) hf F2 m1 (news_sub N2 fun q hq => .tail _ hq) n1 ⟨by omega, by omega⟩ hcd hL hoL ⟨dx, K, ln, tl, st, y1, y2, x3⟩)
end

local macro_rules | `(tactic| walk_at "execs cons") => `(tactic| ((with_reducible show wpAny _ _ (execs (Stmt.For _ _ _ _ _ :: _) _) _ _ _); refine Stop.mk ?_))
theorem ins_perm (x : Int) : ∀ l : List Int, (ins x l).Perm (x :: l)
  | [] => .refl _
  | y :: r => by
    unfold ins
    split
    · exact ((ins_perm x r).cons y).trans (.swap x y r)
    · exact .refl _
theorem foldIns_perm : ∀ (c : List Nat) (l : List Int), (c.foldl (fun (r : List Int) (n : Nat) => ins (n : Int) r) l).Perm (c.map (fun (n : Nat) => (n : Int)) ++ l)
  | [], l => .refl _
  | n :: c, l => by
    refine (foldIns_perm c _).trans ?_
    refine (List.Perm.append_left _ (ins_perm _ _)).trans ?_
    exact List.perm_middle
theorem rowOf_perm (c : List Nat) : (rowOf c).Perm (c.map fun (n : Nat) => (n : Int)) := by
  have := foldIns_perm c []
  rwa [List.append_nil] at this
theorem row_is {c : List Nat} {ns : List Int} (h : ns.Perm (c.map fun (n : Nat) => (n : Int))) (hs : ns.Pairwise (· ≤ ·)) : ns = rowOf c :=
  List.Perm.eq_of_pairwise (fun _ _ _ _ h1 h2 => Int.le_antisymm h1 h2) hs (rowOf_sorted c) (h.trans (rowOf_perm c).symm)
def enOf (n : Nat) : Nat := if n = 7 then 4 else if n = 8 then 5 else if n = 9 then 7 else 12
theorem en_at {c : List Nat} (h7 : 7 ≤ c.sum) (h10 : c.sum ≤ 10) (t1 t2 t3 t4 : Tok) : ∃ t, [Value.int 4 t1, .int 5 t2, .int 7 t3, .int 12 t4][((c.sum : Int) - 7).toNat]? = some (.int ((enOf c.sum : Nat) : Int) t) := by
  have : c.sum = 7 ∨ c.sum = 8 ∨ c.sum = 9 ∨ c.sum = 10 := by omega
  rcases this with e | e | e | e <;> rw [e]
  · exact ⟨t1, rfl⟩
  · exact ⟨t2, rfl⟩
  · exact ⟨t3, rfl⟩
  · exact ⟨t4, rfl⟩
theorem sum_nats : ∀ c : List Nat, (c.map fun (n : Nat) => (n : Int)).sum = (c.sum : Int)
  | [] => rfl
  | n :: c => by rw [List.map_cons, List.sum_cons, List.sum_cons, sum_nats c, Int.natCast_add]
theorem row_bound {c : List Nat} (hpos : ∀ n ∈ c, 1 ≤ n) (h10 : c.sum ≤ 10) : ∀ n ∈ rowOf c, 0 ≤ n ∧ n ≤ 20 := fun n hn => by
  obtain ⟨k, hk, rfl⟩ := List.mem_map.mp ((rowOf_perm c).mem_iff.mp hn)
  have := mem_le_sum hk
  omega
section
variable {w : World} {loose : List Str} {mean : ExcName → Option Value} {mg mb : Str → Option Value} {dp un : Nat} {gd : Option (List Code)} {L : Nat} {a : Addr} {ccd : Value} {outer : List Env} {A₀ : Around} {base h₀ : Heap} {s : Shared} {Q : Flow → Shared → Prop} {E : Value → Shared → Prop}

/-- ahead of the main loop -/
inductive Ph4 (h₀ : Heap) (L : Nat) (c : List Nat) (x pb : Nat) (h : Heap) : Prop
  | mk (m : Str → Option Value) (vs vr : List Value) (nn cr rw bl : Nat) (tw te : Tok) (oB oC oF oL : Obj) (led : List (Addr × Obj))
      (hpos : ∀ n ∈ c, 1 ≤ n) (h7 : 7 ≤ c.sum) (h10 : c.sum ≤ 10) (hv : StrsAre vs (c.map wd ++ [dot])) (hr : IntsAre vr (rowOf c))
      (F : Fr h₀ L h m) (m1 : m (Str.ofString "row") = some (.ref rw)) (m2 : m (Str.ofString "weight") = some (.int (weightOf (rowOf c)) tw)) (m3 : m (Str.ofString "enough") = some (.int ((enOf c.sum : Nat) : Int) te))
      (N : News h₀ L h ((bl, listOf #[] 0) :: (rw, listOf vr.toArray cr) :: (pb, listOf vs.toArray nn) :: (L + 1 + 1, oB) :: (L + 1 + 1 + 1, oC) :: (L + 1 + 1 + 1 + 1, oF) :: led))
      (n1 : ∀ q ∈ led, q.1 ≠ pb ∧ q.1 ≠ L + 1 + 1 ∧ q.1 ≠ L + 1 + 1 + 1 ∧ q.1 ≠ L + 1 + 1 + 1 + 1) (n4 : pb < rw ∧ rw < bl ∧ L + 1 + 1 + 1 + 1 < pb) (n5 : ∀ q ∈ led, q.1 < rw)
      (hoB : oB.data = .cell (some (.ref bl))) (hoC : ∃ v, oC.data = .cell v) (hoF : ∃ v, oF.data = .cell v) (hL : (L + 1, oL) ∈ led) (hoL : oL.data = .cell (some (.ref x))) (hx : LexIn led x pb)

set_option maxHeartbeats 8000000 in
theorem lawA4 {c : List Nat} {x pb : Nat} {us : List Value} (G : LawCtx w loose mean mg mb dp un outer A₀ base h₀) (P : Ph3 h₀ L c x pb us s.heap)
    (hret : ∀ h' tk', Ph4 h₀ L c x pb h' → wpAny (model Challenge.rw_pe0248_01.row.prog w) (lawAr dp un gd L a ccd outer) (execs (lawBody.drop 9) (lawEnv L a ccd)) Q E { s with heap := h', toks := tk' }) :
    wpAny (model Challenge.rw_pe0248_01.row.prog w) (lawAr dp un gd L a ccd outer) (execs (lawBody.drop 5) (lawEnv L a ccd)) Q E s := by
  obtain ⟨B, X, T, hd, hu⟩ := G
  obtain ⟨m, vs, nn, nu, pl, oB, oC, oF, oL, led, hpos, h7, h10, hus, hv, F, m1, N, n1, n4, ⟨vB, vC, vF, hoB, hoC, hoF⟩, hL, hoL, hx⟩ := P
  ((w_on; (have hfill : Challenge.rw_pe0248_01 = Challenge.rw_pe0248_01 ∧ Mine.hd.heap_1 = Mine.hd.heap_1 := by (k_fill; exact ⟨rfl, rfl⟩)); clear hfill))
  conv => arg 3; arg 1; whnf
  have hcl : c.length ≤ 10 := by have := len_le_sum hpos; omega
  k_steps
  refine Stop.out ?_
  rename_i rw vr nsr cr h8 hir her hpr hor hbr hp0 l1 h9 F1 N1
  have hrow : nsr = rowOf c := row_is hp0 hor
  subst hrow
  clear hbr hp0 hpr her hor
  (k_dflt (refine' wpAny_call (lawWeight ?k1 ?k2 ?k3 ?k4 ?k5 ?k6 ?k7 ?k8 ?k9 ?k10 ?k11 ?k12 ?_); (case k1 => k_asm); (case k2 => k_asm); (case k3 => k_asm); (case k4 => k_asm); (case k5 => first | exact rfl | assumption); (case k6 => ktr_room); (case k7 => ktr_units); (case k8 => k_asm); (case k9 => k_mem); (case k10 => assumption); (case k11 => exact Nat.le_trans (Nat.le_of_eq (rowOf_length c)) (by omega)); (case k12 => exact row_bound hpos h10)))
  intro tw h2 tk2 F2 N2
  dsimp only
  k_steps
  rename_i h3 el h4 F4 N4 l2 h5 t5 F5 N5
  rw [sum_nats]
  obtain ⟨ten, hen⟩ := en_at (c := c) h7 h10 _ _ _ _
  refine item_litK ⟨_, (N5 _ (.head _)).1, rfl, _, rfl⟩ (by omega) (by omega) hen ?_ (by with_unfolding_all rfl)
  clear hen
  k_steps
  rename_i g6 bl g7 F6 N6 l6
  have q1 : @LT.lt Nat _ pb rw := ltN l1.1
  have q2 : AllLt rw led := l1.2.2.2.2.2
  have q3 : @LT.lt Nat _ rw bl := ltN l6.2.1
  have hU : ∀ q ∈ (bl, listOf #[] 0) :: (rw, listOf vr.toArray cr) :: (pb, listOf vs.toArray nn) :: (L + 1 + 1 + 1, oC) :: (L + 1 + 1 + 1 + 1, oF) :: led, q.1 ≠ L + 1 + 1 := by
    simp only [List.forall_mem_cons]
    refine ⟨?_, ?_, ?_, ?_, ?_, fun q hq => (n1 q hq).2.1⟩ <;> (refine neN ?_; omega)
  have N7 := news_sub (l' := (L + 1 + 1, oB) :: (bl, listOf #[] 0) :: (rw, listOf vr.toArray cr) :: (pb, listOf vs.toArray nn) :: (L + 1 + 1 + 1, oC) :: (L + 1 + 1 + 1 + 1, oF) :: led) N6 (fun q hq => by
    simp only [List.mem_cons] at hq ⊢
    rcases hq with h | h | h | h | h | h | h <;> simp [h])
  k_dflt (refine storeX_C F6 N7 rfl (.head hU) hoB ?_ rfl rfl)
  intro g8 oB' F8 N8 hoB'
  dsimp only
  refine hret _ _ (Ph4.mk _ vs vr nn cr rw bl tw ten oB' oC oF oL led hpos h7 h10 hv hir F8 rfl rfl rfl (news_sub N8 (by kst_in)) n1 ⟨q1, q3, n4.2⟩ (ktn_ltOf q2) hoB' ⟨_, hoC⟩ ⟨_, hoF⟩ hL hoL hx)
end

structure WK where
  e1 : Int
  e2 : Int
  e3 : Int
  e4 : Int
  e5 : Int
  k1 : Tok
  k2 : Tok
  k3 : Tok
  k4 : Tok
  k5 : Tok
  isv : Value
  tr : Tok
  tn : Tok
  tt : Tok
  tb : Tok
abbrev wsO (xt : Str) (R : WS) (J : WK) (tp : Addr) : Obj := wsD J.e1 J.e2 J.e3 J.e4 J.e5 J.k1 J.k2 J.k3 J.k4 J.k5 xt J.tr R.n J.tn R.nt J.tt tp J.isv
abbrev wsT (R : WS) (J : WK) (tc : Addr) : Obj := { cls := .type "tuple", data := .seq #[.ref tc, .int R.b J.tb] }
section
variable {w : World} {loose : List Str} {mean : ExcName → Option Value} {mg mb : Str → Option Value} {dp un : Nat} {gd : Option (List Code)} {L : Nat} {a : Addr} {ccd : Value} {outer : List Env} {A₀ : Around} {base h₀ : Heap} {m : Str → Option Value} {s : Shared} {Q : Flow → Shared → Prop} {E : Value → Shared → Prop}

set_option maxHeartbeats 8000000 in
/-- lead, taken, rest = _law_turn(lexer) -/
theorem turn0 {led : List (Addr × Obj)} {x pb : Nat} {oL : Obj} {vs : List Value} {nn : Nat} {c : List Nat} (G : LawCtx w loose mean mg mb dp un outer A₀ base h₀) (F : Fr h₀ L s.heap m)
    (N : News h₀ L s.heap ((pb, listOf vs.toArray nn) :: led)) (hne : ∀ q ∈ led, q.1 ≠ pb) (hx : LexIn led x pb) (hL : (L + 1, oL) ∈ led) (hoL : oL.data = .cell (some (.ref x)))
    (hs : StrsAre vs (c.map wd ++ [dot])) (hpos : ∀ n ∈ c, 1 ≤ n) (hsum : c.sum ≤ 10) (hne0 : c ≠ [])
    (hret : ∀ vs' nn' h' tk' (r : Nat) vr nr t2 t3, StrsAre vs' ((turn c).map wd ++ [dot]) → IntsAre vr (rowOf (left c)) →
      Fr h₀ L h' (fun y => if y = Str.ofString "rest" then some (.ref r) else if y = Str.ofString "taken" then some (.int c.length t3) else if y = Str.ofString "lead" then some (.str (cat c) t2) else m y) →
      News h₀ L h' ((r, listOf vr.toArray nr) :: (pb, listOf vs'.toArray nn') :: led) → (∀ p ∈ led, p.1 < r) → pb < r → Q .next { s with heap := h', toks := tk' }) :
    wpAny (model Challenge.rw_pe0248_01.row.prog w) (lawAr dp un gd L a ccd outer) (exec (turnSt 0) (lawEnv L a ccd)) Q E s := by
  obtain ⟨B, X, T, hd, hu⟩ := G
  obtain ⟨dx, K, ln, tl, st, x1, x2, -⟩ := hx
  ((w_on; (have hfill : Challenge.rw_pe0248_01 = Challenge.rw_pe0248_01 ∧ Mine.hd.heap_1 = Mine.hd.heap_1 := by (k_fill; exact ⟨rfl, rfl⟩)); clear hfill))
  conv => arg 3; arg 1; whnf
  have N1 := news_dup N (.tail _ hL)
  k_steps
  refine Stop.out ?_
  have hlen : c.length ≤ 20 := by have := len_le_sum hpos; omega
  (k_dflt (refine' wpAny_call (lawTurn (led := (pb, listOf vs.toArray nn) :: led) B F X T rfl ?k6 ?k7 N (.tail _ x1) (.tail _ x2) (.head hne) hs hpos hlen ?k8 hne0 ?_); (case k6 => ktr_room); (case k7 => ktr_units); (case k8 => omega)))
  intro vs' nn' h' tk' r vr nr tp t2 t3 hs' hr' F' N' l1 l2
  dsimp only
  k_steps
  rename_i F9 N9
  exact hret _ _ _ _ _ _ _ _ _ hs' hr' F9 (news_sub N9 fun q hq => .tail _ hq) (fun q hq => l1 q (.tail _ hq)) (l1 _ (.head _))

set_option maxHeartbeats 8000000 in
/-- Whitespace(..) -/
theorem newWs {led : List (Addr × Obj)} {xt : Str} {tx : Tok} {Qv : Value → Shared → Prop} (G : LawCtx w loose mean mg mb dp un outer A₀ base h₀) (F : Fr h₀ L s.heap m)
    (N : News h₀ L s.heap led) (hws : ∀ ch ∈ xt.cps.toList, ch = 32 ∨ ch = 9) (hlen : xt.cps.size ≤ 60)
    (hret : ∀ h' tk' (J : WK) (tp tc mk dk : Nat) vsw, IntsAre vsw (wsRun xt.cps.toList).count → Fr h₀ L h' m →
      News h₀ L h' ((tp, wsT (wsRun xt.cps.toList) J tc) :: (tc, tupOf vsw) :: (mk, instObj 161 dk) :: (dk, wsO xt (wsRun xt.cps.toList) J tp) :: led) → (∀ q ∈ led, q.1 < dk) → dk < mk → mk < tc → tc < tp → Qv (.ref mk) { s with heap := h', toks := tk' }) :
    wpAny (model Challenge.rw_pe0248_01.row.prog w) (lawAr dp un gd L a ccd outer) (call (.ref 161) [.str xt tx]) Qv E s := by
  obtain ⟨B, X, T, hd, hu⟩ := G
  ((w_on; (have hfill : Challenge.rw_pe0248_01 = Challenge.rw_pe0248_01 ∧ Mine.hd.heap_1 = Mine.hd.heap_1 := by (k_fill; exact ⟨rfl, rfl⟩)); clear hfill))
  k_dflt (refine' call_cls ?k1 ?k2 ?k3 ?k4 ?k5 ?k6 ?_; (case k1 => k_asm); (case k2 => k_asm); (case k3 => k_asm); (case k4 => k_is); (case k5 => k_is); (case k6 => k_is); k_whole; intro mk dk h' F' N' l1 l2)
  (k_dflt (refine' wsInit B F' X T rfl ?w6 ?w7 N' l1 l2 hws hlen ?_; (case w6 => exact Nat.lt_of_le_of_lt (Nat.add_le_add_left (Nat.le_of_ble_eq_true rfl : _ + 1 ≤ 20) dp) hd); (case w7 => exact Nat.lt_of_le_of_lt (Nat.add_le_add_left (Nat.le_of_ble_eq_true rfl : _ + 8 ≤ 200) un) hu)))
  clear F' N'
  intro e1 e2 e3 e4 e5 q1 q2 q3 q4 q5 isv tr tn tt tp tc vsw tb h' tk' hiw F' N' l3 l4
  dsimp only [InitBack]
  refine ⟨rfl, ?_⟩
  exact hret _ _ ⟨e1, e2, e3, e4, e5, q1, q2, q3, q4, q5, isv, tr, tn, tt, tb⟩ tp tc mk dk vsw hiw F' N' l1 l2 l3 l4

set_option maxHeartbeats 8000000 in
/-- mark = Whitespace(lead) -/
theorem turn1 {led : List (Addr × Obj)} {xt : Str} {tx : Tok} (G : LawCtx w loose mean mg mb dp un outer A₀ base h₀) (F : Fr h₀ L s.heap m) (hm : m (Str.ofString "lead") = some (.str xt tx))
    (N : News h₀ L s.heap led) (hws : ∀ ch ∈ xt.cps.toList, ch = 32 ∨ ch = 9) (hlen : xt.cps.size ≤ 60)
    (hret : ∀ h' tk' (J : WK) (tp tc mk dk : Nat) vsw, IntsAre vsw (wsRun xt.cps.toList).count → Fr h₀ L h' (fun y => if y = Str.ofString "mark" then some (.ref mk) else m y) →
      News h₀ L h' ((tp, wsT (wsRun xt.cps.toList) J tc) :: (tc, tupOf vsw) :: (mk, instObj 161 dk) :: (dk, wsO xt (wsRun xt.cps.toList) J tp) :: led) → (∀ q ∈ led, q.1 < dk) → dk < mk → mk < tc → tc < tp → Q .next { s with heap := h', toks := tk' }) :
    wpAny (model Challenge.rw_pe0248_01.row.prog w) (lawAr dp un gd L a ccd outer) (exec (turnSt 1) (lawEnv L a ccd)) Q E s := by
  obtain ⟨B, X, T, hd, hu⟩ := G
  ((w_on; (have hfill : Challenge.rw_pe0248_01 = Challenge.rw_pe0248_01 ∧ Mine.hd.heap_1 = Mine.hd.heap_1 := by (k_fill; exact ⟨rfl, rfl⟩)); clear hfill))
  conv => arg 3; arg 1; whnf
  k_steps
  refine Stop.out ?_
  refine newWs ⟨B, X, T, hd, hu⟩ F N hws hlen ?_
  intro h' tk' J tp tc mk dk vsw hiw F' N' l1 l2 l3 l4
  k_steps
  rename_i F9 N9
  exact hret _ _ J tp tc mk dk vsw hiw F9 N9 l1 l2 l3 l4

set_option maxHeartbeats 8000000 in
/-- count, behind = mark.norm -/
theorem turn2 {led : List (Addr × Obj)} {xt : Str} {R : WS} {J : WK} {tp tc mk dk : Nat} {oC : Obj} (G : LawCtx w loose mean mg mb dp un outer A₀ base h₀) (F : Fr h₀ L s.heap m) (hm : m (Str.ofString "mark") = some (.ref mk))
    (N : News h₀ L s.heap ((L + 1 + 1 + 1, oC) :: (tp, wsT R J tc) :: (mk, instObj 161 dk) :: (dk, wsO xt R J tp) :: led)) (hoC : ∃ v, oC.data = .cell v) (hne : ∀ q ∈ led, q.1 ≠ L + 1 + 1 + 1) (l1 : L + 1 + 1 + 1 < dk) (l2 : dk < mk) (l3 : mk < tp)
    (hret : ∀ h' tk' (oC' : Obj), oC'.data = .cell (some (.ref tc)) → Fr h₀ L h' (fun y => if y = Str.ofString "behind" then some (.int R.b J.tb) else m y) →
      News h₀ L h' ((L + 1 + 1 + 1, oC') :: (tp, wsT R J tc) :: (mk, instObj 161 dk) :: (dk, wsO xt R J tp) :: led) → Q .next { s with heap := h', toks := tk' }) :
    wpAny (model Challenge.rw_pe0248_01.row.prog w) (lawAr dp un gd L a ccd outer) (exec (turnSt 2) (lawEnv L a ccd)) Q E s := by
  obtain ⟨B, X, T, hd, hu⟩ := G
  obtain ⟨vC, hoC⟩ := hoC
  ((w_on; (have hfill : Challenge.rw_pe0248_01 = Challenge.rw_pe0248_01 ∧ Mine.hd.heap_1 = Mine.hd.heap_1 := by (k_fill; exact ⟨rfl, rfl⟩)); clear hfill))
  conv => arg 3; arg 1; whnf
  k_steps
  rename_i oC' hoC' g9 F9 N9
  exact hret _ _ oC' hoC' F9 N9
end

section
open LCg
variable {prog : Program} {w : World} {A : Around} {E : Value → Shared → Prop} {R : Result → Shared → Prop} {s : Shared} {h₀ : Heap} {L : Addr} {m : Str → Option Value} {env : Env}
abbrev two (elt t1 i1 t2 i2 : Expr) (scope : Scope) (pos : Pos) : Expr := .ListComp elt [⟨t1, i1, [], 0⟩, ⟨t2, i2, [], 0⟩] scope pos
theorem turn_two0 (elt t1 i1 t2 i2 : Expr) (scope : Scope) (pos : Pos) (it acc : Value) (env : Env) :
    compTurn (two elt t1 i1 t2 i2 scope pos) 0 it acc env = (standAt i1.pos >>= fun _ => pyNext it >>= fun r => match r with
      | none => pure (.done .next)
      | some v => letOwnedTupleGo t1 it v >>= fun _ => assign t1 env v >>= fun _ =>
        eval i2 env >>= fun x => standAt i2.pos >>= fun _ => foldedSetIterable i2 env x >>= fun x => holding [x] (pyIter x) >>= fun it2 => runOwn (.compStart (two elt t1 i1 t2 i2 scope pos) 1 it2 acc env) env >>= fun _ =>
          again (.compLoop (two elt t1 i1 t2 i2 scope pos) 0 it acc env)) := by rfl
theorem turn_two1 (elt t1 i1 t2 i2 : Expr) (scope : Scope) (pos : Pos) (it acc : Value) (env : Env) :
    compTurn (two elt t1 i1 t2 i2 scope pos) 1 it acc env = (standAt i2.pos >>= fun _ => pyNext it >>= fun r => match r with
      | none => pure (.done .next)
      | some v => letOwnedTupleGo t2 it v >>= fun _ => assign t2 env v >>= fun _ =>
        (eval elt env >>= fun x => call (.builtin "list.append") [acc, x] >>= fun _ => pure ()) >>= fun _ =>
          again (.compLoop (two elt t1 i1 t2 i2 scope pos) 1 it acc env)) := by rfl
theorem loop_two1 {elt t1 i1 t2 i2 : Expr} {scope : Scope} {pos : Pos} {it acc : Value} (I : Nat → Shared → Prop)
    (turn : ∀ n s, I n s → wpAny (model prog w) A (pyNext it) (fun r s₁ => match r with
      | none => R (.ok .next) s₁
      | some v => wpAny (model prog w) A (assign t2 env v) (fun _ s₂ => wpAny (model prog w) A (eval elt env) (fun x s₃ =>
          wpAny (model prog w) A (call (.builtin "list.append") [acc, x]) (fun _ s₄ => ∃ m, m < n ∧ I m s₄) (notedBy (model prog w) A env fun e s' => R (.error e) s') s₃)
          (notedBy (model prog w) A env fun e s' => R (.error e) s') s₂) (notedBy (model prog w) A env fun e s' => R (.error e) s') s₁) (notedBy (model prog w) A env fun e s' => R (.error e) s') s)
    (n : Nat) (h : I n s) (ht : ∀ v, letOwnedTupleGo t2 it v = pure ()) :
    codeAny (model prog w) A (.compLoop (two elt t1 i1 t2 i2 scope pos) 1 it acc env) R s := by
  refine codeAny_loop rfl I (fun n s hI => ?_) n h
  show wpAny _ A ((compTurn (two elt t1 i1 t2 i2 scope pos) 1 it acc env).onRaise (fun x => do noteFrame x env; theTreesLotGoes x)) _ _ s
  refine wpAny_noted ?_
  rw [turn_two1]
  refine wpAny_bind (wpAny_standAt (wpAny_bind (wpAny_mono (turn n s hI) (fun r s₁ h₁ => ?_) fun _ _ h' => h')))
  cases r with
  | none => exact wpAny_pure h₁
  | some v =>
    refine wpAny_bind (wpAny_of_eq (ht v) ?_)
    exact wpAny_bind (wpAny_mono h₁ (fun _ s₂ h₂ => wpAny_bind (wpAny_bind (wpAny_mono h₂ (fun x s₃ h₃ => wpAny_bind (wpAny_mono h₃
      (fun _ s₄ h₄ => wpAny_pure (wpAny_pure ⟨rfl, h₄⟩)) fun _ _ h' => h')) fun _ _ h' => h'))) fun _ _ h' => h')
theorem loop_two0 {elt t1 i1 t2 i2 : Expr} {scope : Scope} {pos : Pos} {it acc : Value} (I : Nat → Shared → Prop)
    (turn : ∀ n s, I n s → wpAny (model prog w) A (pyNext it) (fun r s₁ => match r with
      | none => R (.ok .next) s₁
      | some v => wpAny (model prog w) A (assign t1 env v) (fun _ s₂ => wpAny (model prog w) A (eval i2 env) (fun x s₃ =>
          wpAny (model prog w) A (pyIter x) (fun it2 s₄ => codeAny (model prog w) A (.compStart (two elt t1 i1 t2 i2 scope pos) 1 it2 acc env) (fun r s₅ => match r with | .ok _ => ∃ m, m < n ∧ I m s₅ | .error _ => False) s₄) (notedBy (model prog w) A env fun e s' => R (.error e) s') s₃)
          (notedBy (model prog w) A env fun e s' => R (.error e) s') s₂) (notedBy (model prog w) A env fun e s' => R (.error e) s') s₁) (notedBy (model prog w) A env fun e s' => R (.error e) s') s)
    (n : Nat) (h : I n s) (ht : ∀ v, letOwnedTupleGo t1 it v = pure ()) (hf : ∀ x, foldedSetIterable i2 env x = pure x) :
    codeAny (model prog w) A (.compLoop (two elt t1 i1 t2 i2 scope pos) 0 it acc env) R s := by
  refine codeAny_loop rfl I (fun n s hI => ?_) n h
  show wpAny _ A ((compTurn (two elt t1 i1 t2 i2 scope pos) 0 it acc env).onRaise (fun x => do noteFrame x env; theTreesLotGoes x)) _ _ s
  refine wpAny_noted ?_
  rw [turn_two0]
  refine wpAny_bind (wpAny_standAt (wpAny_bind (wpAny_mono (turn n s hI) (fun r s₁ h₁ => ?_) fun _ _ h' => h')))
  cases r with
  | none => exact wpAny_pure h₁
  | some v =>
    refine wpAny_bind (wpAny_of_eq (ht v) ?_)
    refine wpAny_bind (wpAny_mono h₁ (fun _ s₂ h₂ => ?_) fun _ _ h' => h')
    refine wpAny_bind (wpAny_mono h₂ (fun x s₃ h₃ => ?_) fun _ _ h' => h')
    refine wpAny_bind (wpAny_standAt (wpAny_bind (wpAny_of_eq (hf x) ?_)))
    refine wpAny_bind (wpAny_holding (wpAny_mono h₃ (fun it2 s₄ h₄ => ?_) fun _ _ h' => h'))
    refine wpAny_bind (wpAny_runOwn (codeAny_mono h₄ fun r s₅ h₅ => ?_))
    cases r with
    | error e => exact h₅.elim
    | ok f => exact wpAny_pure ⟨rfl, h₅⟩
theorem start_two1 {elt t1 i1 t2 i2 : Expr} {scope : Scope} {pos : Pos} {it acc : Value}
    (h0 : codeAny (model prog w) A (.compLoop (two elt t1 i1 t2 i2 scope pos) 1 it acc env) R s)
    (h : wpAny (model prog w) A (pyIter it) (fun it' s' => codeAny (model prog w) A (.compLoop (two elt t1 i1 t2 i2 scope pos) 1 it' acc env) R s') (notedBy (model prog w) A env fun x s' => R (.error x) s') s) :
    codeAny (model prog w) A (.compStart (two elt t1 i1 t2 i2 scope pos) 1 it acc env) R s := by
  refine codeAny_of_tree ?_
  show wpAny _ A ((compStart (two elt t1 i1 t2 i2 scope pos) 1 it acc env).onRaise (fun x => do noteFrame x env; standAt theWindowsPlace)) _ _ s
  refine wpAny_notedAt ?_
  unfold compStart
  show wpAny _ _ (ask >>= _) _ _ s
  refine wpAny_bind (wpAny_askSetting (wpAny_ite ?_))
  split
  · first
      | exact wpAny_bind (wpAny_pure (wpAny_pure (And.intro rfl h0)))
      | exact wpAny_pure (And.intro rfl h0)
  · refine wpAny_bind (wpAny_rule ?_)
    show wpAny _ _ (standAt i2.pos >>= _) _ _ s
    exact wpAny_bind (wpAny_standAt (wpAny_bind (wpAny_mono h (fun it' s' h' => wpAny_pure (And.intro rfl h')) fun _ _ x => x)))

/-- a range, and all else as it stood -/
def RngPost (h₀ : Heap) (L : Addr) (m : Str → Option Value) (s : Shared) (n : Nat) (news : List (Addr × Obj)) (xv : Value) (s₁ : Shared) : Prop :=
  ∃ r t u v h tk, xv = .ref r ∧ s₁ = { s with heap := h, toks := tk } ∧ IsRange h r 0 n 1 t u v ∧ Fr h₀ L h m ∧ News h₀ L h news
def flatK (k : Nat → Nat) : Nat → List Int
  | 0 => []
  | i + 1 => flatK k i ++ List.replicate (k i) (i : Int)
theorem ints_rep {t : Tok} (i : Int) : ∀ j : Nat, IntsAre (List.replicate j (Value.int i t)) (List.replicate j i)
  | 0 => .nil
  | j + 1 => .cons i t (ints_rep i j)
theorem news_keep {h h' : Heap} {news : List (Addr × Obj)} (N : News h₀ L h news) (k : ∀ p ∈ news, h.get? p.1 = some p.2 → h'.get? p.1 = some p.2) : News h₀ L h' news := fun p hp => ⟨k p hp (N p hp).1, (N p hp).2⟩

set_option maxHeartbeats 1000000 in
/-- a comprehension over a range, and over a range of its own in each turn; the outer item is laid -/
theorem two_range {x y z : Str} {px px' py pz spos : Pos} {i1 i2 : Expr} {scope : Scope} {cl : List (Str × Addr)} {pos : Pos} {n : Nat} {k : Nat → Nat} {news : List (Addr × Obj)} {Q : Flow → Shared → Prop} (hLe : env.locals = L) (hsw : swapsWith (two (.Name x px') (.Name x px) i1 (.Name y py) i2 scope pos) (some (.Name z pz)) spos.line env = pure true)
    (hz : env.kindOf z = some .local) (hp : (env.scope.kind == .class || (env.scope.kind == .module && env.locals != env.globals)) = false) (hclos : closureFor scope env = pure cl) (hcell : ∀ y ∈ scope.names, y.2 ≠ .cell) (hkind : scope.kind = .function)
    (hnames : ∀ y ∈ scope.names, y.2 = .local → scope.names.lookup y.1 = some .local) (hx : scope.names.lookup x = some .local) (hy : scope.names.lookup y = some .local) (hxy : x ≠ y) (hdb : (x == ("__debug__" : Str)) = false) (hh : A.handled = none)
    (hs1 : ∀ x, foldedSetIterable i1 env x = pure x) (hs2 : ∀ e x, foldedSetIterable i2 e x = pure x) (hn : n ≤ 1000) (hk : ∀ i, k i ≤ 1000) (hfl : ∀ i, i ≤ n → (flatK k i).length ≤ 1000)
    (h1 : wpAny (model prog w) A (eval i1 env) (RngPost h₀ L m s n news) E s)
    (h2 : ∀ i I oI C oC D oD m₂ t h tk (E' : Value → Shared → Prop), i < n → NsObj oC m₂ → m₂ x = some (.int ((i : Nat) : Int) t) → Fr h₀ L h m → News h₀ L h ((I, oI) :: (C, oC) :: (D, oD) :: news) → Off3 I C D news →
      wpAny (model prog w) A (eval i2 (compEnvC scope cl C env)) (RngPost h₀ L m { s with heap := h, toks := tk } (k i) ((I, oI) :: (C, oC) :: (D, oD) :: news)) E' { s with heap := h, toks := tk })
    (fin : ∀ D h tk ys, IntsAre ys (flatK k n) → Fr h₀ L h (fun q => if q = z then some (.ref D) else m q) → News h₀ L h ((D, lst ys) :: news) → Off1 D news → Q .next { s with heap := h, toks := tk }) :
    wpAny (model prog w) A (exec (.Assign [.Name z pz] (two (.Name x px') (.Name x px) i1 (.Name y py) i2 scope pos) spos) env) Q E s := by
  subst hLe
  rw [exec_Assign_Name_used _ _ _ _ hsw]
  refine wpAny_bind (wpAny_standAt (wpAny_bind ?_))
  show wpAny _ A (do let _ ← comprehension (two (.Name x px') (.Name x px) i1 (.Name y py) i2 scope pos) scope env _ (newList []) false (eval i1 env) (some (assign (.Name z pz) env))) _ _ s
  refine wpAny_bind (wpAny_mono (wpAny_comprehension_free (use := some (assign (.Name z pz) env)) (Q := fun _ s' => Q .next s') rfl hs1 hclos hkind hnames (wpAny_mono h1 (fun xv s₁ h₁ => ?_) fun _ _ e => e)) (fun _ s' hq => wpAny_pure (wpAny_pure hq)) fun _ _ e => e)
  generalize hLq : env.locals = L at *
  obtain ⟨r, t, u, v, hA, tkA, rfl, rfl, hr, F, N⟩ := h₁
  refine wpAny_pyIter_range hr (small_one (by omega) (by omega) (by omega) (by omega)) ?_
  dsimp only
  generalize hI1 : hA.objs.size = I
  have hIL : L ≠ I := by rw [← hI1]; exact Nat.ne_of_lt F.ns.lt
  have hI₀ : h₀.get? I = none := by rw [← hI1]; exact next_is_new F
  have offI : ∀ p ∈ news, p.1 ≠ I := fun p hp => by rw [← hI1]; exact Nat.ne_of_lt (Heap.lt_size (N p hp).1)
  generalize hHB : hA.push _ = hB
  have hgB : ∀ b o, hA.get? b = some o → hB.get? b = some o := fun b o e => by rw [← hHB]; exact Heap.get?_push_of_some _ e
  have hst : IsRangeIter hB I ((0 : Int) + ((0 : Nat) : Int) * 1) ((n : Int) - ((0 : Nat) : Int)) 1 := by
    show hB.get? I = _
    rw [← hHB, ← hI1, Heap.get?_push_size _ rfl, rangeSize_nat]
    simp
  replace F := F.keeps hgB
  replace N := N.grown hgB
  have hIB : I < hB.objs.size := Heap.lt_size hst
  clear hgB hHB hI1 hr hA
  have WI := range_walks (prog := prog) (w := w) (I := I) hh (0 : Int) n
  refine wpAny_newObj_type (wpAny_newFunctionEnv hcell (by intro y hy; simp at hy) (fun h₁ hns₁ hsb₁ => ?_) hkind)
  dsimp only at hns₁ hsb₁ ⊢
  generalize hH2 : hB.push { cls := .type "list", dict := none, data := .seq ([] : List Value).toArray } = H2 at hns₁ hsb₁ ⊢
  generalize hCe : H2.objs.size = C at hns₁ hsb₁ ⊢
  generalize hDe : hB.objs.size = D at hIB ⊢
  have hC : C = D + 1 := by rw [← hCe, ← hDe, ← hH2, Heap.size_push]
  have hDC : D ≠ C := by rw [hC]; exact Nat.ne_of_lt (Nat.lt_succ_self _)
  have below : ∀ b, b < D → b ≠ C ∧ b ≠ D := fun b hb => ⟨by rw [hC]; exact Nat.ne_of_lt (Nat.lt_succ_of_lt hb), Nat.ne_of_lt hb⟩
  have old : ∀ b o, hB.get? b = some o → h₁.get? b = some o := fun b o e => hsb₁.extBut b o (below b (hDe ▸ Heap.lt_size e)).1 (Heap.get?_push_of_some _ (by rw [← hH2]; exact Heap.get?_push_of_some _ e))
  have hacc : h₁.get? D = some (lst []) := by
    refine hsb₁.extBut _ _ hDC (Heap.get?_push_of_some _ ?_)
    rw [← hH2, ← hDe]
    exact Heap.get?_push_size _ rfl
  have fresh : ∀ a, D ≤ a → hB.get? a = none := fun a ha => by
    cases e : hB.get? a with
    | none => rfl
    | some o' => exact absurd (Heap.lt_size e) (Nat.not_lt.mpr (hDe ▸ ha))
  have fresh₀ : ∀ a, D ≤ a → h₀.get? a = none := fun a ha => by
    cases e : h₀.get? a with
    | none => rfl
    | some o' => have := F.keep a o' e; rw [fresh a ha] at this; cases this
  have hD₀ := fresh₀ D (Nat.le_refl _)
  have hC₀ := fresh₀ C (by rw [hC]; exact Nat.le_succ _)
  have hLlt : L < D := hDe ▸ F.ns.lt
  have hDL : D ≠ L := Ne.symm (below L hLlt).2
  have hCL : C ≠ L := Ne.symm (below L hLlt).1
  have hCI : I ≠ C := (below I hIB).1
  have hDI : I ≠ D := (below I hIB).2
  have off : Off3 I C D news := Off3.of fun p hp => ⟨offI p hp, (below _ (hDe ▸ Heap.lt_size (N p hp).1)).1, (below _ (hDe ▸ Heap.lt_size (N p hp).1)).2⟩
  have off3 := off.mem
  have hst₁ := WI.frame _ _ _ hst fun b _ o e => old b o e
  have F1 := F.keeps old
  have N1 : News h₀ L h₁ ((D, lst []) :: news) := fun p hp => by
    rcases List.mem_cons.mp hp with rfl | hp
    · exact ⟨hacc, hDL, hD₀⟩
    · exact ⟨old _ _ (N p hp).1, (N p hp).2⟩
  have hkx : (compEnvC scope cl C env).kindOf x = some .local := lookup_relabel_local hx
  have hky : (compEnvC scope cl C env).kindOf y = some .local := lookup_relabel_local hy
  have hpl : ((compEnvC scope cl C env).scope.kind == .class || ((compEnvC scope cl C env).scope.kind == .module && (compEnvC scope cl C env).locals != (compEnvC scope cl C env).globals)) = false := by simp [compEnvC, relabel, hkind]
  have loop : ∀ s₃ : Shared, (∃ tk, s₃ = { s with heap := h₁, toks := tk }) →
      codeAny (model prog w) A (.compLoop (two (.Name x px') (.Name x px) i1 (.Name y py) i2 scope pos) 0 (.ref I) (.ref D) (compEnvC scope cl C env))
        (compPost (model prog w) A E (some (assign (.Name z pz) env)) (fun _ s' => Q .next s') (.ref D) C) s₃ := by
    rintro s₃ ⟨tk₃, rfl⟩
    refine loop_two0 (fun q s' => ∃ h' tk i ys m', s' = { s with heap := h', toks := tk } ∧ i ≤ n ∧ q = n + 1 - i ∧ IntsAre ys (flatK k i) ∧ IsRangeIter h' I ((0 : Int) + ((i : Nat) : Int) * 1) ((n : Int) - ((i : Nat) : Int)) 1 ∧ Fr h₀ L h' m ∧ h'.Ns C m' ∧ News h₀ L h' ((D, lst ys) :: news)) ?_ (n + 1)
      ⟨h₁, _, 0, [], _, rfl, Nat.zero_le _, rfl, .nil, hst₁, F1, hns₁, N1⟩ (fun _ => rfl) (hs2 _)
    rintro q s' ⟨h', tk, i, ys, m', rfl, hi, rfl, hys, hst', F', hn', N'⟩
    by_cases hlt : i < n
    · refine WI.item i _ _ _ hlt hst' fun v h₂ tk₂ hPv hst₂ hk₂ => ?_
      obtain ⟨tv, rfl⟩ := hPv
      rw [Int.zero_add]
      refine wpAny_assign_Name (wpAny_storeName_local hkx (hn'.at' fun o e => hk₂ _ o (by simpa using Ne.symm hCI) e) (fun h₃ hn₃ hs₃ => ?_) hpl)
      have hst₃ : IsRangeIter h₃ I _ _ 1 := WI.frame _ _ _ hst₂ fun b hb o e => hs₃.extBut b o (fun q => by rw [List.mem_singleton.mp hb] at q; exact hCI q) e
      obtain ⟨oI, heI, hoI⟩ : ∃ o, h₃.get? I = some o ∧ ∀ h : Heap, h.get? I = some o → IsRangeIter h I ((0 : Int) + ((i + 1 : Nat) : Int) * 1) ((n : Int) - ((i + 1 : Nat) : Int)) 1 := ⟨_, hst₃, fun _ e => e⟩
      obtain ⟨oC, heC, hoC⟩ := ns_obj hn₃
      have F₃ : Fr h₀ L h₃ m := (fr_but F' hk₂ hIL hI₀).change hs₃ hCL hC₀
      have N₂ : News h₀ L h₂ ((D, lst ys) :: news) := news_but N' hk₂ fun p hp => by
        rcases List.mem_cons.mp hp with rfl | hp
        · exact Ne.symm hDI
        · exact (off3 p hp).1
      have N₃ : News h₀ L h₃ ((I, oI) :: (C, oC) :: (D, lst ys) :: news) := fun p hp => by
        rcases List.mem_cons.mp hp with rfl | hp
        · exact ⟨heI, Ne.symm hIL, hI₀⟩
        · rcases List.mem_cons.mp hp with rfl | hp
          · exact ⟨heC, hCL, hC₀⟩
          · have z := N₂ p hp
            refine ⟨hs₃.extBut _ _ ?_ z.1, z.2⟩
            rcases List.mem_cons.mp hp with rfl | hp
            · exact hDC
            · exact (off3 p hp).2.1
      refine wpAny_mono (h2 i I oI C oC D (lst ys) _ tv h₃ _ _ hlt hoC (by simp) F₃ N₃ off) (fun xv s₄ h₄ => ?_) fun _ _ e => e
      obtain ⟨r2, t2, u2, v2, h₄, tk₄, rfl, rfl, hr2, F₄, N₄⟩ := h₄
      have hki := hk i
      refine wpAny_pyIter_range hr2 (small_one (by omega) (by omega) (by omega) (by omega)) ?_
      dsimp only
      generalize hJe : h₄.objs.size = J
      have hJL : L ≠ J := by rw [← hJe]; exact Nat.ne_of_lt F₄.ns.lt
      have hJ₀ : h₀.get? J = none := by rw [← hJe]; exact next_is_new F₄
      have offJ : ∀ p ∈ (I, oI) :: (C, oC) :: (D, lst ys) :: news, p.1 ≠ J := fun p hp => by rw [← hJe]; exact Nat.ne_of_lt (Heap.lt_size (N₄ p hp).1)
      generalize hH5 : h₄.push _ = h₅
      have hg5 : ∀ b o, h₄.get? b = some o → h₅.get? b = some o := fun b o e => by rw [← hH5]; exact Heap.get?_push_of_some _ e
      have hst5 : IsRangeIter h₅ J ((0 : Int) + ((0 : Nat) : Int) * 1) ((k i : Int) - ((0 : Nat) : Int)) 1 := by
        show h₅.get? J = _
        rw [← hH5, ← hJe, Heap.get?_push_size _ rfl, rangeSize_nat]
        simp
      have F5 := F₄.keeps hg5
      have N5 := N₄.grown hg5
      have hn5 : h₅.Ns C (fun z => if z = x then some (.int ((i : Nat) : Int) tv) else m' z) := hoC.ns (N5 _ (.tail _ (.head _))).1
      have hJC : J ≠ C := fun e => offJ _ (.tail _ (.head _)) e.symm
      have hJD : J ≠ D := fun e => offJ _ (.tail _ (.tail _ (.head _))) e.symm
      have hJI : J ≠ I := fun e => offJ _ (.head _) e.symm
      have WJ := range_walks (prog := prog) (w := w) (I := J) hh (0 : Int) (k i)
      have inner : ∀ s₃ : Shared, (∃ tk, s₃ = { s with heap := h₅, toks := tk }) →
          codeAny (model prog w) A (.compLoop (two (.Name x px') (.Name x px) i1 (.Name y py) i2 scope pos) 1 (.ref J) (.ref D) (compEnvC scope cl C env))
            (fun r s₅ => match r with
              | .ok _ => ∃ q, q < n + 1 - i ∧ ∃ h' tk i ys m', s₅ = { s with heap := h', toks := tk } ∧ i ≤ n ∧ q = n + 1 - i ∧ IntsAre ys (flatK k i) ∧ IsRangeIter h' I ((0 : Int) + ((i : Nat) : Int) * 1) ((n : Int) - ((i : Nat) : Int)) 1 ∧ Fr h₀ L h' m ∧ h'.Ns C m' ∧ News h₀ L h' ((D, lst ys) :: news)
              | .error _ => False) s₃ := by
        rintro s₃ ⟨tk₃, rfl⟩
        refine loop_two1 (fun q s' => ∃ h' tk j m', s' = { s with heap := h', toks := tk } ∧ j ≤ k i ∧ q = k i + 1 - j ∧ IsRangeIter h' J ((0 : Int) + ((j : Nat) : Int) * 1) ((k i : Int) - ((j : Nat) : Int)) 1 ∧ Fr h₀ L h' m ∧ h'.Ns C m' ∧ m' x = some (.int ((i : Nat) : Int) tv) ∧ News h₀ L h' ((I, oI) :: (D, lst (ys ++ List.replicate j (.int ((i : Nat) : Int) tv))) :: news)) ?_ (k i + 1)
          ⟨h₅, _, 0, _, rfl, Nat.zero_le _, rfl, hst5, F5, hn5, by simp, fun p hp => N5 p (by simp only [List.replicate_zero, List.append_nil, List.mem_cons] at hp ⊢; rcases hp with h | h | h <;> simp [h])⟩ (fun _ => rfl)
        rintro q s' ⟨h₆, tk₆, j, m6, rfl, hj, rfl, hst6, F6, hn6, hx6, N6⟩
        have offJ' : ∀ p ∈ (I, oI) :: (D, lst (ys ++ List.replicate j (.int ((i : Nat) : Int) tv))) :: news, p.1 ≠ J := fun p hp => by
          rcases List.mem_cons.mp hp with rfl | hp
          · exact Ne.symm hJI
          · rcases List.mem_cons.mp hp with rfl | hp
            · exact Ne.symm hJD
            · exact offJ p (.tail _ (.tail _ (.tail _ hp)))
        by_cases hjk : j < k i
        · refine WJ.item j _ _ _ hjk hst6 fun v h₇ tk₇ hPv hst7 hk7 => ?_
          have hn7 : h₇.Ns C m6 := hn6.at' fun o e => hk7 _ o (by simpa using Ne.symm hJC) e
          have F7 := fr_but F6 hk7 hJL hJ₀
          have N7 := news_but N6 hk7 offJ'
          refine wpAny_assign_Name (wpAny_storeName_local hky hn7 (fun h₈ hn8 hs8 => ?_) hpl)
          have F8 := F7.change hs8 hCL hC₀
          have N8 : News h₀ L h₈ ((I, oI) :: (D, lst (ys ++ List.replicate j (.int ((i : Nat) : Int) tv))) :: news) := news_keep N7 fun p hp e => hs8.extBut _ _ (by
            rcases List.mem_cons.mp hp with rfl | hp
            · exact hCI
            · rcases List.mem_cons.mp hp with rfl | hp
              · exact hDC
              · exact (off3 p hp).2.1) e
          have hx8 : (fun z => if z = y then some v else m6 z) x = some (.int ((i : Nat) : Int) tv) := by simp [hxy, hx6]
          refine wpAny_Name (wpAny_loadName_local (by simp [compEnvC, relabel, hkind]) hkx hn8 hx8 ?_) hdb
          have hlen : (ys ++ List.replicate j (Value.int ((i : Nat) : Int) tv)).length ≤ 2000 := by
            have h1 := hys.length
            have h2 := hfl i (by omega)
            rw [List.length_append, List.length_replicate]; omega
          refine append_at (hsz := by show (List.toArray _).size ≤ sizeLine; rw [List.size_toArray, sizeLine_eq]; omega) (N8 _ (.tail _ (.head _))).1 fun h₉ hs9 hD9 => ?_
          have F9 := F8.change hs9 hDL hD₀
          refine ⟨k i + 1 - (j + 1), by omega, h₉, _, j + 1, _, rfl, hjk, rfl, WJ.frame _ _ _ hst7 fun b hb o e => hs9.extBut b o (fun q => by rw [List.mem_singleton.mp hb] at q; exact hJD q) (hs8.extBut b o (fun q => by rw [List.mem_singleton.mp hb] at q; exact hJC q) e), F9, hn8.sameBut hs9 (Ne.symm hDC), hx8, fun p hp => ?_⟩
          rcases List.mem_cons.mp hp with rfl | hp
          · exact ⟨hs9.extBut _ _ hDI (N8 _ (.head _)).1, (N8 _ (.head _)).2⟩
          · rcases List.mem_cons.mp hp with rfl | hp
            · refine ⟨?_, hDL, hD₀⟩
              rw [List.replicate_succ', ← List.append_assoc]
              exact hD9.trans (congrArg some (lst_snoc _ _))
            · have z := N8 p (.tail _ (.tail _ hp))
              exact ⟨hs9.extBut _ _ (off3 p hp).2.2 z.1, z.2⟩
        · obtain rfl : j = k i := Nat.le_antisymm hj (Nat.not_lt.mp hjk)
          refine WJ.done _ _ _ hst6 fun h₇ tk₇ hk7 => ?_
          have hn7 : h₇.Ns C m6 := hn6.at' fun o e => hk7 _ o (by simpa using Ne.symm hJC) e
          have F7 := fr_but F6 hk7 hJL hJ₀
          have N7 := news_but N6 hk7 offJ'
          exact ⟨n + 1 - (i + 1), by omega, h₇, _, i + 1, _, _, rfl, hlt, rfl, hys.append (ints_rep _ _), hoI _ (N7 _ (.head _)).1, F7, hn7, fun p hp => N7 p (.tail _ hp)⟩
      exact start_two1 (inner _ ⟨_, rfl⟩) (WJ.self 0 _ _ _ hst5 (inner _ ⟨_, rfl⟩))
    · obtain rfl : i = n := Nat.le_antisymm hi (Nat.not_lt.mp hlt)
      refine WI.done _ _ _ hst' fun h₂ tk₂ hk₂ => ?_
      have N₂ : News h₀ L h₂ ((D, lst ys) :: news) := news_but N' hk₂ fun p hp => by
        rcases List.mem_cons.mp hp with rfl | hp
        · exact Ne.symm hDI
        · exact (off3 p hp).1
      have F₂ := fr_but F' hk₂ hIL hI₀
      have hn₂ := hn'.at' fun o e => hk₂ _ o (by simpa using Ne.symm hCI) e
      show wpAny _ A (assign (.Name z pz) env (.ref D)) _ _ _
      refine wpAny_assign_Name (wpAny_storeName_local hz (by rw [hLq]; exact F₂.ns) (fun h₃ hn₃ hs₃ => ?_) (by rw [hLq]; exact hp))
      rw [hLq] at hn₃ hs₃
      have hL₀ : h₀.get? L = none := Heap.get?_none_of_le F₂.above
      have F₃ : Fr h₀ L h₃ (fun q => if q = z then some (.ref D) else m q) := ⟨hn₃, fun b o e => hs₃.extBut b o (fun q => by rw [q, hL₀] at e; cases e) (F₂.keep b o e), F₂.above⟩
      refine ⟨m', hn₂.sameBut hs₃ hCL, fun h'' hs'' => fin D h'' _ ys hys (F₃.change hs'' hCL hC₀) (fun p hp => ?_) off.one⟩
      have q : h₃.get? p.1 = some p.2 := hs₃.extBut _ _ (N₂ p hp).2.1 (N₂ p hp).1
      refine ⟨hs''.extBut _ _ ?_ q, (N₂ p hp).2⟩
      rcases List.mem_cons.mp hp with rfl | hp
      · exact hDC
      · exact (off3 p hp).2.1
  exact codeAny_compStart_list (loop _ ⟨_, rfl⟩) (WI.self 0 _ _ _ hst₁ (loop _ ⟨_, rfl⟩))
end

section
variable {w : World} {loose : List Str} {mean : ExcName → Option Value} {mg mb : Str → Option Value} {dp un : Nat} {gd : Option (List Code)} {L : Nat} {a : Addr} {ccd : Value} {outer : List Env} {A₀ : Around} {base h₀ : Heap} {m : Str → Option Value} {s : Shared} {Q : Flow → Shared → Prop} {E : Value → Shared → Prop}
/-- how often a size stands in the counts -/
def cntN (ct : List Int) (i : Nat) : Nat := (ct.getD i 0).toNat

theorem cntN_bound {ct : List Int} (hb : ∀ z ∈ ct, 0 ≤ z ∧ z ≤ 10) (i : Nat) : cntN ct i ≤ 10 ∧ ((cntN ct i : Nat) : Int) = ct.getD i 0 := by
  unfold cntN
  rw [List.getD_eq_getElem?_getD]
  cases h : ct[i]? with
  | none => simp
  | some v => have := hb v (List.mem_of_getElem? h); simp; omega
theorem flatK_length {k : Nat → Nat} (hk : ∀ i, k i ≤ 10) : ∀ i, (flatK k i).length ≤ 10 * i
  | 0 => Nat.le_refl _
  | i + 1 => by
    have := flatK_length hk i
    have := hk i
    rw [flatK, List.length_append, List.length_replicate]
    omega
set_option maxHeartbeats 8000000 in
/-- sizes = [..] -/
theorem turn3 {led : List (Addr × Obj)} {oC : Obj} {tc : Nat} {vs : List Value} {ct : List Int} (G : LawCtx w loose mean mg mb dp un outer A₀ base h₀) (F : Fr h₀ L s.heap m)
    (N : News h₀ L s.heap ((L + 1 + 1 + 1, oC) :: (tc, tupOf vs) :: led)) (hoC : oC.data = .cell (some (.ref tc))) (hi : IntsAre vs ct) (hlen : ct.length ≤ 61) (hb : ∀ z ∈ ct, 0 ≤ z ∧ z ≤ 10)
    (hret : ∀ h' tk' (D : Nat) us, IntsAre us (flatK (cntN ct) ct.length) → Fr h₀ L h' (fun y => if y = Str.ofString "sizes" then some (.ref D) else m y) →
      News h₀ L h' ((D, listOf us.toArray us.length) :: (L + 1 + 1 + 1, oC) :: (tc, tupOf vs) :: led) → (∀ q ∈ (L + 1 + 1 + 1, oC) :: (tc, tupOf vs) :: led, q.1 ≠ D) → Q .next { s with heap := h', toks := tk' }) :
    wpAny (model Challenge.rw_pe0248_01.row.prog w) (lawAr dp un gd L a ccd outer) (exec (turnSt 3) (lawEnv L a ccd)) Q E s := by
  obtain ⟨B, X, T, hd, hu⟩ := G
  ((w_on; (have hfill : Challenge.rw_pe0248_01 = Challenge.rw_pe0248_01 ∧ Mine.hd.heap_1 = Mine.hd.heap_1 := by (k_fill; exact ⟨rfl, rfl⟩)); clear hfill))
  conv => arg 3; arg 1; whnf
  k_dflt (refine two_range (h₀ := h₀) (L := L) (m := m) (n := ct.length) (k := cntN ct) (news := (L + 1 + 1 + 1, oC) :: (tc, tupOf vs) :: led) rfl (by with_unfolding_all rfl) rfl rfl (by with_unfolding_all rfl) (by decide) rfl (by decide) rfl rfl (by decide) (by decide) rfl (by intro _; rfl) (by intro _ _; rfl) (by omega) ?hk ?hfl ?h1 ?h2 ?fin)
  case hk => exact fun i => Nat.le_trans (cntN_bound hb i).1 (by decide)
  case hfl => exact fun i hi => Nat.le_trans (flatK_length (fun j => (cntN_bound hb j).1) i) (by omega)
  case h1 =>
    k_steps
    have e : vs.toArray.size = ct.length := by rw [List.size_toArray]; exact hi.length
    refine len_tuple (items := vs.toArray) (News.isTup N (.tail _ (.head _))) (by rw [e]; omega) ?_
    rw [e]
    k_steps
    rename_i t1 u1 v1 hR F8 N8 k8
    exact ⟨_, t1, u1, v1, _, _, rfl, rfl, hR, F8, N8⟩
  case h2 =>
    intro i I oI C oC' D oD m2 t h tk E' hi' hC hx F7 N7 off
    k_steps
    rename_i t1 u1 v1 hR F8 N8 k8
    refine ⟨_, t1, u1, v1, _, _, rfl, rfl, ?_, F8, N8⟩
    rw [(cntN_bound hb i).2]
    exact hR
  case fin =>
    intro D h tk us hus F9 N9 off
    exact hret _ _ _ _ hus F9 N9 (off1_mem off)
end

local macro_rules | `(tactic| walk_at "execs cons") => `(tactic| (exfalso; omega))
section
variable {w : World} {loose : List Str} {mean : ExcName → Option Value} {mg mb : Str → Option Value} {dp un : Nat} {gd : Option (List Code)} {L : Nat} {a : Addr} {ccd : Value} {outer : List Env} {A₀ : Around} {base h₀ : Heap} {m : Str → Option Value} {s : Shared} {Q : Flow → Shared → Prop} {E : Value → Shared → Prop}

set_option maxHeartbeats 8000000 in
/-- if sizes != row or ..: return False -/
theorem turn4 {led : List (Addr × Obj)} {sz rw mk dk tp : Nat} {us vr : List Value} {n cr k : Nat} {r : List Int} {xt : Str} {R : WS} {J : WK} {t1 t2 : Tok} (G : LawCtx w loose mean mg mb dp un outer A₀ base h₀) (F : Fr h₀ L s.heap m)
    (m1 : m (Str.ofString "sizes") = some (.ref sz)) (m2 : m (Str.ofString "row") = some (.ref rw)) (m3 : m (Str.ofString "mark") = some (.ref mk)) (m4 : m (Str.ofString "taken") = some (.int k t1)) (m5 : m (Str.ofString "behind") = some (.int 0 t2))
    (N : News h₀ L s.heap ((sz, listOf us.toArray n) :: (rw, listOf vr.toArray cr) :: (mk, instObj 161 dk) :: (dk, wsO xt R J tp) :: led)) (hu1 : IntsAre us r) (hr1 : IntsAre vr r) (h1 : R.nt = k) (h2 : r.length = k) (h3 : k ≤ 10)
    (hret : ∀ h' tk', Fr h₀ L h' m → News h₀ L h' ((sz, listOf us.toArray n) :: (rw, listOf vr.toArray cr) :: (mk, instObj 161 dk) :: (dk, wsO xt R J tp) :: led) → Q .next { s with heap := h', toks := tk' }) :
    wpAny (model Challenge.rw_pe0248_01.row.prog w) (lawAr dp un gd L a ccd outer) (exec (turnSt 4) (lawEnv L a ccd)) Q E s := by
  obtain ⟨B, X, T, hd, hu⟩ := G
  subst h1
  ((w_on; (have hfill : Challenge.rw_pe0248_01 = Challenge.rw_pe0248_01 ∧ Mine.hd.heap_1 = Mine.hd.heap_1 := by (k_fill; exact ⟨rfl, rfl⟩)); clear hfill))
  conv => arg 3; arg 1; whnf
  k_steps
  exact hret _ _ F N

set_option maxHeartbeats 8000000 in
/-- if turn == enough: .. (another turn) -/
theorem turn5no {led : List (Addr × Obj)} {i e : Int} {t1 t2 : Tok} (G : LawCtx w loose mean mg mb dp un outer A₀ base h₀) (F : Fr h₀ L s.heap m)
    (m1 : m (Str.ofString "turn") = some (.int i t1)) (m2 : m (Str.ofString "enough") = some (.int e t2)) (hne : i ≠ e) (N : News h₀ L s.heap led)
    (hret : ∀ h' tk', Fr h₀ L h' m → News h₀ L h' led → Q .next { s with heap := h', toks := tk' }) :
    wpAny (model Challenge.rw_pe0248_01.row.prog w) (lawAr dp un gd L a ccd outer) (exec (turnSt 5) (lawEnv L a ccd)) Q E s := by
  obtain ⟨B, X, T, hd, hu⟩ := G
  ((w_on; (have hfill : Challenge.rw_pe0248_01 = Challenge.rw_pe0248_01 ∧ Mine.hd.heap_1 = Mine.hd.heap_1 := by (k_fill; exact ⟨rfl, rfl⟩)); clear hfill))
  conv => arg 3; arg 1; whnf
  k_steps
  exact hret _ _ (by assumption) (by assumption)

set_option maxHeartbeats 8000000 in
/-- if turn >= enough: .. (an earlier turn) -/
theorem turn6no {led : List (Addr × Obj)} {i e : Int} {t1 t2 : Tok} (G : LawCtx w loose mean mg mb dp un outer A₀ base h₀) (F : Fr h₀ L s.heap m)
    (m1 : m (Str.ofString "turn") = some (.int i t1)) (m2 : m (Str.ofString "enough") = some (.int e t2)) (hne : i < e) (N : News h₀ L s.heap led)
    (hret : ∀ h' tk', Fr h₀ L h' m → News h₀ L h' led → Q .next { s with heap := h', toks := tk' }) :
    wpAny (model Challenge.rw_pe0248_01.row.prog w) (lawAr dp un gd L a ccd outer) (exec (turnSt 6) (lawEnv L a ccd)) Q E s := by
  obtain ⟨B, X, T, hd, hu⟩ := G
  ((w_on; (have hfill : Challenge.rw_pe0248_01 = Challenge.rw_pe0248_01 ∧ Mine.hd.heap_1 = Mine.hd.heap_1 := by (k_fill; exact ⟨rfl, rfl⟩)); clear hfill))
  conv => arg 3; arg 1; whnf
  k_steps
  exact hret _ _ (by assumption) (by assumption)
end

section
variable {w : World} {loose : List Str} {mean : ExcName → Option Value} {mg mb : Str → Option Value} {dp un : Nat} {gd : Option (List Code)} {L : Nat} {a : Addr} {ccd : Value} {outer : List Env} {A₀ : Around} {base h₀ : Heap} {m : Str → Option Value} {s : Shared} {Q : Flow → Shared → Prop} {E : Value → Shared → Prop}
def fallOf (r : List Int) : List Int := r.reverse ++ List.replicate (4 - r.length) 0
def beadsOf (r : List Int) : List Int := (List.range (fallOf r).length).map fun i => (fallOf r).getD i 0 - 3 + (i : Int)

theorem beads_at {r : List Int} {j : Nat} (h : j < (fallOf r).length) : (beadsOf r)[j]? = some ((fallOf r).getD j 0 - 3 + (j : Int)) := by
  unfold beadsOf
  rw [List.getElem?_map, List.getElem?_range h]
  rfl
set_option maxHeartbeats 8000000 in
/-- if turn == enough: .. (that turn) -/
theorem turn5yes {led : List (Addr × Obj)} {sz : Nat} {us : List Value} {n : Nat} {e : Int} {t1 t2 : Tok} {oB oF : Obj} {r : List Int} (G : LawCtx w loose mean mg mb dp un outer A₀ base h₀) (F : Fr h₀ L s.heap m)
    (m1 : m (Str.ofString "turn") = some (.int e t1)) (m2 : m (Str.ofString "enough") = some (.int e t2)) (m3 : m (Str.ofString "sizes") = some (.ref sz))
    (N : News h₀ L s.heap ((L + 1 + 1, oB) :: (L + 1 + 1 + 1 + 1, oF) :: (sz, listOf us.toArray n) :: led)) (hoB : ∃ v, oB.data = .cell v) (hoF : ∃ v, oF.data = .cell v) (hi : IntsAre us r)
    (hn1 : ∀ q ∈ led, q.1 ≠ L + 1 + 1) (hn2 : ∀ q ∈ led, q.1 ≠ L + 1 + 1 + 1 + 1) (hsz1 : @Ne Nat sz (L + 1 + 1)) (hsz2 : @Ne Nat sz (L + 1 + 1 + 1 + 1)) (hlen : r.length ≤ 4) (hb : ∀ z ∈ r, 0 ≤ z ∧ z ≤ 10) (hok : ∀ z ∈ beadsOf r, z = 0 ∨ z = 1)
    (hret : ∀ h' tk' (bl : Nat) ys nb oB' oF', IntsAre ys (beadsOf r) → Fr h₀ L h' m → oB'.data = .cell (some (.ref bl)) → (∃ v, oF'.data = .cell v) →
      News h₀ L h' ((bl, listOf ys.toArray nb) :: (L + 1 + 1, oB') :: (L + 1 + 1 + 1 + 1, oF') :: (sz, listOf us.toArray n) :: led) → (∀ q ∈ (L + 1 + 1, oB) :: (L + 1 + 1 + 1 + 1, oF) :: (sz, listOf us.toArray n) :: led, q.1 ≠ bl) → Q .next { s with heap := h', toks := tk' }) :
    wpAny (model Challenge.rw_pe0248_01.row.prog w) (lawAr dp un gd L a ccd outer) (exec (turnSt 5) (lawEnv L a ccd)) Q E s := by
  obtain ⟨B, X, T, hd, hu⟩ := G
  obtain ⟨vB, hoB⟩ := hoB
  obtain ⟨vF, hoF⟩ := hoF
  ((w_on; (have hfill : Challenge.rw_pe0248_01 = Challenge.rw_pe0248_01 ∧ Mine.hd.heap_1 = Mine.hd.heap_1 := by (k_fill; exact ⟨rfl, rfl⟩)); clear hfill))
  conv => arg 3; arg 1; whnf
  k_steps
  rotate_left
  · rename_i hne
    exact absurd rfl hne
  refine Stop.out ?_
  rename_i fl wf g1 hfa lfa g2 oF' F2 N2 hoF2
  have hfall : r.reverse ++ (List.replicate (4 - (r.length : Int)).toNat [(0 : Int)]).flatten = fallOf r := by
    rw [flat_zeros, fallOf, show (4 - (r.length : Int)).toNat = 4 - r.length from by omega]
  rw [hfall] at hfa
  have N3 := news_sub (l' := (L + 1 + 1, oB) :: (fl, listOf wf.toArray 0) :: (L + 1 + 1 + 1 + 1, oF') :: (sz, listOf us.toArray n) :: led) N2 (fun q hq => by
    simp only [List.mem_cons] at hq ⊢
    rcases hq with h | h | h | h | h <;> simp [h])
  have hflL : (fallOf r).length = 4 := by unfold fallOf; rw [List.length_append, List.length_reverse, List.length_replicate]; omega
  have hfz := ltN lfa.2.2.2.2.2.1
  clear N2
  walk_at "exec Assign"
  k_dflt (refine LCg.ListComp_U (F₀ := by k_asm) (by with_unfolding_all rfl) (by decide) (by rfl) (by decide) (by rfl) ?_)
  k_steps
  refine Stop.out ?_
  rename_i g3 t3 u3 v3 hR F4 N4 k4
  clear k4
  refine LCg.CompSrc.range (n := (fallOf r).length) rfl F4 N4 hR (small_one (by omega) (by omega) (by omega) (by omega)) (rangeSize_nat _ _) (by rw [sizeLine_eq]; omega) fun g5 => rest_inv (fun j ys nw => nw = (L + 1 + 1, oB) :: (fl, listOf wf.toArray 0) :: (L + 1 + 1 + 1 + 1, oF') :: (sz, listOf us.toArray n) :: led ∧ IntsAre ys ((beadsOf r).take j)) ⟨rfl, .nil⟩ ?_ ?_
  · rintro j ys nw v I1 oI1 C1 oC1 D1 m2 h7 tk7 E' hj ⟨tv, rfl⟩ ⟨rfl, hys⟩ hC hx7 F7 N7 off ne
    dsimp only
    k_steps
    refine LCg.CompEnd.intro F7 N7 _ (by exact fun p hp => hp) off trivial ⟨rfl, ?_⟩
    rw [show (0 + (j : Int)).toNat = j from by omega, show (0 : Int) + (j : Int) = (j : Int) from by omega, List.take_add_one, beads_at hj]
    exact hys.append (.cons _ _ .nil)
  · rintro ys nw ⟨rfl, hys⟩
    intro bl h8 tk8 F8 N8 off8
    dsimp only
    rw [List.take_of_length_le (by unfold beadsOf; simp)] at hys
    simp only [LCg.Off1] at off8
    have hbL : (beadsOf r).length = 4 := by unfold beadsOf; simp [hflL]
    clear F4 hfa hR
    k_steps
    refine Stop.out ?_
    rename_i g6 oB' F6 N6 hoB' hx6
    clear hx6
    k_dflt (refine LCt.ListComp_T (F₀ := by k_asm) (by with_unfolding_all rfl) (by decide) (by rfl) (by decide) (by rfl) ?_)
    k_steps
    refine Stop.out ?_
    have hyL : ys.toArray.size = 4 := by rw [List.size_toArray, hys.length, hbL]
    refine LCt.CompSrcT.ledger rfl F6 N6 (.head _) (by rw [sizeLine_eq, hyL]; omega) fun g7 => rest_invT (fun j zs nw => zs = [] ∧ nw = (bl, LCg.lst ys) :: (L + 1 + 1, oB') :: (fl, listOf wf.toArray 0) :: (L + 1 + 1 + 1 + 1, oF') :: (sz, listOf us.toArray n) :: led) ⟨rfl, rfl⟩ ?_ ?_
    · rintro j zs nw v I1 oI1 C1 oC1 D1 m2 h7 tk7 E' hj hv ⟨rfl, rfl⟩ hC hx7 F7 N7 off ne
      dsimp only
      obtain ⟨z, tz, rfl, hz⟩ := hys.at j v (by simpa using hv)
      have hz1 := hok z (List.mem_of_getElem? hz)
      k_steps
      · rename_i D3 g8 F8 N8 l8 ha
        refine LCg.CompEnd.intro F8 N8 _ (by exact fun p hp => .tail _ hp) off (.inr ⟨_, .head _, rfl, _, rfl⟩) ⟨rfl, rfl⟩
      · rename_i ha
        exfalso
        rcases hz1 with rfl | rfl <;> simp at ha
    · rintro zs nw ⟨rfl, rfl⟩
      intro D h9 tk9 F9 N9 off9
      dsimp only
      k_steps
      rename_i l9 g9 F10 N10 l10
      refine hret _ _ bl ys ys.length oB' oF' hys F10 hoB' ⟨_, hoF2⟩ (news_sub N10 fun q hq => ?_) (fun q hq => ?_)
      · simp only [List.mem_cons] at hq ⊢
        rcases hq with h | h | h | h | h <;> simp [h]
      · simp only [List.mem_cons] at hq
        rcases hq with rfl | rfl | rfl | hq
        · exact off8.1
        · exact off8.2.2.1
        · exact off8.2.2.2.1
        · exact off1_mem off8.2.2.2.2 q hq
end

section
variable {w : World} {loose : List Str} {mean : ExcName → Option Value} {mg mb : Str → Option Value} {dp un : Nat} {gd : Option (List Code)} {L : Nat} {a : Addr} {ccd : Value} {outer : List Env} {A₀ : Around} {base h₀ : Heap} {m : Str → Option Value} {s : Shared} {Q : Flow → Shared → Prop} {E : Value → Shared → Prop}
/-- the sizes that the beads tell, the k-th of them on -/
def toldAt (bz : List Int) (i : Nat) : Int := 3 - (i : Int) + bz.getD i 0
def toldUp (bz : List Int) : Nat → List Nat
  | 0 => []
  | i + 1 => toldUp bz i ++ (if toldAt bz i ≠ 0 then [(toldAt bz i).toNat] else [])
def toldOf (bz : List Int) : List Nat := toldUp bz 4
def rotB (bz : List Int) : List Int := bz.drop 3 ++ bz.take 3

theorem getD_of {bz : List Int} (hz : ∀ z ∈ bz, z = 0 ∨ z = 1) (j : Nat) : bz.getD j 0 = 0 ∨ bz.getD j 0 = 1 := by
  rw [List.getD_eq_getElem?_getD]
  cases h : bz[j]? with
  | none => exact .inl rfl
  | some v => exact hz v (List.mem_of_getElem? h)
theorem toldUp_length (bz : List Int) : ∀ i, (toldUp bz i).length ≤ i
  | 0 => Nat.le_refl _
  | i + 1 => by
    have := toldUp_length bz i
    unfold toldUp
    rw [List.length_append]
    split <;> simp <;> omega
theorem toldUp_sum {bz : List Int} (hz : ∀ z ∈ bz, z = 0 ∨ z = 1) : ∀ i, (toldUp bz i).sum ≤ 4 * i
  | 0 => Nat.le_refl _
  | i + 1 => by
    have := toldUp_sum hz i
    have := getD_of hz i
    unfold toldUp
    rw [List.sum_append]
    split
    · simp only [List.sum_cons, List.sum_nil]
      unfold toldAt
      omega
    · simp only [List.sum_nil]; omega
theorem strs_one {x y : Str} {t : Tok} (h : x = y) : StrsAre [.str x t] [y] := h ▸ .cons _ _ .nil
theorem told_wd {k : Int} {bz : List Int} {j : Nat} (h0 : 0 ≤ k) (h : k = toldAt bz j) : Txt.mul (Str.ofString " ") k ++ Str.ofString "\t" = wd (toldAt bz j).toNat := by
  subst h
  have hn : toldAt bz j = (((toldAt bz j).toNat : Nat) : Int) := by omega
  rw [hn, mul_tab]
  rfl
theorem toldUp_yes {bz : List Int} {j : Nat} (h : toldAt bz j ≠ 0) : toldUp bz (j + 1) = toldUp bz j ++ [(toldAt bz j).toNat] := by rw [toldUp, if_pos h]
theorem toldUp_no {bz : List Int} {j : Nat} (h : toldAt bz j = 0) : toldUp bz (j + 1) = toldUp bz j := by rw [toldUp, if_neg (by omega), List.append_nil]
theorem wd_sum : ∀ c : List Nat, ((c.map wd).map (·.length)).sum = c.sum + c.length
  | [] => rfl
  | n :: c => by
    have h := wd_length n
    simp only [List.map_cons, List.sum_cons, List.length_cons, wd_sum c, h]
    omega
theorem join_wd (c : List Nat) : Txt.join (Str.ofString "") (c.map wd) = cat c := by
  rw [join_flat, cat, catL, List.flatMap_def]
  congr 2
  rw [List.map_map]
  congr 1
set_option maxHeartbeats 8000000 in
/-- if turn >= enough: .. (a later turn) -/
theorem turn6yes {led : List (Addr × Obj)} {mk dk tp tc bl : Nat} {vsc bs : List Value} {nb : Nat} {bz : List Int} {xt : Str} {R : WS} {J : WK} {i e : Int} {t1 t2 : Tok} {oB : Obj} (G : LawCtx w loose mean mg mb dp un outer A₀ base h₀) (F : Fr h₀ L s.heap m)
    (m1 : m (Str.ofString "turn") = some (.int i t1)) (m2 : m (Str.ofString "enough") = some (.int e t2)) (m3 : m (Str.ofString "mark") = some (.ref mk)) (hge : e ≤ i)
    (N : News h₀ L s.heap ((L + 1 + 1, oB) :: (bl, listOf bs.toArray nb) :: (tp, wsT R J tc) :: (tc, tupOf vsc) :: (mk, instObj 161 dk) :: (dk, wsO xt R J tp) :: led)) (hoB : oB.data = .cell (some (.ref bl))) (hi : IntsAre bs bz) (hc : IntsAre vsc R.count)
    (hz : ∀ z ∈ bz, z = 0 ∨ z = 1) (hlen : bz.length = 4) (hcl : R.count.length ≤ 61)
    (he : (wsRun (catL (toldOf bz))).count = R.count ∧ (wsRun (catL (toldOf bz))).b = R.b) (hn1 : ∀ q ∈ led, q.1 ≠ L + 1 + 1)
    (hret : ∀ h' tk' (b2 : Nat) ys nb' oB' xt2 t9, IntsAre ys (rotB bz) → Fr h₀ L h' (fun y => if y = Str.ofString "told" then some (.str xt2 t9) else m y) → oB'.data = .cell (some (.ref b2)) →
      News h₀ L h' ((L + 1 + 1, oB') :: (b2, listOf ys.toArray nb') :: led) → (∀ q ∈ led, q.1 < b2) → L + 1 + 1 < b2 → Q .next { s with heap := h', toks := tk' }) :
    wpAny (model Challenge.rw_pe0248_01.row.prog w) (lawAr dp un gd L a ccd outer) (exec (turnSt 6) (lawEnv L a ccd)) Q E s := by
  obtain ⟨B, X, T, hd, hu⟩ := G
  ((w_on; (have hfill : Challenge.rw_pe0248_01 = Challenge.rw_pe0248_01 ∧ Mine.hd.heap_1 = Mine.hd.heap_1 := by (k_fill; exact ⟨rfl, rfl⟩)); clear hfill))
  conv => arg 3; arg 1; whnf
  k_steps
  refine Stop.out ?_
  k_dflt (refine LCt.ListComp_T (F₀ := by k_asm) (by with_unfolding_all rfl) (by decide) (by rfl) (by decide) (by rfl) ?_)
  k_steps
  refine Stop.out ?_
  rename_i g3 t3 u3 v3 hR F3 N3 k3
  clear k3
  have hc : IntsAre vsc R.count := by assumption
  have hlt : (toldUp bz 4).length ≤ 4 := toldUp_length bz 4
  have hst := toldUp_sum hz 4
  refine LCt.CompSrcT.range (n := 4) rfl F3 N3 hR (by decide) (by decide) (by rw [sizeLine_eq]; omega) fun g7 => rest_invT (fun j ys nw => nw = (L + 1 + 1, oB) :: (bl, listOf bs.toArray nb) :: (tp, wsT R J tc) :: (tc, tupOf vsc) :: (mk, instObj 161 dk) :: (dk, wsO xt R J tp) :: led ∧ StrsAre ys ((toldUp bz j).map wd)) ⟨rfl, .nil⟩ ?_ ?_
  · rintro j ys nw v I1 oI1 C1 oC1 D1 m2' h7 tk7 E' hj ⟨tv, rfl⟩ ⟨rfl, hys⟩ hC hx7 F7 N7 off ne
    dsimp only
    have hzj : bz.getD (0 + (j : Int)).toNat 0 = 0 ∨ bz.getD (0 + (j : Int)).toNat 0 = 1 := by
      rw [show (0 + (j : Int)).toNat = j from by omega]
      exact getD_of hz j
    have hb0 : 0 ≤ bz.getD (0 + (j : Int)).toNat 0 := by omega
    have hb1 : bz.getD (0 + (j : Int)).toNat 0 ≤ 1 := by omega
    have htold : 3 - (0 + (j : Int)) + bz.getD (0 + (j : Int)).toNat 0 = toldAt bz j := by rw [toldAt, show (0 + (j : Int)).toNat = j from by omega]; omega
    k_steps
    · have hq : toldAt bz j ≠ 0 := fun e => (by assumption : 3 - (0 + (j : Int)) + bz.getD (0 + (j : Int)).toNat 0 ≠ 0) (htold.trans e)
      refine LCg.CompEnd.intro F7 N7 _ (by exact fun p hp => hp) off trivial ⟨rfl, ?_⟩
      rw [toldUp_yes hq, List.map_append]
      exact hys.append' (strs_one (told_wd (htold.symm ▸ (by omega : 0 ≤ toldAt bz j)) htold))
    · have hq : toldAt bz j = 0 := htold.symm.trans (by assumption)
      refine LCg.CompEnd.intro F7 N7 _ (by exact fun p hp => hp) off trivial ⟨rfl, ?_⟩
      rw [toldUp_no hq]
      exact hys
  · rintro ys nw ⟨rfl, hys⟩
    intro D h9 tk9 F9 N9 off9
    dsimp only
    k_steps
    show wpAny _ _ (call (Value.builtin "str.join") [Value.str (Str.ofString "") _, Value.ref D]) _ _ _
    refine join_listW ⟨_, (N9 _ (.head _)).1, rfl, _, rfl⟩ hys (by decide) ?hw ?_
    case hw =>
      rw [wd_sum, List.length_map]
      omega
    intro t9 k9
    rw [join_wd]
    have hws := cat_signs9 (toldOf bz)
    replace he : (wsRun (cat (toldOf bz)).cps.toList).count = R.count ∧ (wsRun (cat (toldOf bz)).cps.toList).b = R.b := he
    have hcz : (cat (toldOf bz)).cps.size ≤ 60 := by
      have h1 := cat_length (toldOf bz)
      have h2 : (toldOf bz).sum ≤ 16 := hst
      have h3 : (toldOf bz).length ≤ 4 := hlt
      unfold Str.length at h1
      omega
    rw [show toldUp bz 4 = toldOf bz from rfl]
    generalize cat (toldOf bz) = xt2 at *
    have N10 := news_sub N9 (fun q hq => List.Mem.tail _ hq)
    clear N9
    k_steps
    refine Stop.out ?_
    rename_i g10 F11 N11
    refine newWs ⟨B, X, T, hd, hu⟩ F11 N11 hws hcz ?_
    intro h' tk' J2 tp2 tc2 mk2 dk2 vsw hiw F12 N12 l1 l2 l3 l4
    k_steps
    refine Stop.out ?_
    rw [he.1] at hiw
    replace N12 : News h₀ L h' ((tp2, ({ cls := .type "tuple", data := .seq #[.ref tc2, .int R.b J2.tb] } : Obj)) :: (tc2, tupOf vsw) :: (mk2, instObj 161 dk2) :: (dk2, wsO xt2 (wsRun xt2.cps.toList) J2 tp2) :: (L + 1 + 1, oB) :: (bl, listOf bs.toArray nb) :: (tp, wsT R J tc) :: (tc, tupOf vsc) :: (mk, instObj 161 dk) :: (dk, wsO xt R J tp) :: led) := by rw [← he.2]; exact N12
    (k_dflt (refine' wpAny_call (wsEqual B F12 X T rfl ?k6 ?k7 N12 (List.mem_append_right [_, _, _, _, _, _, _, _] (.head _)) (List.mem_append_right [_, _, _, _, _, _, _, _, _] (.head _)) (List.mem_append_right [_, _, _, _, _, _] (.head _)) (List.mem_append_right [_, _, _, _, _, _, _] (.head _)) (.tail _ (.tail _ (.head _))) (.tail _ (.tail _ (.tail _ (.head _)))) (.head _) (.tail _ (.head _)) hc hiw hcl ?_); (case k6 => ktr_room); (case k7 => ktr_units)))
    intro h2 tk2 F13 N13
    dsimp only
    have N14 := news_sub N13 (fun q hq => List.mem_append_right [_, _, _, _] hq)
    clear N13 N12
    k_steps
    rename_i b2 ws2 g15 F15 N15 hI2 l15
    have hlt2 : L + 1 + 1 < b2 := ltN l15.2.2.1
    have hal : ∀ q ∈ led, q.1 < b2 := ktn_ltOf l15.2.2.2.2.2.2.2.2
    have hU : ∀ q ∈ (b2, listOf ws2.toArray 0) :: led, q.1 ≠ L + 1 + 1 := by
      simp only [List.forall_mem_cons]
      exact ⟨by refine neN ?_; omega, hn1⟩
    k_dflt (refine storeX_C F15 (news_sub (l' := (L + 1 + 1, oB) :: (b2, listOf ws2.toArray 0) :: led) N15 fun q hq => ?_) rfl (.head hU) hoB ?_ rfl rfl)
    · simp only [List.mem_cons] at hq ⊢
      rcases hq with h | h | h <;> simp [h]
    intro g16 oB' F16 N16 hoB'
    dsimp only
    k_steps
    exact hret _ _ b2 ws2 0 oB' xt2 t9 hI2 F16 hoB' N16 hal hlt2
end

local macro_rules | `(tactic| walk_at "subscriptTail Name Slice ref ref") => `(tactic| refine Stop.mk ?_)
section
variable {w : World} {loose : List Str} {mean : ExcName → Option Value} {mg mb : Str → Option Value} {dp un : Nat} {gd : Option (List Code)} {L : Nat} {a : Addr} {ccd : Value} {outer : List Env} {A₀ : Around} {base h₀ : Heap} {m : Str → Option Value} {s : Shared} {Q : Flow → Shared → Prop} {E : Value → Shared → Prop}
  {led : List (Addr × Obj)} {rs : Nat} {vr : List Value} {ns : List Int} {nr : Nat} {x : Int} {t1 t2 : Tok}

set_option maxHeartbeats 8000000 in
/-- place = bisect_right(rest, taken) -/
theorem turn7 (G : LawCtx w loose mean mg mb dp un outer A₀ base h₀) (F : Fr h₀ L s.heap m) (m1 : m (Str.ofString "rest") = some (.ref rs)) (m2 : m (Str.ofString "taken") = some (.int x t1))
    (N : News h₀ L s.heap ((rs, listOf vr.toArray nr) :: led)) (hi : IntsAre vr ns) (hlen : ns.length < 100) (hs : ns.Pairwise (· ≤ ·))
    (hret : ∀ h' tk' (r : Nat) t, r ≤ ns.length → (∀ i (h : i < ns.length), i < r ↔ ns[i] ≤ x) → Fr h₀ L h' (fun y => if y = Str.ofString "place" then some (.int r t) else m y) → News h₀ L h' ((rs, listOf vr.toArray nr) :: led) → Q .next { s with heap := h', toks := tk' }) :
    wpAny (model Challenge.rw_pe0248_01.row.prog w) (lawAr dp un gd L a ccd outer) (exec (turnSt 7) (lawEnv L a ccd)) Q E s := by
  obtain ⟨B, X, T, hd, hu⟩ := G
  ((w_on; (have hfill : Challenge.rw_pe0248_01 = Challenge.rw_pe0248_01 ∧ Mine.hd.heap_1 = Mine.hd.heap_1 := by (k_fill; exact ⟨rfl, rfl⟩)); clear hfill))
  conv => arg 3; arg 1; whnf
  k_steps
  refine Stop.out ?_
  (k_dflt (refine' wpAny_call (bisectR2 B F X T rfl ?k6 ?k7 N (.head _) hi hlen hs ?_); (case k6 => ktr_room); (case k7 => ktr_units)))
  intro r t h' tk' h1 h2 F1 N1
  dsimp only
  k_steps
  rename_i F2 N2
  exact hret _ _ r t h1 h2 F2 N2

set_option maxHeartbeats 8000000 in
/-- weight = weight - sum(rest[place:]) + taken * (len(rest) - place) -/
theorem turn8 {k r : Nat} {W : Int} {t3 : Tok} (G : LawCtx w loose mean mg mb dp un outer A₀ base h₀) (F : Fr h₀ L s.heap m) (m1 : m (Str.ofString "rest") = some (.ref rs)) (m2 : m (Str.ofString "taken") = some (.int k t1)) (m3 : m (Str.ofString "place") = some (.int r t2)) (m4 : m (Str.ofString "weight") = some (.int W t3))
    (N : News h₀ L s.heap ((rs, listOf vr.toArray nr) :: led)) (hi : IntsAre vr ns) (hlen : ns.length ≤ 20) (hk : k ≤ 20) (hr : r ≤ ns.length)
    (hret : ∀ h' tk' t, Fr h₀ L h' (fun y => if y = Str.ofString "weight" then some (.int (W - (ns.drop r).sum + (k : Int) * ((ns.length : Int) - (r : Int))) t) else m y) → News h₀ L h' ((rs, listOf vr.toArray nr) :: led) → Q .next { s with heap := h', toks := tk' }) :
    wpAny (model Challenge.rw_pe0248_01.row.prog w) (lawAr dp un gd L a ccd outer) (exec (turnSt 8) (lawEnv L a ccd)) Q E s := by
  obtain ⟨B, X, T, hd, hu⟩ := G
  ((w_on; (have hfill : Challenge.rw_pe0248_01 = Challenge.rw_pe0248_01 ∧ Mine.hd.heap_1 = Mine.hd.heap_1 := by (k_fill; exact ⟨rfl, rfl⟩)); clear hfill))
  conv => arg 3; arg 1; whnf
  k_steps
  refine Stop.out ?_
  refine' kmk_slice_ints F N ?l (IsPart.int _ _) IsPart.none hi (kmk_from hi (by omega : (0 : Int) ≤ (r : Int))) rfl ?_ ?s ?t ?z
  case l => exact News.isList N (.head _)
  case s => with_unfolding_all rfl
  case t => intro _; with_unfolding_all rfl
  case z => exact kmk_sz hi (by rw [sizeLine_eq]; omega)
  rw [Int.toNat_natCast]
  intro D ws h5 F6 N6 l6 hw6 _ hl6
  have hD := l6 _ (.head _)
  dsimp only at hD
  k_steps
  rename_i g5 tk5 t5 g6 F6 N6
  exact hret _ _ _ F6 (news_sub N6 fun q hq => .tail _ hq)

set_option maxHeartbeats 8000000 in
/-- insort_right(rest, taken) -/
theorem turn9 (G : LawCtx w loose mean mg mb dp un outer A₀ base h₀) (F : Fr h₀ L s.heap m) (m1 : m (Str.ofString "rest") = some (.ref rs)) (m2 : m (Str.ofString "taken") = some (.int x t1))
    (N : News h₀ L s.heap ((rs, listOf vr.toArray nr) :: led)) (hne : ∀ q ∈ led, q.1 ≠ rs) (hi : IntsAre vr ns) (hlen : ns.length < 100) (hs : ns.Pairwise (· ≤ ·))
    (hret : ∀ h' tk' vr' nr', IntsAre vr' (ins x ns) → Fr h₀ L h' m → News h₀ L h' ((rs, listOf vr'.toArray nr') :: led) → Q .next { s with heap := h', toks := tk' }) :
    wpAny (model Challenge.rw_pe0248_01.row.prog w) (lawAr dp un gd L a ccd outer) (exec (turnSt 9) (lawEnv L a ccd)) Q E s := by
  obtain ⟨B, X, T, hd, hu⟩ := G
  ((w_on; (have hfill : Challenge.rw_pe0248_01 = Challenge.rw_pe0248_01 ∧ Mine.hd.heap_1 = Mine.hd.heap_1 := by (k_fill; exact ⟨rfl, rfl⟩)); clear hfill))
  conv => arg 3; arg 1; whnf
  k_steps
  refine Stop.out ?_
  (k_dflt (refine' wpAny_call (insortR B F X T rfl ?k6 ?k7 N (.head hne) hi hlen hs ?_); (case k6 => ktr_room); (case k7 => ktr_units)))
  intro vr' nr' h' tk' h1 F1 N1
  dsimp only
  k_steps
  exact hret _ _ vr' nr' h1 F1 N1

set_option maxHeartbeats 8000000 in
/-- if _law_weight(rest) != weight: return False -/
theorem turn10 (G : LawCtx w loose mean mg mb dp un outer A₀ base h₀) (F : Fr h₀ L s.heap m) (m1 : m (Str.ofString "rest") = some (.ref rs)) (m2 : m (Str.ofString "weight") = some (.int (weightOf ns) t1))
    (N : News h₀ L s.heap ((rs, listOf vr.toArray nr) :: led)) (hi : IntsAre vr ns) (hlen : ns.length ≤ 20) (hb : ∀ n ∈ ns, 0 ≤ n ∧ n ≤ 20)
    (hret : ∀ h' tk', Fr h₀ L h' m → News h₀ L h' ((rs, listOf vr.toArray nr) :: led) → Q .next { s with heap := h', toks := tk' }) :
    wpAny (model Challenge.rw_pe0248_01.row.prog w) (lawAr dp un gd L a ccd outer) (exec (turnSt 10) (lawEnv L a ccd)) Q E s := by
  obtain ⟨B, X, T, hd, hu⟩ := G
  ((w_on; (have hfill : Challenge.rw_pe0248_01 = Challenge.rw_pe0248_01 ∧ Mine.hd.heap_1 = Mine.hd.heap_1 := by (k_fill; exact ⟨rfl, rfl⟩)); clear hfill))
  conv => arg 3; arg 1; whnf
  k_steps
  refine Stop.out ?_
  (k_dflt (refine' wpAny_call (lawWeight B F X T rfl ?k6 ?k7 N (.head _) hi hlen hb ?_); (case k6 => ktr_room); (case k7 => ktr_units)))
  intro t h' tk' F1 N1
  dsimp only
  k_steps
  exact hret _ _ F1 N1

set_option maxHeartbeats 8000000 in
/-- row = rest -/
theorem turn11 (G : LawCtx w loose mean mg mb dp un outer A₀ base h₀) (F : Fr h₀ L s.heap m) (m1 : m (Str.ofString "rest") = some (.ref rs)) (N : News h₀ L s.heap led)
    (hret : ∀ h' tk', Fr h₀ L h' (fun y => if y = Str.ofString "row" then some (.ref rs) else m y) → News h₀ L h' led → Q .next { s with heap := h', toks := tk' }) :
    wpAny (model Challenge.rw_pe0248_01.row.prog w) (lawAr dp un gd L a ccd outer) (exec (turnSt 11) (lawEnv L a ccd)) Q E s := by
  obtain ⟨B, X, T, hd, hu⟩ := G
  ((w_on; (have hfill : Challenge.rw_pe0248_01 = Challenge.rw_pe0248_01 ∧ Mine.hd.heap_1 = Mine.hd.heap_1 := by (k_fill; exact ⟨rfl, rfl⟩)); clear hfill))
  conv => arg 3; arg 1; whnf
  k_steps
  rename_i F2 N2
  exact hret _ _ F2 N2
end

section
variable {w : World} {loose : List Str} {mean : ExcName → Option Value} {mg mb : Str → Option Value} {dp un : Nat} {gd : Option (List Code)} {L : Nat} {a : Addr} {ccd : Value} {outer : List Env} {A₀ : Around} {base h₀ : Heap} {m : Str → Option Value} {s : Shared} {Q : Flow → Shared → Prop} {E : Value → Shared → Prop}
def WsOk (c : List Nat) : Prop := flatK (cntN (wsRun (catL c)).count) (wsRun (catL c)).count.length = rowOf c ∧ (wsRun (catL c)).nt = c.length ∧ (wsRun (catL c)).b = 0 ∧ (∀ z ∈ (wsRun (catL c)).count, 0 ≤ z ∧ z ≤ 10)
theorem turnBody_is : turnBody = [turnSt 0, turnSt 1, turnSt 2, turnSt 3, turnSt 4, turnSt 5, turnSt 6, turnSt 7, turnSt 8, turnSt 9, turnSt 10, turnSt 11] := by rfl
/-- behind the first five statements of a turn -/
inductive TH (h₀ : Heap) (L : Nat) (m : Str → Option Value) (c : List Nat) (pb : Nat) (oB oF : Obj) (bl : Nat) (obl : Obj) (led : List (Addr × Obj)) (h : Heap) : Prop
  | mk (m' : Str → Option Value) (rs sz mk dk tp tc nr nn nu : Nat) (vr vs us vsc : List Value) (J : WK) (t1 : Tok) (oC : Obj)
      (hs : StrsAre vs ((turn c).map wd ++ [dot])) (hr : IntsAre vr (rowOf (left c))) (hu : IntsAre us (rowOf c)) (hc : IntsAre vsc (wsRun (catL c)).count)
      (F : Fr h₀ L h m') (m1 : m' (Str.ofString "sizes") = some (.ref sz)) (m2 : m' (Str.ofString "mark") = some (.ref mk)) (m3 : m' (Str.ofString "rest") = some (.ref rs)) (m4 : m' (Str.ofString "taken") = some (.int c.length t1))
      (m5 : ∀ z, [Str.ofString "sizes", Str.ofString "mark", Str.ofString "rest", Str.ofString "taken", Str.ofString "lead", Str.ofString "behind"].contains z = false → m' z = m z)
      (N : News h₀ L h ((L + 1 + 1, oB) :: (L + 1 + 1 + 1 + 1, oF) :: (sz, listOf us.toArray nu) :: (bl, obl) :: (tp, wsT (wsRun (catL c)) J tc) :: (tc, tupOf vsc) :: (mk, instObj 161 dk) :: (dk, wsO (cat c) (wsRun (catL c)) J tp) :: (rs, listOf vr.toArray nr) :: (pb, listOf vs.toArray nn) :: (L + 1 + 1 + 1, oC) :: led))
      (hoC : ∃ v, oC.data = .cell v) (d1 : @Ne Nat sz (L + 1 + 1)) (d2 : @Ne Nat sz (L + 1 + 1 + 1 + 1)) (d3 : pb < rs ∧ rs < dk ∧ dk < mk ∧ mk < tc ∧ tc < tp) (d4 : ∀ q ∈ led, q.1 < rs) (d5 : bl < rs)

set_option maxHeartbeats 8000000 in
theorem turnHead {c : List Nat} {x pb rw bl : Nat} {vs vr : List Value} {nn cr : Nat} {led : List (Addr × Obj)} {oL oB oC oF obl : Obj} (G : LawCtx w loose mean mg mb dp un outer A₀ base h₀) (F : Fr h₀ L s.heap m) (m1 : m (Str.ofString "row") = some (.ref rw))
    (N : News h₀ L s.heap ((rw, listOf vr.toArray cr) :: (pb, listOf vs.toArray nn) :: (L + 1 + 1, oB) :: (L + 1 + 1 + 1, oC) :: (L + 1 + 1 + 1 + 1, oF) :: (bl, obl) :: led))
    (hpos : ∀ n ∈ c, 1 ≤ n) (h7 : 7 ≤ c.sum) (h10 : c.sum ≤ 10) (hv : StrsAre vs (c.map wd ++ [dot])) (hr : IntsAre vr (rowOf c)) (hw : WsOk c) (hoC : ∃ v, oC.data = .cell v)
    (n1 : ∀ q ∈ led, q.1 ≠ pb ∧ q.1 ≠ L + 1 + 1 ∧ q.1 ≠ L + 1 + 1 + 1 ∧ q.1 ≠ L + 1 + 1 + 1 + 1) (n2 : L + 1 + 1 + 1 + 1 < pb) (n3 : pb < rw) (n4 : @Ne Nat bl pb ∧ @Ne Nat bl (L + 1 + 1 + 1)) (hL : (L + 1, oL) ∈ led) (hoL : oL.data = .cell (some (.ref x))) (hx : LexIn led x pb)
    (hret : ∀ h' tk', TH h₀ L m c pb oB oF bl obl led h' → wpAny (model Challenge.rw_pe0248_01.row.prog w) (lawAr dp un gd L a ccd outer) (execs [turnSt 5, turnSt 6, turnSt 7, turnSt 8, turnSt 9, turnSt 10, turnSt 11] (lawEnv L a ccd)) Q E { s with heap := h', toks := tk' }) :
    wpAny (model Challenge.rw_pe0248_01.row.prog w) (lawAr dp un gd L a ccd outer) (execs turnBody (lawEnv L a ccd)) Q E s := by
  obtain ⟨w1, w2, w3, w4⟩ := hw
  have hlc : c.length ≤ 10 := by have := len_le_sum hpos; omega
  have hne0 : c ≠ [] := fun e => by rw [e] at h7; simp at h7
  have hct : (wsRun (catL c)).count.length ≤ 61 := by have h1 := (wsRun_bound (catL c)).2.2.2; have h2 := catL_length c; omega
  obtain ⟨dx, K, ln, tl, st, x1, x2, x3⟩ := hx
  rw [turnBody_is]
  refine wpAny_execs_cons (turn0 (nn := nn) (led := (rw, listOf vr.toArray cr) :: (L + 1 + 1, oB) :: (L + 1 + 1 + 1, oC) :: (L + 1 + 1 + 1 + 1, oF) :: (bl, obl) :: led) (pb := pb) G F (news_pick N [1, 0, 2, 3, 4, 5] 6) ?a0 ⟨dx, K, ln, tl, st, List.mem_append_right [_, _, _, _, _] x1, List.mem_append_right [_, _, _, _, _] x2, x3.imp fun _ q => List.mem_append_right [_, _, _, _, _] q⟩ (List.mem_append_right [_, _, _, _, _] hL) hoL hv hpos h10 hne0 ?_)
  case a0 =>
    simp only [List.forall_mem_cons]
    exact ⟨by refine neN ?_; omega, by refine neN ?_; omega, by refine neN ?_; omega, by refine neN ?_; omega, by refine neN ?_; omega, fun q hq => (n1 q hq).1⟩
  intro vs1 nn1 h1 tk1 rs vr1 nr1 t2 t3 hs1 hr1 F1 N1 l1 l2
  have l3 := ltN (l1 _ (.head _))
  have l4 := ltN (l1 (bl, obl) (.tail _ (.tail _ (.tail _ (.tail _ (.head _))))))
  have l5 : ∀ q ∈ led, q.1 < rs := fun q hq => l1 q (List.mem_append_right [_, _, _, _, _] hq)
  clear l1 N F
  dsimp only at l3 l4 ⊢
  refine wpAny_execs_cons (turn1 (xt := cat c) G F1 rfl N1 (cat_signs9 c) ?a1 ?_)
  case a1 =>
    have := cat_length c
    unfold Str.length at this
    omega
  intro h2 tk2 J tp tc mk dk vsc hc F2 N2 k1 k2 k3 k4
  have hcat : (cat c).cps.toList = catL c := rfl
  rw [hcat] at hc N2
  have k5 := ltN (k1 _ (.head _))
  clear k1 N1 F1
  dsimp only at k5 ⊢
  refine wpAny_execs_cons (turn2 (xt := cat c) (R := wsRun (catL c)) (J := J) (tp := tp) (tc := tc) (mk := mk) (dk := dk) (oC := oC) (led := (tc, tupOf vsc) :: (rs, listOf vr1.toArray nr1) :: (pb, listOf vs1.toArray nn1) :: (rw, listOf vr.toArray cr) :: (L + 1 + 1, oB) :: (L + 1 + 1 + 1 + 1, oF) :: (bl, obl) :: led) G F2 rfl (news_pick N2 [8, 0, 2, 3, 1, 4, 5, 6, 7, 9, 10] 11) hoC ?a2 ?b2 k2 ?c2 ?_)
  case b2 => omega
  case c2 => omega
  case a2 =>
    simp only [List.forall_mem_cons]
    exact ⟨by refine neN ?_; omega, by refine neN ?_; omega, by refine neN ?_; omega, by refine neN ?_; omega, by refine neN ?_; omega, by refine neN ?_; omega, by refine neN ?_; omega, fun q hq => (n1 q hq).2.2.1⟩
  intro h3 tk3 oC' hoC' F3 N3
  clear N2 F2
  dsimp only
  refine wpAny_execs_cons (turn3 (oC := oC') (tc := tc) (vs := vsc) (led := (tp, wsT (wsRun (catL c)) J tc) :: (mk, instObj 161 dk) :: (dk, wsO (cat c) (wsRun (catL c)) J tp) :: (rs, listOf vr1.toArray nr1) :: (pb, listOf vs1.toArray nn1) :: (rw, listOf vr.toArray cr) :: (L + 1 + 1, oB) :: (L + 1 + 1 + 1 + 1, oF) :: (bl, obl) :: led) G F3 (news_pick N3 [0, 4, 1, 2, 3, 5, 6, 7, 8, 9, 10] 11) hoC' hc hct w4 ?_)
  intro h4 tk4 sz us hus F4 N4 k6
  have e1 := k6 (L + 1 + 1, oB) (List.mem_append_right [_, _, _, _, _, _, _, _] (.head _))
  have e2 := k6 (L + 1 + 1 + 1 + 1, oF) (List.mem_append_right [_, _, _, _, _, _, _, _, _] (.head _))
  clear k6 N3 F3
  dsimp only at e1 e2 ⊢
  rw [w1] at hus
  refine wpAny_execs_cons (turn4 (sz := sz) (rw := rw) (mk := mk) (dk := dk) (tp := tp) (xt := cat c) (J := J) (k := c.length) (r := rowOf c) (us := us) (n := us.length) (vr := vr) (cr := cr) (R := wsRun (catL c)) (t2 := J.tb) (led := (L + 1 + 1, oB) :: (L + 1 + 1 + 1 + 1, oF) :: (bl, obl) :: (tp, wsT (wsRun (catL c)) J tc) :: (tc, tupOf vsc) :: (rs, listOf vr1.toArray nr1) :: (pb, listOf vs1.toArray nn1) :: (L + 1 + 1 + 1, oC') :: led) G F4 rfl m1 rfl rfl ?a4 (news_pick N4 [0, 8, 4, 5, 9, 10, 11, 3, 2, 6, 7, 1] 12) hus hr w2 (rowOf_length c) hlc ?_)
  case a4 =>
    show some (Value.int ((wsRun (catL c)).b : Nat) J.tb) = _
    rw [w3]
    rfl
  intro h5 tk5 F5 N5
  clear N4 F4
  dsimp only
  refine hret _ _ (TH.mk _ rs sz mk dk tp tc nr1 nn1 us.length vr1 vs1 us vsc J t3 oC' hs1 hr1 hus hc F5 rfl rfl rfl rfl ?_ (news_pick N5 [4, 5, 0, 6, 7, 8, 2, 3, 9, 10, 11] 12) ⟨_, hoC'⟩ (fun e => e1 e.symm) (fun e => e2 e.symm) ⟨l2, k5, k2, k3, k4⟩ l5 l4)
  · intro z hz
    simp only [List.contains_cons, List.contains_nil, Bool.or_false, Bool.or_eq_false_iff, beq_eq_false_iff_ne] at hz
    obtain ⟨z1, z2, z3, z4, z5, z6⟩ := hz
    simp only [z1, z2, z3, z4, z5, z6, if_false]
end

section
variable {w : World} {loose : List Str} {mean : ExcName → Option Value} {mg mb : Str → Option Value} {dp un : Nat} {gd : Option (List Code)} {L : Nat} {a : Addr} {ccd : Value} {outer : List Env} {A₀ : Around} {base h₀ : Heap} {m : Str → Option Value} {s : Shared} {Q : Flow → Shared → Prop} {E : Value → Shared → Prop}
/-- behind the beads' part of a turn -/
inductive TM (h₀ : Heap) (L : Nat) (m : Str → Option Value) (c : List Nat) (pb : Nat) (bzO : List Int → Prop) (led : List (Addr × Obj)) (h : Heap) : Prop
  | mk (m' : Str → Option Value) (rs nr nn nb bl : Nat) (vr vs bv : List Value) (bz : List Int) (t1 : Tok) (oB oC oF : Obj)
      (hs : StrsAre vs ((turn c).map wd ++ [dot])) (hr : IntsAre vr (rowOf (left c))) (hb : bzO bz ∧ IntsAre bv bz ∨ ∀ bz, ¬ bzO bz)
      (F : Fr h₀ L h m') (m3 : m' (Str.ofString "rest") = some (.ref rs)) (m4 : m' (Str.ofString "taken") = some (.int c.length t1))
      (m5 : ∀ z, [Str.ofString "sizes", Str.ofString "mark", Str.ofString "rest", Str.ofString "taken", Str.ofString "lead", Str.ofString "behind", Str.ofString "told"].contains z = false → m' z = m z)
      (N : News h₀ L h ((rs, listOf vr.toArray nr) :: (pb, listOf vs.toArray nn) :: (L + 1 + 1, oB) :: (L + 1 + 1 + 1, oC) :: (L + 1 + 1 + 1 + 1, oF) :: (bl, listOf bv.toArray nb) :: led))
      (hoB : oB.data = .cell (some (.ref bl))) (hoC : ∃ v, oC.data = .cell v) (hoF : ∃ v, oF.data = .cell v)
      (d3 : pb < rs) (d4 : ∀ q ∈ led, q.1 < rs) (d5 : @Ne Nat bl pb ∧ @Ne Nat bl (L + 1 + 1) ∧ @Ne Nat bl (L + 1 + 1 + 1) ∧ @Ne Nat bl (L + 1 + 1 + 1 + 1) ∧ @Ne Nat bl rs) (d6 : ∀ q ∈ led, q.1 ≠ bl)

set_option maxHeartbeats 8000000 in
theorem turnMid {c : List Nat} {i en : Nat} {pb bl nb : Nat} {bv : List Value} {bz : List Int} {led : List (Addr × Obj)} {oB oF : Obj} {ti te : Tok} (G : LawCtx w loose mean mg mb dp un outer A₀ base h₀)
    (P : TH h₀ L m c pb oB oF bl (listOf bv.toArray nb) led s.heap) (i1 : m (Str.ofString "turn") = some (.int i ti)) (i2 : m (Str.ofString "enough") = some (.int en te))
    (hpos : ∀ n ∈ c, 1 ≤ n) (h10 : c.sum ≤ 10) (hoB : oB.data = .cell (some (.ref bl))) (hoF : ∃ v, oF.data = .cell v)
    (hA : i = en → (rowOf c).length ≤ 4 ∧ bz = beadsOf (rowOf c)) (hB : en < i → IntsAre bv bz)
    (hC : en ≤ i → (∀ z ∈ bz, z = 0 ∨ z = 1) ∧ bz.length = 4 ∧ (wsRun (catL (toldOf bz))).count = (wsRun (catL c)).count ∧ (wsRun (catL (toldOf bz))).b = (wsRun (catL c)).b)
    (n1 : ∀ q ∈ led, q.1 ≠ pb ∧ q.1 ≠ L + 1 + 1 ∧ q.1 ≠ L + 1 + 1 + 1 ∧ q.1 ≠ L + 1 + 1 + 1 + 1) (n2 : L + 1 + 1 + 1 + 1 < pb)
    (n5 : @Ne Nat bl pb ∧ @Ne Nat bl (L + 1 + 1) ∧ @Ne Nat bl (L + 1 + 1 + 1) ∧ @Ne Nat bl (L + 1 + 1 + 1 + 1)) (n6 : ∀ q ∈ led, q.1 ≠ bl)
    (hret : ∀ h' tk', TM h₀ L m c pb (fun b => en ≤ i ∧ b = rotB bz) led h' → wpAny (model Challenge.rw_pe0248_01.row.prog w) (lawAr dp un gd L a ccd outer) (execs [turnSt 7, turnSt 8, turnSt 9, turnSt 10, turnSt 11] (lawEnv L a ccd)) Q E { s with heap := h', toks := tk' }) :
    wpAny (model Challenge.rw_pe0248_01.row.prog w) (lawAr dp un gd L a ccd outer) (execs [turnSt 5, turnSt 6, turnSt 7, turnSt 8, turnSt 9, turnSt 10, turnSt 11] (lawEnv L a ccd)) Q E s := by
  obtain ⟨m', rs, sz, mk, dk, tp, tc, nr, nn, nu, vr, vs, us, vsc, J, t1, oC, hs, hr, hu, hc, F, m1, m2, m3, m4, m5, N, hoC, d1, d2, d3, d4, d5⟩ := P
  have j1 : m' (Str.ofString "turn") = some (.int i ti) := (m5 _ (by decide)).trans i1
  have j2 : m' (Str.ofString "enough") = some (.int en te) := (m5 _ (by decide)).trans i2
  have m6 : ∀ z, [Str.ofString "sizes", Str.ofString "mark", Str.ofString "rest", Str.ofString "taken", Str.ofString "lead", Str.ofString "behind", Str.ofString "told"].contains z = false → m' z = m z := fun z hz => m5 z (by
    simp only [List.contains_cons, List.contains_nil, Bool.or_false, Bool.or_eq_false_iff] at hz ⊢
    obtain ⟨z1, z2, z3, z4, z5, z6, z7⟩ := hz
    exact ⟨z1, z2, z3, z4, z5, z6⟩)
  have hcl : (wsRun (catL c)).count.length ≤ 61 := by have h1 := (wsRun_bound (catL c)).2.2.2; have h2 := catL_length c; have h3 := len_le_sum hpos; omega
  -- the later part, from a known list of beads on
  have later : ∀ (bl : Nat) (bv : List Value) (nb : Nat) (oB oF : Obj) (h' : Heap) (tk' : Nat), en ≤ i → oB.data = .cell (some (.ref bl)) → (∃ v, oF.data = .cell v) → IntsAre bv bz → Fr h₀ L h' m' →
      News h₀ L h' ((L + 1 + 1, oB) :: (bl, listOf bv.toArray nb) :: (tp, wsT (wsRun (catL c)) J tc) :: (tc, tupOf vsc) :: (mk, instObj 161 dk) :: (dk, wsO (cat c) (wsRun (catL c)) J tp) :: (L + 1 + 1 + 1 + 1, oF) :: (rs, listOf vr.toArray nr) :: (pb, listOf vs.toArray nn) :: (L + 1 + 1 + 1, oC) :: led) →
      wpAny (model Challenge.rw_pe0248_01.row.prog w) (lawAr dp un gd L a ccd outer) (execs [turnSt 6, turnSt 7, turnSt 8, turnSt 9, turnSt 10, turnSt 11] (lawEnv L a ccd)) Q E { s with heap := h', toks := tk' } := by
    intro bl bv nb oB oF h' tk' hge hoB hoF hbv F N
    obtain ⟨c1, c2, c3⟩ := hC hge
    refine wpAny_execs_cons (turn6yes (led := (L + 1 + 1 + 1 + 1, oF) :: (rs, listOf vr.toArray nr) :: (pb, listOf vs.toArray nn) :: (L + 1 + 1 + 1, oC) :: led) G F j1 j2 m2 (by omega) N hoB hbv hc c1 c2 hcl c3 ?_ ?_)
    · simp only [List.forall_mem_cons]
      exact ⟨by refine neN ?_; omega, by refine neN ?_; omega, by refine neN ?_; omega, by refine neN ?_; omega, fun q hq => (n1 q hq).2.1⟩
    intro h2 tk2 b2 ys nb' oB' xt2 t9 hys F2 hoB' N2 k1 k2
    have k3 := ltN (k1 _ (.head _))
    have k4 := ltN (k1 _ (.tail _ (.head _)))
    have k5 := ltN (k1 _ (.tail _ (.tail _ (.head _))))
    have k6 := ltN (k1 _ (.tail _ (.tail _ (.tail _ (.head _)))))
    have k7 : ∀ q ∈ led, q.1 < b2 := fun q hq => k1 q (List.mem_append_right [_, _, _, _] hq)
    clear N F k1
    dsimp only at k3 k4 k5 k6 ⊢
    refine hret _ _ (TM.mk _ rs nr nn nb' b2 vr vs ys (rotB bz) t1 oB' oC oF hs hr (.inl ⟨⟨hge, rfl⟩, hys⟩) F2 m3 m4 ?_ (news_pick N2 [3, 4, 0, 5, 2, 1] 6) hoB' hoC hoF d3.1 d4 ⟨by omega, by omega, by omega, by omega, by omega⟩ fun q hq => Nat.ne_of_lt (k7 q hq))
    · intro z hz
      have hz' := m6 z hz
      simp only [List.contains_cons, List.contains_nil, Bool.or_false, Bool.or_eq_false_iff, beq_eq_false_iff_ne] at hz
      rw [← hz']
      simp only [hz.2.2.2.2.2.2, if_false]
  by_cases hie : i = en
  · obtain ⟨a1, a2⟩ := hA hie
    have hrb := row_bound hpos h10
    have hc1 := (hC (by omega)).1
    rw [a2] at hc1
    refine wpAny_execs_cons (turn5yes (sz := sz) (us := us) (n := nu) (led := (bl, listOf bv.toArray nb) :: (tp, wsT (wsRun (catL c)) J tc) :: (tc, tupOf vsc) :: (mk, instObj 161 dk) :: (dk, wsO (cat c) (wsRun (catL c)) J tp) :: (rs, listOf vr.toArray nr) :: (pb, listOf vs.toArray nn) :: (L + 1 + 1 + 1, oC) :: led) (e := (i : Int)) G F j1 (by rw [hie]; exact j2) m1 N ⟨_, hoB⟩ hoF hu ?_ ?_ d1 d2 a1 ?_ hc1 ?_)
    · simp only [List.forall_mem_cons]
      exact ⟨n5.2.1, by refine neN ?_; omega, by refine neN ?_; omega, by refine neN ?_; omega, by refine neN ?_; omega, by refine neN ?_; omega, by refine neN ?_; omega, by refine neN ?_; omega, fun q hq => (n1 q hq).2.1⟩
    · simp only [List.forall_mem_cons]
      exact ⟨n5.2.2.2, by refine neN ?_; omega, by refine neN ?_; omega, by refine neN ?_; omega, by refine neN ?_; omega, by refine neN ?_; omega, by refine neN ?_; omega, by refine neN ?_; omega, fun q hq => (n1 q hq).2.2.2⟩
    · intro z hz
      obtain ⟨k, hk, rfl⟩ := List.mem_map.mp ((rowOf_perm c).mem_iff.mp hz)
      have := mem_le_sum hk
      omega
    intro h2 tk2 bl2 ys nb2 oB2 oF2 hys F2 hoB2 hoF2 N2 k1
    clear N F
    dsimp only
    refine later bl2 ys nb2 oB2 oF2 h2 tk2 (by omega) hoB2 hoF2 (by rw [a2]; exact hys) F2 (news_pick N2 [1, 0, 5, 6, 7, 8, 2, 9, 10, 11] 12)
  · refine wpAny_execs_cons (turn5no G F j1 j2 (by omega) N ?_)
    intro h2 tk2 F2 N2
    clear N F
    dsimp only
    by_cases hlt : i < en
    · refine wpAny_execs_cons (turn6no G F2 j1 j2 (by omega) N2 ?_)
      intro h3 tk3 F3 N3
      clear N2 F2
      dsimp only
      refine hret _ _ (TM.mk _ rs nr nn nb bl vr vs bv bz t1 oB oC oF hs hr (.inr fun b hb => by omega) F3 m3 m4 m6 (news_pick N3 [8, 9, 0, 10, 1, 3] 11) hoB hoC hoF d3.1 d4 ⟨n5.1, n5.2.1, n5.2.2.1, n5.2.2.2, by omega⟩ n6)
    · refine later bl bv nb oB oF h2 tk2 (by omega) hoB hoF (hB (by omega)) F2 (news_pick N2 [0, 3, 4, 5, 6, 7, 1, 8, 9, 10] 11)
end

section
variable {w : World} {loose : List Str} {mean : ExcName → Option Value} {mg mb : Str → Option Value} {dp un : Nat} {gd : Option (List Code)} {L : Nat} {a : Addr} {ccd : Value} {outer : List Env} {A₀ : Around} {base h₀ : Heap} {m : Str → Option Value} {s : Shared} {Q : Flow → Shared → Prop} {E : Value → Shared → Prop}
def turnNames : List Str := [Str.ofString "row", Str.ofString "weight", Str.ofString "place", Str.ofString "sizes", Str.ofString "mark", Str.ofString "rest", Str.ofString "taken", Str.ofString "lead", Str.ofString "behind", Str.ofString "told"]
def WeighOk (c : List Nat) : Prop := ∀ r : Nat, r ≤ (rowOf (left c)).length → (∀ i (h : i < (rowOf (left c)).length), i < r ↔ (rowOf (left c))[i] ≤ (c.length : Int)) →
  weightOf (rowOf c) - ((rowOf (left c)).drop r).sum + (c.length : Int) * (((rowOf (left c)).length : Int) - (r : Int)) = weightOf (rowOf (turn c))
/-- the turn's end -/
inductive TE (h₀ : Heap) (L : Nat) (m : Str → Option Value) (c : List Nat) (pb : Nat) (bzO : List Int → Prop) (led : List (Addr × Obj)) (h : Heap) : Prop
  | mk (m' : Str → Option Value) (rs nr nn nb bl : Nat) (vr vs bv : List Value) (bz : List Int) (t1 : Tok) (oB oC oF : Obj)
      (hs : StrsAre vs ((turn c).map wd ++ [dot])) (hr : IntsAre vr (rowOf (turn c))) (hb : bzO bz ∧ IntsAre bv bz ∨ ∀ bz, ¬ bzO bz)
      (F : Fr h₀ L h m') (m3 : m' (Str.ofString "row") = some (.ref rs)) (m4 : m' (Str.ofString "weight") = some (.int (weightOf (rowOf (turn c))) t1))
      (m5 : ∀ z, turnNames.contains z = false → m' z = m z)
      (N : News h₀ L h ((rs, listOf vr.toArray nr) :: (pb, listOf vs.toArray nn) :: (L + 1 + 1, oB) :: (L + 1 + 1 + 1, oC) :: (L + 1 + 1 + 1 + 1, oF) :: (bl, listOf bv.toArray nb) :: led))
      (hoB : oB.data = .cell (some (.ref bl))) (hoC : ∃ v, oC.data = .cell v) (hoF : ∃ v, oF.data = .cell v)
      (d3 : pb < rs) (d4 : ∀ q ∈ led, q.1 < rs) (d5 : @Ne Nat bl pb ∧ @Ne Nat bl (L + 1 + 1) ∧ @Ne Nat bl (L + 1 + 1 + 1) ∧ @Ne Nat bl (L + 1 + 1 + 1 + 1)) (d6 : ∀ q ∈ led, q.1 ≠ bl)

set_option maxHeartbeats 8000000 in
theorem turnTail {c : List Nat} {pb : Nat} {bzO : List Int → Prop} {led : List (Addr × Obj)} {tw : Tok} (G : LawCtx w loose mean mg mb dp un outer A₀ base h₀) (P : TM h₀ L m c pb bzO led s.heap)
    (i1 : m (Str.ofString "weight") = some (.int (weightOf (rowOf c)) tw)) (hpos : ∀ n ∈ c, 1 ≤ n) (h10 : c.sum ≤ 10) (n2 : L + 1 + 1 + 1 + 1 < pb) (hw : WeighOk c)
    (ht : (∀ n ∈ turn c, 1 ≤ n) ∧ (turn c).sum ≤ 10)
    (hret : ∀ h' tk', TE h₀ L m c pb bzO led h' → Q .next { s with heap := h', toks := tk' }) :
    wpAny (model Challenge.rw_pe0248_01.row.prog w) (lawAr dp un gd L a ccd outer) (execs [turnSt 7, turnSt 8, turnSt 9, turnSt 10, turnSt 11] (lawEnv L a ccd)) Q E s := by
  obtain ⟨m', rs, nr, nn, nb, bl, vr, vs, bv, bz, t1, oB, oC, oF, hs, hr, hb, F, m3, m4, m5, N, hoB, hoC, hoF, d3, d4, d5, d6⟩ := P
  have j1 : m' (Str.ofString "weight") = some (.int (weightOf (rowOf c)) tw) := (m5 _ (by decide)).trans i1
  have hlc : c.length ≤ 10 := by have := len_le_sum hpos; omega
  have hll : (rowOf (left c)).length ≤ 10 := by
    rw [rowOf_length]
    have : (left c).length ≤ c.length := by unfold left; rw [List.length_map]; exact List.length_filter_le _ _
    omega
  have hsr := rowOf_sorted (left c)
  have hrow : rowOf (turn c) = ins (c.length : Int) (rowOf (left c)) := rowOf_snoc _ _
  refine wpAny_execs_cons (turn7 G F m3 m4 N hr (by omega) hsr ?_)
  intro h1 tk1 r t hr1 hr2 F1 N1
  clear N F
  dsimp only
  refine wpAny_execs_cons (turn8 (k := c.length) (r := r) G F1 m3 m4 rfl j1 N1 hr (by omega) (by omega) hr1 ?_)
  intro h2 tk2 t2 F2 N2
  rw [hw r hr1 hr2] at F2
  clear N1 F1
  dsimp only
  refine wpAny_execs_cons (turn9 G F2 m3 m4 N2 ?_ hr (by omega) hsr ?_)
  · simp only [List.forall_mem_cons]
    exact ⟨by refine neN ?_; omega, by refine neN ?_; omega, by refine neN ?_; omega, by refine neN ?_; omega, d5.2.2.2.2, fun q hq => Nat.ne_of_lt (d4 q hq)⟩
  intro h3 tk3 vr2 nr2 hr3 F3 N3
  rw [← hrow] at hr3
  clear N2 F2
  dsimp only
  refine wpAny_execs_cons (turn10 G F3 m3 rfl N3 hr3 (by rw [hrow, ins_length]; omega) (row_bound ht.1 ht.2) ?_)
  intro h4 tk4 F4 N4
  clear N3 F3
  dsimp only
  refine wpAny_execs_cons (turn11 G F4 m3 N4 ?_)
  intro h5 tk5 F5 N5
  clear N4 F4
  dsimp only
  refine wpAny_execs_nil ?_
  refine hret _ _ (TE.mk _ rs nr2 nn nb bl vr2 vs bv bz t2 oB oC oF hs hr3 hb F5 rfl rfl ?_ N5 hoB hoC hoF d3 d4 ⟨d5.1, d5.2.1, d5.2.2.1, d5.2.2.2.1⟩ d6)
  intro z hz
  unfold turnNames at hz
  have hz' := m5 z (by
    simp only [List.contains_cons, List.contains_nil, Bool.or_false, Bool.or_eq_false_iff] at hz ⊢
    exact hz.2.2.2)
  simp only [List.contains_cons, List.contains_nil, Bool.or_false, Bool.or_eq_false_iff, beq_eq_false_iff_ne] at hz
  rw [← hz']
  simp only [hz.1, hz.2.1, hz.2.2.1, if_false]
end

def iterT (c : List Nat) : Nat → List Nat
  | 0 => c
  | i + 1 => turn (iterT c i)
def rotN (b : List Int) : Nat → List Int
  | 0 => b
  | j + 1 => rotB (rotN b j)
/-- what the plain law says of the piles c -/
structure Good (c : List Nat) : Prop where
  pos : ∀ i, ∀ n ∈ iterT c i, 1 ≤ n
  sum : ∀ i, (iterT c i).sum = c.sum
  ws : ∀ i, WsOk (iterT c i)
  weigh : ∀ i, WeighOk (iterT c i)
  few : (rowOf (iterT c (enOf c.sum))).length ≤ 4
  beads : ∀ j, j < 5 → (∀ z ∈ rotN (beadsOf (rowOf (iterT c (enOf c.sum)))) j, z = 0 ∨ z = 1) ∧ (rotN (beadsOf (rowOf (iterT c (enOf c.sum)))) j).length = 4 ∧
    (wsRun (catL (toldOf (rotN (beadsOf (rowOf (iterT c (enOf c.sum)))) j)))).count = (wsRun (catL (iterT c (enOf c.sum + j)))).count ∧ (wsRun (catL (toldOf (rotN (beadsOf (rowOf (iterT c (enOf c.sum)))) j)))).b = (wsRun (catL (iterT c (enOf c.sum + j)))).b
structure MS where
  rw : Nat
  bl : Nat
  vr : List Value
  cr : Nat
  vs : List Value
  nn : Nat
  bv : List Value
  nb : Nat
  oB : Obj
  oC : Obj
  oF : Obj
  W : Int
  tw : Tok
def bzAt (c : List Nat) (i : Nat) : List Int := rotN (beadsOf (rowOf (iterT c (enOf c.sum)))) (i - enOf c.sum)
def msLed (L : Nat) (pb : Nat) (led : List (Addr × Obj)) (c : MS) : List (Addr × Obj) :=
  (c.rw, listOf c.vr.toArray c.cr) :: (pb, listOf c.vs.toArray c.nn) :: (L + 1 + 1, c.oB) :: (L + 1 + 1 + 1, c.oC) :: (L + 1 + 1 + 1 + 1, c.oF) :: (c.bl, listOf c.bv.toArray c.nb) :: led
def msPs (c : MS) : List (Str × Value) := [(Str.ofString "row", .ref c.rw), (Str.ofString "weight", .int c.W c.tw)]
structure MsOk (L pb : Nat) (led : List (Addr × Obj)) (c0 : List Nat) (i : Nat) (c : MS) : Prop where
  hs : StrsAre c.vs ((iterT c0 i).map wd ++ [dot])
  hr : IntsAre c.vr (rowOf (iterT c0 i))
  hW : c.W = weightOf (rowOf (iterT c0 i))
  hb : enOf c0.sum < i → IntsAre c.bv (bzAt c0 i)
  hoB : c.oB.data = .cell (some (.ref c.bl))
  hoC : ∃ v, c.oC.data = .cell v
  hoF : ∃ v, c.oF.data = .cell v
  d3 : pb < c.rw
  d5 : @Ne Nat c.bl pb ∧ @Ne Nat c.bl (L + 1 + 1) ∧ @Ne Nat c.bl (L + 1 + 1 + 1) ∧ @Ne Nat c.bl (L + 1 + 1 + 1 + 1)
  d6 : ∀ q ∈ led, q.1 ≠ c.bl
def restNames : List Str := [Str.ofString "place", Str.ofString "sizes", Str.ofString "mark", Str.ofString "rest", Str.ofString "taken", Str.ofString "lead", Str.ofString "behind", Str.ofString "told"]
section
variable {w : World} {loose : List Str} {mean : ExcName → Option Value} {mg mb : Str → Option Value} {dp un : Nat} {gd : Option (List Code)} {L : Nat} {a : Addr} {ccd : Value} {outer : List Env} {A₀ : Around} {base h₀ : Heap} {m : Str → Option Value} {s : Shared} {Q : Flow → Shared → Prop} {E : Value → Shared → Prop}

set_option maxHeartbeats 8000000 in
theorem lawLoop {c : List Nat} {x pb : Nat} (G : LawCtx w loose mean mg mb dp un outer A₀ base h₀) (hE : PassesOwn (model Challenge.rw_pe0248_01.row.prog w) (lawAr dp un gd L a ccd outer) (lawEnv L a ccd) E) (P : Ph4 h₀ L c x pb s.heap) (hG : Good c)
    (hret : ∀ h' tk' m' news, Fr h₀ L h' m' → News h₀ L h' news → (∃ ps, ((167 : Addr), tabObj ps) ∈ news) → Q .next { s with heap := h', toks := tk' }) :
    wpAny (model Challenge.rw_pe0248_01.row.prog w) (lawAr dp un gd L a ccd outer) (exec (lawSt 9) (lawEnv L a ccd)) Q E s := by
  have G' := G
  obtain ⟨B, X, T, hd, hu⟩ := G
  obtain ⟨m, vs, vr, nn, cr, rw', bl, tw, te, oB, oC, oF, oL, led, hpos, h7, h10, hv, hr, F, m1, m2, m3, N, n1, n4, n5, hoB, hoC, hoF, hL, hoL, hx⟩ := P
  ((w_on; (have hfill : Challenge.rw_pe0248_01 = Challenge.rw_pe0248_01 ∧ Mine.hd.heap_1 = Mine.hd.heap_1 := by (k_fill; exact ⟨rfl, rfl⟩)); clear hfill))
  conv => arg 3; arg 1; whnf
  have hen : enOf c.sum ≤ 12 := by unfold enOf; repeat (split <;> try omega)
  refine For_invVF (hE := hE) F rfl rfl ?_
  k_steps
  refine Stop.out ?_
  rename_i g1 t1 u1 v1 hR F1 N1 k1
  have hr : IntsAre vr (rowOf c) := by assumption
  clear k1
  refine for_range (σ := MS) (n := enOf c.sum + 5) (msLed L pb led) msPs (fun i st => MsOk L pb led c i st) restNames ⟨rw', bl, vr, cr, vs, nn, [], 0, oB, oC, oF, weightOf (rowOf c), tw⟩ rfl hR (small_one (by omega) (by omega) (by omega) (by omega)) (by rw [show ((enOf c.sum : Nat) : Int) + 5 = ((enOf c.sum + 5 : Nat) : Int) from by omega]; exact rangeSize_nat _ _) F1 (news_pick N1 [1, 2, 3, 4, 5, 0] 6) ?k2 ?k3 ?k4 ?k5
  case k2 => exact ⟨hv, hr, rfl, fun h => absurd h (by omega), hoB, hoC, hoF, n4.1, ⟨by dsimp only; omega, by dsimp only; omega, by dsimp only; omega, by dsimp only; omega⟩, fun q hq => Nat.ne_of_lt (Nat.lt_trans (n5 q hq) n4.2.1)⟩
  case k3 =>
    intro p hp
    unfold msPs at hp
    simp only [List.mem_cons, List.not_mem_nil, or_false] at hp
    rcases hp with rfl | rfl
    · exact m1
    · exact m2
  case k4 =>
    rintro st i t u h tk I oI hi hf hoff F2 N2
    obtain ⟨rw2, bl2, vr2, cr2, vs2, nn2, bv2, nb2, oB2, oC2, oF2, W2, tw2⟩ := st
    obtain ⟨q1, q2, q3, q4, q5, q6, q7, q8, q9, q10⟩ := hf
    dsimp only [msLed, msPs, kstB, lawEnv, envOfC] at q1 q2 q3 q4 q5 q6 q7 q8 q9 q10 hoff F2 N2
    have hi0 : (0 : Int) + (i : Int) = (i : Int) := by omega
    rw [hi0] at F2
    subst q3
    simp only [List.forall_mem_cons] at hoff
    obtain ⟨p1, p2, p3, p4, p5, p6, p7⟩ := hoff
    generalize hm : (fun y => if y = Str.ofString "turn" then some (Value.int (i : Int) t) else _) = m2 at F2
    have e1 : m2 (Str.ofString "turn") = some (.int i t) := by rw [← hm]; rfl
    have e2 : m2 (Str.ofString "row") = some (.ref rw2) := by rw [← hm]; rfl
    have e3 : m2 (Str.ofString "weight") = some (.int (weightOf (rowOf (iterT c i))) tw2) := by rw [← hm]; rfl
    have e4 : m2 (Str.ofString "enough") = some (.int (enOf c.sum : Nat) te) := by rw [← hm]; exact m3
    have hq7 : 7 ≤ (iterT c i).sum := by rw [hG.sum]; exact h7
    have hq10 : (iterT c i).sum ≤ 10 := by rw [hG.sum]; exact h10
    change wpAny _ _ (execs turnBody (lawEnv L a ccd)) _ _ _
    obtain ⟨dx, K, ln, tl, stx, x1, x2, x3⟩ := hx
    have r1 : ∀ q ∈ (I, oI) :: led, q.1 ≠ pb ∧ q.1 ≠ L + 1 + 1 ∧ q.1 ≠ L + 1 + 1 + 1 ∧ q.1 ≠ L + 1 + 1 + 1 + 1 := by
      simp only [List.forall_mem_cons]
      exact ⟨⟨fun e => p2 e.symm, fun e => p3 e.symm, fun e => p4 e.symm, fun e => p5 e.symm⟩, n1⟩
    refine turnHead (c := iterT c i) (x := x) (pb := pb) (rw := rw2) (bl := bl2) (nn := nn2) (cr := cr2) (oB := oB2) (oC := oC2) (oF := oF2) (obl := listOf bv2.toArray nb2) (led := (I, oI) :: led) G' F2 e2 (news_pick N2 [1, 2, 3, 4, 5, 6, 0] 7) (hG.pos i) hq7 hq10 q1 q2 (hG.ws i) q6 r1 n4.2.2 q8 ⟨q9.1, q9.2.2.1⟩ (.tail _ hL) hoL ⟨dx, K, ln, tl, stx, .tail _ x1, .tail _ x2, x3.imp fun _ q => .tail _ q⟩ ?_
    intro h1 tk1 P1
    clear N2 F2
    refine turnMid (i := i) (en := enOf c.sum) (bz := bzAt c i) G' P1 e1 e4 (hG.pos i) hq10 q5 q7 ?l2 q4 ?l3 r1 n4.2.2 q9 ?l4 ?_
    case l2 =>
      intro e
      unfold bzAt
      rw [e, Nat.sub_self]
      exact ⟨hG.few, rfl⟩
    case l3 =>
      intro hge
      have := hG.beads (i - enOf c.sum) (by omega)
      rw [show enOf c.sum + (i - enOf c.sum) = i from by omega] at this
      exact this
    case l4 =>
      simp only [List.forall_mem_cons]
      exact ⟨fun e => p6 e.symm, q10⟩
    intro h2 tk2 P2
    refine turnTail G' P2 e3 (hG.pos i) hq10 n4.2.2 (hG.weigh i) ⟨hG.pos (i + 1), by rw [show turn (iterT c i) = iterT c (i + 1) from rfl, hG.sum]; exact h10⟩ ?_
    intro h3 tk3 P3
    obtain ⟨m', rs, nr, nn3, nb3, bl3, vr3, vs3, bv3, bz3, t3, oB3, oC3, oF3, z1, z2, z3, F3, z4, z5, z6, N3, z7, z8, z9, z10, z13, z11, z12⟩ := P3
    have N4 : News h₀ L h3 ((I, oI) :: msLed L pb led ⟨rs, bl3, vr3, nr, vs3, nn3, bv3, nb3, oB3, oC3, oF3, weightOf (rowOf (turn (iterT c i))), t3⟩) := news_pick N3 [6, 0, 1, 2, 3, 4, 5] 7
    refine g_end (σ := MS) ⟨rs, bl3, vr3, nr, vs3, nn3, bv3, nb3, oB3, oC3, oF3, weightOf (rowOf (turn (iterT c i))), t3⟩ F3 N4 (fun p hp => hp) (fun q hq => ?l6) ⟨z1, z2, rfl, ?l7, z7, z8, z9, z10, z11, fun q hq => z12 q (.tail _ hq)⟩ ?l8 ?l9
    case l6 =>
      unfold msLed at hq
      have hI := ltN (z13 _ (.head _))
      dsimp only at hI
      simp only [List.mem_cons] at hq
      rcases hq with rfl | rfl | rfl | rfl | rfl | rfl | hq
      · dsimp only; refine neN ?_; omega
      · exact p2
      · exact p3
      · exact p4
      · exact p5
      · exact fun e => z12 _ (.head _) e.symm
      · exact p7 q hq
    case l7 =>
      intro hlt
      rcases z3 with ⟨⟨hge, hbz⟩, hbv⟩ | hno
      · rw [show bzAt c (i + 1) = bz3 from by rw [hbz]; unfold bzAt; rw [show i + 1 - enOf c.sum = (i - enOf c.sum) + 1 from by omega]; rfl]
        exact hbv
      · exact absurd ⟨by omega, rfl⟩ (hno (rotB (bzAt c i)))
    case l8 =>
      intro p hp
      unfold msPs at hp
      simp only [List.mem_cons, List.not_mem_nil, or_false] at hp
      rcases hp with rfl | rfl
      · exact z4
      · exact z5
    case l9 =>
      intro z hz1 hz2 hz3
      have h1 : z ≠ Str.ofString "row" := hz2 _ (.head _)
      have h2 : z ≠ Str.ofString "weight" := hz2 _ (.tail _ (.head _))
      refine (z6 z ?_).trans ?_
      · unfold restNames at hz3
        unfold turnNames
        simp only [List.contains_cons, List.contains_nil, Bool.or_false, Bool.or_eq_false_iff, beq_eq_false_iff_ne] at hz3 ⊢
        exact ⟨h1, h2, hz3⟩
      · rw [← hm]
        show (if z = Str.ofString "turn" then _ else if z = Str.ofString "row" then _ else if z = Str.ofString "weight" then _ else if restNames.contains z = true then u z else m z) = m z
        rw [if_neg hz1, if_neg h1, if_neg h2, if_neg (by rw [hz3]; exact Bool.false_ne_true)]
  case k5 =>
    rintro st u h tk hf F2 N2
    obtain ⟨dx, K, ln, tl, stx, x1, x2, x3⟩ := hx
    exact hret _ _ _ _ F2 N2 (x3.imp fun _ q => by unfold msLed; exact List.mem_append_right [_, _, _, _, _, _] q)
end

section
variable {w : World} {loose : List Str} {mean : ExcName → Option Value} {mg mb : Str → Option Value} {dp un : Nat} {gd : Option (List Code)} {L : Nat} {a : Addr} {ccd : Value} {outer : List Env} {A₀ : Around} {base h₀ : Heap} {m : Str → Option Value} {s : Shared} {Q : Flow → Shared → Prop} {E : Value → Shared → Prop}
theorem drop3 : lawBody.drop 3 = lawSt 3 :: lawSt 4 :: lawBody.drop 5 := by rfl
theorem drop9 : lawBody.drop 9 = [lawSt 9, lawSt 10] := by rfl

set_option maxHeartbeats 8000000 in
theorem lawLast (F : Fr h₀ L s.heap m) {news : List (Addr × Obj)} (N : News h₀ L s.heap news) (hret : ∀ tk', Q (.ret (.bool true)) { s with toks := tk' }) :
    wpAny (model Challenge.rw_pe0248_01.row.prog w) (lawAr dp un gd L a ccd outer) (exec (lawSt 10) (lawEnv L a ccd)) Q E s := by
  conv => arg 3; arg 1; whnf
  k_steps
  exact hret _

set_option maxHeartbeats 8000000 in
theorem lawAll {l : Addr} {vs : List Value} {ns : List Int} {oL oB oC oF : Obj} (G : LawCtx w loose mean mg mb dp un outer A₀ base h₀)
    (hE : PassesOwn (model Challenge.rw_pe0248_01.row.prog w) (lawAr dp un gd L a ccd outer) (lawEnv L a ccd) E) (hG : ∀ c : List Nat, (∀ n ∈ c, 1 ≤ n) → 7 ≤ c.sum → c.sum ≤ 10 → Good c)
    (F : Fr h₀ L s.heap m) (hm : m (Str.ofString "script") = some (.ref l))
    (N : News h₀ L s.heap [(L + 1 + 1 + 1 + 1, oF), (L + 1 + 1 + 1, oC), (L + 1 + 1, oB), (L + 1, oL), (167, tabObj #[])]) (h167 : (167 : Nat) < L) (C : CodeHd base 171 167) (hoL : oL.data = .cell none) (hcd : CellsOk oB oC oF)
    (hl : base.IsList l vs.toArray) (hi : IntsAre vs ns) (hlen : ns.length ≤ 63)
    (hret : ∀ h' tk' m' news, Fr h₀ L h' m' → News h₀ L h' news → (∃ ps, ((167 : Addr), tabObj ps) ∈ news) → Q (.ret (.bool true)) { s with heap := h', toks := tk' }) :
    wpAny (model Challenge.rw_pe0248_01.row.prog w) (lawAr dp un gd L a ccd outer) (execs lawBody (lawEnv L a ccd)) Q E s := by
  refine lawA1 G F hm (news_sub N (by kst_in)) h167 C hoL hcd hl hi hlen ?_
  intro h1 tk1 P1
  rw [drop3]
  refine wpAny_execs_cons (lawA2 G C P1 ?_)
  intro c x pb us ws h2 tk2 P2
  dsimp only
  refine wpAny_execs_cons (lawA3 G hE P2 ?_)
  intro h3 tk3 P3
  dsimp only
  refine lawA4 G P3 ?_
  intro h4 tk4 P4
  rw [drop9]
  have hg : Good c := by
    obtain ⟨m, vs, vr, nn, cr, rw', bl, tw, te, oB, oC, oF, oL, led, hpos, h7, h10, _⟩ := P4
    exact hG c hpos h7 h10
  refine wpAny_execs_cons (lawLoop G hE P4 hg ?_)
  intro h5 tk5 m5 news F5 N5 ht
  dsimp only
  refine wpAny_execs_cons (lawLast F5 N5 ?_)
  intro tk6
  exact hret _ _ _ _ F5 N5 ht
end

theorem iter_pos {c : List Nat} (h : ∀ n ∈ c, 1 ≤ n) (h0 : 1 ≤ c.sum) : (∀ n ∈ turn c, 1 ≤ n) ∧ (turn c).sum = c.sum := by
  have hs : ∀ c : List Nat, (∀ n ∈ c, 1 ≤ n) → (left c).sum + c.length = c.sum := by
    intro c
    induction c with
    | nil => intro _; rfl
    | cons n c ih =>
      intro h
      have ih := ih fun k hk => h k (.tail _ hk)
      have hn := h n (.head _)
      unfold left at ih ⊢
      by_cases e : n = 1
      · subst e
        simp only [ne_eq, not_true_eq_false, decide_false, Bool.false_eq_true, not_false_eq_true, List.filter_cons_of_neg, List.length_cons, List.sum_cons] at ih ⊢
        omega
      · rw [List.filter_cons_of_pos (by simpa using e), List.map_cons, List.sum_cons, List.length_cons, List.sum_cons]
        omega
  have hne : 1 ≤ c.length := by
    cases c with
    | nil => simp at h0
    | cons a b => simp
  refine ⟨fun n hn => ?_, ?_⟩
  · unfold turn at hn
    rcases List.mem_append.mp hn with q | q
    · unfold left at q
      obtain ⟨k, hk, rfl⟩ := List.mem_map.mp q
      obtain ⟨hk1, hk2⟩ := List.mem_filter.mp hk
      have := h k hk1
      have : k ≠ 1 := by simpa using hk2
      omega
    · rw [List.mem_singleton.mp q]; exact hne
  · unfold turn
    rw [List.sum_append, List.sum_cons, List.sum_nil]
    exact hs c h
theorem iterT_ok {c : List Nat} (h : ∀ n ∈ c, 1 ≤ n) (h0 : 1 ≤ c.sum) : ∀ i, (∀ n ∈ iterT c i, 1 ≤ n) ∧ (iterT c i).sum = c.sum
  | 0 => ⟨h, rfl⟩
  | i + 1 => by
    obtain ⟨q1, q2⟩ := iterT_ok h h0 i
    obtain ⟨q3, q4⟩ := iter_pos q1 (by omega)
    exact ⟨q3, q4.trans q2⟩
/-! the counts of a text of words -/
def cntOf (c : List Nat) : List Int := c.foldl (fun ct n => bump (grow ct n) n) []
theorem run_blanks (ct : List Int) (n nt : Nat) : ∀ k b, (List.replicate k 32).foldl wsStep ⟨ct, b, n, nt⟩ = ⟨ct, b + k, n + k, nt⟩
  | 0, b => rfl
  | k + 1, b => by
    have := run_blanks ct (n + 1) nt k (b + 1)
    rw [List.replicate_succ, List.foldl_cons, show wsStep ⟨ct, b, n, nt⟩ 32 = ⟨ct, b + 1, n + 1, nt⟩ from rfl, this]
    congr 1 <;> omega
theorem run_word (ct : List Int) (n nt k : Nat) : (wdL k).foldl wsStep ⟨ct, 0, n, nt⟩ = ⟨bump (grow ct k) k, 0, n + k + 1, nt + 1⟩ := by
  unfold wdL
  rw [List.foldl_append, run_blanks, Nat.zero_add]
  rfl
theorem run_words : ∀ (c : List Nat) (ct : List Int) (n nt : Nat), (catL c).foldl wsStep ⟨ct, 0, n, nt⟩ = ⟨c.foldl (fun ct n => bump (grow ct n) n) ct, 0, n + c.sum + c.length, nt + c.length⟩
  | [], _, _, _ => rfl
  | k :: c, ct, n, nt => by
    show (wdL k ++ catL c).foldl wsStep _ = _
    rw [List.foldl_append, run_word, run_words c, List.foldl_cons, List.sum_cons, List.length_cons]
    congr 1 <;> omega
theorem run_is (c : List Nat) : wsRun (catL c) = ⟨cntOf c, 0, c.sum + c.length, c.length⟩ := by
  unfold wsRun
  rw [run_words]
  congr 1 <;> omega
theorem grow_getD (ct : List Int) (k i : Nat) : (grow ct k).getD i 0 = ct.getD i 0 := by
  unfold grow
  split
  · simp only [List.getD_eq_getElem?_getD]
    by_cases h : i < ct.length
    · rw [List.getElem?_append_left h]
    · rw [List.getElem?_append_right (by omega), List.getElem?_replicate, List.getElem?_eq_none (by omega)]
      split <;> rfl
  · rfl
theorem put_getD (ct : List Int) (k i : Nat) : (bump (grow ct k) k).getD i 0 = ct.getD i 0 + if i = k then 1 else 0 := by
  unfold bump
  rw [grow_getD]
  have hl : k < (grow ct k).length := by rw [grow_length]; omega
  by_cases e : i = k
  · subst e
    rw [if_pos rfl]
    simp only [List.getD_eq_getElem?_getD]
    rw [List.getElem?_set_self hl]
    rfl
  · rw [if_neg e, Int.add_zero, ← grow_getD ct k i]
    simp only [List.getD_eq_getElem?_getD]
    rw [List.getElem?_set_ne (fun q => e q.symm)]
theorem put_length (ct : List Int) (k : Nat) : (bump (grow ct k) k).length = max ct.length (k + 1) := by rw [bump_length, grow_length]
theorem put_comm (ct : List Int) (a b : Nat) : bump (grow (bump (grow ct a) a) b) b = bump (grow (bump (grow ct b) b) a) a := by
  refine List.ext_getElem (by simp only [put_length]; omega) fun i h1 h2 => ?_
  have e : ∀ {l : List Int} {i : Nat} (h : i < l.length), l[i] = l.getD i 0 := fun h => by simp [List.getD_eq_getElem?_getD, h]
  rw [e h1, e h2, put_getD, put_getD, put_getD, put_getD]
  exact Int.add_right_comm _ _ _
/-- the counts, of a row -/
def cntRow (r : List Int) : List Int := r.foldl (fun ct x => bump (grow ct x.toNat) x.toNat) []
theorem cnt_row (c : List Nat) : cntOf c = cntRow (rowOf c) := by
  unfold cntRow
  rw [List.Perm.foldl_eq' (rowOf_perm c) (fun x _ y _ z => put_comm _ _ _)]
  unfold cntOf
  rw [List.foldl_map]
  rfl
theorem cnt_bound : ∀ (c : List Nat) (ct : List Int) (m : Nat), (∀ i, 0 ≤ ct.getD i 0 ∧ ct.getD i 0 ≤ m) → ∀ i, 0 ≤ (c.foldl (fun ct n => bump (grow ct n) n) ct).getD i 0 ∧ (c.foldl (fun ct n => bump (grow ct n) n) ct).getD i 0 ≤ (m + c.length : Nat)
  | [], ct, m, h, i => by simpa using h i
  | n :: c, ct, m, h, i => by
    have := cnt_bound c (bump (grow ct n) n) (m + 1) (fun i => by
      rw [put_getD]
      have := h i
      split <;> omega) i
    rw [List.foldl_cons, List.length_cons]
    rw [show m + (c.length + 1) = m + 1 + c.length from by omega]
    exact this
theorem cntOf_bound (c : List Nat) (i : Nat) : 0 ≤ (cntOf c).getD i 0 ∧ (cntOf c).getD i 0 ≤ (c.length : Nat) := by
  have := cnt_bound c [] 0 (fun i => by simp) i
  rw [Nat.zero_add] at this
  exact this
theorem ins_app {x : Int} : ∀ (l r : List Int), (∀ y ∈ r, ¬ y < x) → ins x (l ++ r) = ins x l ++ r
  | [], r, h => by
    cases r with
    | nil => rfl
    | cons y r => simp [ins, h y (.head _)]
  | y :: l, r, h => by
    rw [List.cons_append, ins, ins]
    split
    · rw [ins_app l r h, List.cons_append]
    · rfl
theorem ins_below {x : Int} : ∀ (l r : List Int), (∀ y ∈ l, y < x) → ins x (l ++ r) = l ++ ins x r
  | [], r, _ => rfl
  | y :: l, r, h => by
    rw [List.cons_append, ins, if_pos (h y (.head _)), ins_below l r fun z hz => h z (.tail _ hz), List.cons_append]
theorem ins_rep (x : Int) (m : Nat) : ins x (List.replicate m x) = List.replicate (m + 1) x := by
  cases m with
  | zero => rfl
  | succ m => rw [List.replicate_succ, ins, if_neg (Int.lt_irrefl _)]; rfl
theorem flat_mem {f : Nat → Nat} : ∀ {n : Nat} {y : Int}, y ∈ flatK f n → 0 ≤ y ∧ y < n
  | 0, _, h => by cases h
  | n + 1, y, h => by
    unfold flatK at h
    rcases List.mem_append.mp h with q | q
    · have := flat_mem q; omega
    · have := List.eq_of_mem_replicate q; omega
theorem flat_ext {f g : Nat → Nat} : ∀ {n : Nat}, (∀ i, i < n → f i = g i) → flatK f n = flatK g n
  | 0, _ => rfl
  | n + 1, h => by unfold flatK; rw [flat_ext fun i hi => h i (by omega), h n (by omega)]
theorem flat_put {f g : Nat → Nat} {k : Nat} (h : ∀ i, g i = f i + if i = k then 1 else 0) : ∀ n, k < n → flatK g n = ins (k : Int) (flatK f n)
  | 0, hk => absurd hk (by omega)
  | n + 1, hk => by
    unfold flatK
    by_cases e : n = k
    · subst e
      rw [h n, if_pos rfl, flat_ext (g := f) fun i hi => by rw [h i, if_neg (by omega)]; rfl]
      rw [ins_below _ _ fun y hy => (flat_mem hy).2, ins_rep]
    · rw [flat_put h n (by omega), h n, if_neg e, Nat.add_zero, ins_app _ _ fun y hy => by rw [List.eq_of_mem_replicate hy]; omega]
theorem flat_more {f : Nat → Nat} {n : Nat} (h : ∀ i, n ≤ i → f i = 0) : ∀ j, flatK f (n + j) = flatK f n
  | 0 => rfl
  | j + 1 => by
    rw [← Nat.add_assoc, flatK, h (n + j) (by omega), flat_more h j]
    simp
theorem sizes_fold : ∀ (c : List Nat) (ct : List Int), (∀ i, 0 ≤ ct.getD i 0) → flatK (cntN (c.foldl (fun ct n => bump (grow ct n) n) ct)) (c.foldl (fun ct n => bump (grow ct n) n) ct).length = c.foldl (fun (r : List Int) (n : Nat) => ins (n : Int) r) (flatK (cntN ct) ct.length)
  | [], _, _ => rfl
  | k :: c, ct, h => by
    rw [List.foldl_cons, List.foldl_cons, sizes_fold c _ fun i => by rw [put_getD]; have := h i; split <;> omega]
    congr 1
    rw [put_length]
    rw [flat_put (f := cntN ct) (k := k) (fun i => by unfold cntN; rw [put_getD]; have := h i; split <;> omega) _ (by omega)]
    congr 1
    have := flat_more (f := cntN ct) (n := ct.length) (fun i hi => by unfold cntN; rw [List.getD_eq_getElem?_getD, List.getElem?_eq_none hi]; rfl) (max ct.length (k + 1) - ct.length)
    rw [← this]
    congr 1
    omega
theorem ws_ok {c : List Nat} (h10 : c.length ≤ 10) : WsOk c := by
  unfold WsOk
  rw [run_is]
  refine ⟨?_, rfl, rfl, fun z hz => ?_⟩
  · exact sizes_fold c [] fun i => by simp
  · obtain ⟨i, hi, rfl⟩ := List.mem_iff_getElem.mp hz
    have := cntOf_bound c i
    rw [List.getD_eq_getElem?_getD, List.getElem?_eq_getElem hi, Option.getD_some] at this
    omega
/-! the turn, on rows -/
def leftRow (r : List Int) : List Int := (r.filter fun x => decide (x ≠ 1)).map fun x => x - 1
def turnRow (r : List Int) : List Int := ins (r.length : Int) (leftRow r)
theorem leftRow_ins {x : Int} (hx : 1 ≤ x) : ∀ l : List Int, leftRow (ins x l) = if x = 1 then leftRow l else ins (x - 1) (leftRow l)
  | [] => by
    by_cases e : x = 1 <;> simp [ins, leftRow, e]
  | y :: r => by
    have ih := leftRow_ins hx r
    show leftRow (if y < x then y :: ins x r else x :: y :: r) = _
    by_cases hy : y < x
    · rw [if_pos hy]
      have e1 : ¬ x = 1 ∨ x = 1 := by omega
      have c1 : ∀ l : List Int, leftRow (y :: l) = if y = 1 then leftRow l else (y - 1) :: leftRow l := fun l => by
        unfold leftRow
        by_cases e : y = 1 <;> simp [e]
      rw [c1, ih, c1]
      by_cases e : x = 1
      · simp only [e, if_true]
      · simp only [e, if_false]
        by_cases e2 : y = 1
        · simp only [e2, if_true]
        · simp only [e2, if_false]
          show _ = (if y - 1 < x - 1 then (y - 1) :: ins (x - 1) (leftRow r) else (x - 1) :: (y - 1) :: leftRow r)
          rw [if_pos (by omega)]
    · rw [if_neg hy]
      have c1 : ∀ (z : Int) (l : List Int), leftRow (z :: l) = if z = 1 then leftRow l else (z - 1) :: leftRow l := fun z l => by
        unfold leftRow
        by_cases e : z = 1 <;> simp [e]
      rw [c1 x]
      by_cases e : x = 1
      · simp only [e, if_true]
      · simp only [e, if_false]
        rw [c1 y, if_neg (by omega)]
        show _ = (if y - 1 < x - 1 then (y - 1) :: ins (x - 1) (leftRow r) else (x - 1) :: (y - 1) :: leftRow r)
        rw [if_neg (by omega)]
theorem leftRow_is : ∀ (c : List Nat) (l : List Int) (l' : List Int), (∀ n ∈ c, 1 ≤ n) → leftRow l = l' → leftRow (c.foldl (fun (r : List Int) (n : Nat) => ins (n : Int) r) l) = (left c).foldl (fun (r : List Int) (n : Nat) => ins (n : Int) r) l'
  | [], l, l', _, h => h
  | n :: c, l, l', hp, h => by
    have hn := hp n (.head _)
    rw [List.foldl_cons]
    have c1 : left (n :: c) = if n = 1 then left c else (n - 1) :: left c := by
      unfold left
      by_cases e : n = 1 <;> simp [e]
    rw [c1]
    by_cases e : n = 1
    · rw [if_pos e]
      refine leftRow_is c _ _ (fun k hk => hp k (.tail _ hk)) ?_
      rw [leftRow_ins (by omega), if_pos (by omega)]
      exact h
    · rw [if_neg e, List.foldl_cons]
      refine leftRow_is c _ _ (fun k hk => hp k (.tail _ hk)) ?_
      rw [leftRow_ins (by omega), if_neg (by omega), h]
      congr 1
      omega
theorem row_left {c : List Nat} (h : ∀ n ∈ c, 1 ≤ n) : rowOf (left c) = leftRow (rowOf c) := (leftRow_is c [] [] h rfl).symm
theorem row_turn {c : List Nat} (h : ∀ n ∈ c, 1 ≤ n) : rowOf (turn c) = turnRow (rowOf c) := by
  unfold turn turnRow
  rw [rowOf_snoc, row_left h, rowOf_length]
def iterR (r : List Int) : Nat → List Int
  | 0 => r
  | i + 1 => turnRow (iterR r i)
theorem row_iter {c : List Nat} (h : ∀ n ∈ c, 1 ≤ n) (h0 : 1 ≤ c.sum) : ∀ i, rowOf (iterT c i) = iterR (rowOf c) i
  | 0 => rfl
  | i + 1 => by
    show rowOf (turn (iterT c i)) = turnRow (iterR (rowOf c) i)
    rw [row_turn (iterT_ok h h0 i).1, row_iter h h0 i]
/-- the rows of a sum -/
def parts : Nat → Nat → Nat → List (List Int)
  | 0, _, _ => []
  | _ + 1, _, 0 => [[]]
  | f + 1, m, s + 1 => (List.range (s + 2)).flatMap fun k => if m ≤ k && 1 ≤ k then (parts f k (s + 1 - k)).map fun l => (k : Int) :: l else []
theorem parts_all : ∀ (f : Nat) (l : List Nat) (m : Nat), (l.map fun (n : Nat) => (n : Int)).Pairwise (· ≤ ·) → (∀ n ∈ l, m ≤ n ∧ 1 ≤ n) → l.length < f → (l.map fun (n : Nat) => (n : Int)) ∈ parts f m l.sum
  | 0, _, _, _, _, h => absurd h (by omega)
  | f + 1, [], _, _, _, _ => by simp [parts]
  | f + 1, n :: l, m, hs, hm, hl => by
    obtain ⟨hn1, hn2⟩ := hm n (.head _)
    obtain ⟨s, hsum⟩ : ∃ s, (n :: l).sum = s + 1 := ⟨(n :: l).sum - 1, by rw [List.sum_cons]; omega⟩
    rw [hsum, parts]
    refine List.mem_flatMap.mpr ⟨n, List.mem_range.mpr (by rw [List.sum_cons] at hsum; omega), ?_⟩
    rw [if_pos (by simp [hn1, hn2])]
    rw [List.map_cons] at hs ⊢
    obtain ⟨h1, h2⟩ := List.pairwise_cons.mp hs
    refine List.mem_map.mpr ⟨_, ?_, rfl⟩
    have := parts_all f l n h2 (fun k hk => ⟨by
      have := h1 (k : Int) (List.mem_map.mpr ⟨k, hk, rfl⟩)
      omega, (hm k (.tail _ hk)).2⟩) (by rw [List.length_cons] at hl; omega)
    rw [show s + 1 - n = l.sum from by rw [List.sum_cons] at hsum; omega]
    exact this
theorem row_parts {c : List Nat} (h : ∀ n ∈ c, 1 ≤ n) (h10 : c.sum ≤ 10) : rowOf c ∈ parts 11 1 c.sum := by
  obtain ⟨l, hl, hp⟩ : ∃ l : List Nat, rowOf c = l.map (fun (n : Nat) => (n : Int)) ∧ l.Perm c := by
    have key : ∀ (c : List Nat) (r : List Nat), ∃ l : List Nat, c.foldl (fun (r : List Int) (n : Nat) => ins (n : Int) r) (r.map fun (n : Nat) => (n : Int)) = l.map (fun (n : Nat) => (n : Int)) ∧ l.Perm (c ++ r) := by
      intro c
      induction c with
      | nil => intro r; exact ⟨r, rfl, .refl _⟩
      | cons n c ih =>
        intro r
        have hins : ∀ r : List Nat, ∃ l : List Nat, ins (n : Int) (r.map fun (n : Nat) => (n : Int)) = l.map (fun (n : Nat) => (n : Int)) ∧ l.Perm (n :: r) := by
          intro r
          induction r with
          | nil => exact ⟨[n], rfl, .refl _⟩
          | cons y r ih =>
            obtain ⟨l, e, p⟩ := ih
            rw [List.map_cons, ins]
            split
            · exact ⟨y :: l, by rw [e]; rfl, (p.cons y).trans (.swap n y r)⟩
            · exact ⟨n :: y :: r, rfl, .refl _⟩
        obtain ⟨l, e, p⟩ := hins r
        obtain ⟨l', e', p'⟩ := ih l
        exact ⟨l', by rw [List.foldl_cons, e, e'], p'.trans ((p.append_left c).trans List.perm_middle)⟩
    obtain ⟨l, e, p⟩ := key c []
    exact ⟨l, e, by rwa [List.append_nil] at p⟩
  have hsum : l.sum = c.sum := hp.sum_nat
  have hlen := len_le_sum h
  rw [hl, ← hsum]
  refine parts_all 11 l 1 ?_ (fun n hn => ?_) (by rw [hp.length_eq]; omega)
  · rw [← hl]; exact rowOf_sorted c
  · have := h n (hp.mem_iff.mp hn)
    omega
/-! decided for every row -/
def weighB (r : List Int) : Bool :=
  let ns := leftRow r
  (List.range (ns.length + 1)).all fun q => !((List.range ns.length).all fun i => decide (i < q) == decide (ns.getD i 0 ≤ (r.length : Int))) ||
    decide (weightOf r - (ns.drop q).sum + (r.length : Int) * ((ns.length : Int) - (q : Int)) = weightOf (turnRow r))
def beadB (z : Int) : Bool := decide (z = 0) || decide (z = 1)
def endB (n : Nat) (r : List Int) : Bool :=
  let s := iterR r (enOf n)
  decide (s.length ≤ 4) && (List.range 5).all fun j =>
    let bz := rotN (beadsOf s) j
    bz.all beadB && decide (bz.length = 4) && decide (rowOf (toldOf bz) = iterR s j)
theorem dec7 : ((parts 11 1 7).all fun r => weighB r && endB 7 r) = true := by decide +kernel
theorem dec8 : ((parts 11 1 8).all fun r => weighB r && endB 8 r) = true := by decide +kernel
theorem dec9 : ((parts 11 1 9).all fun r => weighB r && endB 9 r) = true := by decide +kernel
theorem dec10 : ((parts 11 1 10).all fun r => weighB r && endB 10 r) = true := by decide +kernel
theorem dec {r : List Int} {n : Nat} (h7 : 7 ≤ n) (h10 : n ≤ 10) (h : r ∈ parts 11 1 n) : weighB r = true ∧ endB n r = true := by
  have : n = 7 ∨ n = 8 ∨ n = 9 ∨ n = 10 := by omega
  rw [← Bool.and_eq_true]
  rcases this with rfl | rfl | rfl | rfl
  · exact List.all_eq_true.mp dec7 r h
  · exact List.all_eq_true.mp dec8 r h
  · exact List.all_eq_true.mp dec9 r h
  · exact List.all_eq_true.mp dec10 r h
theorem iterR_add (r : List Int) (i : Nat) : ∀ j, iterR (iterR r i) j = iterR r (i + j)
  | 0 => rfl
  | j + 1 => by
    show turnRow (iterR (iterR r i) j) = turnRow (iterR r (i + j))
    rw [iterR_add r i j]
theorem weigh_ok {c : List Nat} (h : ∀ n ∈ c, 1 ≤ n) (hw : weighB (rowOf c) = true) : WeighOk c := by
  intro q hq hlt
  rw [row_left h] at hq hlt ⊢
  rw [row_turn h]
  have h1 := List.all_eq_true.mp hw q (List.mem_range.mpr (by omega))
  have h2 : ((List.range (leftRow (rowOf c)).length).all fun i => decide (i < q) == decide ((leftRow (rowOf c)).getD i 0 ≤ ((rowOf c).length : Int))) = true := by
    refine List.all_eq_true.mpr fun i hi => ?_
    have hi' := List.mem_range.mp hi
    rw [beq_iff_eq, decide_eq_decide, rowOf_length, List.getD_eq_getElem?_getD, List.getElem?_eq_getElem hi', Option.getD_some]
    exact hlt i hi'
  rw [h2, Bool.not_true, Bool.false_or, decide_eq_true_eq, rowOf_length] at h1
  exact h1
theorem goodAll (c : List Nat) (h : ∀ n ∈ c, 1 ≤ n) (h7 : 7 ≤ c.sum) (h10 : c.sum ≤ 10) : Good c := by
  have hi := iterT_ok h (by omega)
  have hlen : ∀ i, (iterT c i).length ≤ 10 := fun i => by have h1 := len_le_sum (hi i).1; have h2 := (hi i).2; omega
  have hrow := row_iter h (by omega)
  obtain ⟨-, hend⟩ := dec h7 h10 (row_parts h h10)
  unfold endB at hend
  rw [Bool.and_eq_true, decide_eq_true_eq] at hend
  obtain ⟨e1, e2⟩ := hend
  refine ⟨fun i => (hi i).1, fun i => (hi i).2, fun i => ws_ok (hlen i), fun i => weigh_ok (hi i).1 (dec (by rw [(hi i).2]; exact h7) (by rw [(hi i).2]; exact h10) (row_parts (hi i).1 (by rw [(hi i).2]; exact h10))).1, by rw [hrow]; exact e1, fun j hj => ?_⟩
  have e3 := List.all_eq_true.mp e2 j (List.mem_range.mpr hj)
  rw [Bool.and_eq_true, Bool.and_eq_true, decide_eq_true_eq, decide_eq_true_eq] at e3
  obtain ⟨⟨e4, e5⟩, e6⟩ := e3
  rw [hrow]
  refine ⟨fun z hz => ?_, e5, ?_, ?_⟩
  · have := List.all_eq_true.mp e4 z hz
    unfold beadB at this
    rw [Bool.or_eq_true, decide_eq_true_eq, decide_eq_true_eq] at this
    exact this
  · rw [run_is, run_is]
    show cntOf _ = cntOf _
    rw [cnt_row, cnt_row, e6, hrow, iterR_add]
  · rw [run_is, run_is]

end Mine
set_option maxRecDepth 100000 in
set_option maxHeartbeats 8000000 in
theorem PySem.Challenge.cw_pe0248_01_holds : PySem.Challenge.rw_pe0248_01.Holds := by
  w_on; o_law
  refine holds_open (q := Mine.vw) (loose := [Str.ofString "insort_right", Str.ofString "bisect_right", Str.ofString "insort_left", Str.ofString "bisect_left", Str.ofString "Whitespace"]) (XP := XL Mine.vw []) (Yf := Hook.obs (kmHook Mine.hd.heap_1 Mine.hkAs Mine.hkE [167])) (Ya := Hook.val (kmHook Mine.hd.heap_1 Mine.hkAs Mine.hkE [167])) (YP := Hook.says (kmHook Mine.hd.heap_1 Mine.hkAs Mine.hkE [167])) (N := 2546) Mine.headLeft (Hook.of (kmHook Mine.hd.heap_1 Mine.hkAs Mine.hkE [167])) (Hook.keeps (kmHook Mine.hd.heap_1 Mine.hkAs Mine.hkE [167])) (fun s e => xl_of s (Bool.and_eq_true_iff.mp e).1) XL.keeps (by rfl) (by rfl) (by rfl) (fun s e => recFacts_of (Bool.and_eq_true_iff.mp e).2) (by rfl) (by first | assumption | decide +kernel) (by decide +kernel) ⟨rfl, rfl, rfl, rfl, rfl, by decide +kernel⟩ ?hw ?hc
  case hw => w_witness2
  w_strict (k_go0; (all_goals try k_fold); (rename Below _ _ _ _ => kB); (rename Frag.In _ _ => kX); (rename Top _ _ _ _ _ _ => kT); (rename Fr _ _ _ _ => kF); (rename News _ _ _ _ => kN); (rename CodeHd _ _ _ => kC); (rename IntsAre _ _ => kI); (rename (167 < _) => k167); (refine' Mine.lawAll ⟨kB, kX, kT, ?hd, ?hu⟩ ?hE Mine.goodAll kF ?hm kN k167 kC ?hoL ?hcd ?hl kI ?hlen ?hret); (case hd => decide +kernel); (case hu => decide +kernel); (case hE => passes_own); (case hm => exact rfl); (case hoL => assumption); (case hcd => (unfold Mine.CellsOk; (refine' ⟨?v1, ?v2, ?v3, ?c1, ?c2, ?c3⟩); (case c1 => assumption); (case c2 => assumption); (case c3 => assumption))); (case hl => assumption); (case hlen => omega); (case hret => (intro h' tk' m' news F9 N9 ht9; (obtain ⟨ps9, ht9⟩ := ht9); (have N8 := Mine.news_dup N9 ht9); dsimp only; k_steps)))

