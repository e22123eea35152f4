import PyProof.Rows.All
import Wide.All
import OpenK.AllK
import Wide.FinOn
import Lean
import PySem.Challenge.RW_uj0011_01
open PySem PySem.W PyProof.Rows PySem.Calls PySem.Spec
set_option Elab.async false
set_option maxRecDepth 100000
set_option linter.unusedVariables false
set_option compiler.extract_closed false
namespace Mine
set_option maxHeartbeats 0 in
theorem law_said : OpenLaw.wellSaid PySem.Challenge.rw_uj0011_01 = true := by
  rw [PySem.W.Fast.te9446332074065402090]
  kernel_rfl
section
local macro_rules | `(tactic| o_law) => `(tactic| refine holds_law law_said fun said => ?_)
local macro_rules | `(tactic| o_head $_) => `(tactic| refine (fun (hw : True) hc => hc) ?hw ?hc)
local macro_rules | `(tactic| w_witness2) => `(tactic| exact True.intro)
set_option maxHeartbeats 8000000 in
open_top hd for PySem.Challenge.rw_uj0011_01
end
noncomputable abbrev HK := kmHook hd.heap_1 [2, 3, 15, 17, 18, 20, 21, 32, 34, 35, 37, 38, 39, 41, 42, 44, 45, 46, 48, 49, 51, 52, 53, 55, 56, 58, 59, 60, 62, 63, 65, 66, 67, 69, 70, 72, 73, 74, 76, 77, 79, 80, 81, 82, 83, 84, 85, 88, 90, 91, 93, 94, 95, 96, 97, 99, 100, 102, 103, 104, 105, 106, 108, 109, 111, 112, 113, 114, 115, 117, 118, 120, 121, 122, 124, 125, 127, 128, 129, 131, 132, 134, 135, 136, 139, 141, 142, 144, 145, 146, 148, 149, 151, 152, 153, 155, 156, 158, 159, 160, 162, 163, 165, 166, 167, 169, 170, 172, 173, 174, 177, 178, 179, 181, 182, 184, 185, 186, 189, 190, 191, 194, 195, 196, 198, 199, 201, 202, 203, 206, 207, 208, 211, 212, 213, 216, 217, 218, 220, 221, 223, 224, 225, 228, 229, 230, 232, 233, 235, 236, 237, 239, 240, 242, 243, 244, 246, 247, 249, 250, 251, 253, 254, 256, 257] (fun _ => by kernel_rfl) [252, 89]
noncomputable def qm : Program := { PySem.Challenge.rw_uj0011_01.row.toRowW.prog with main := { PySem.Challenge.rw_uj0011_01.row.toRowW.prog.main with body := PySem.Challenge.rw_uj0011_01.row.toRowW.prog.main.body.drop 82 } }
noncomputable def lm : List Str := PySem.Challenge.rw_uj0011_01.row.toRowW.prog.boundNames.filter fun x => x != Str.ofString "law"
theorem oe_tw (p : Program) (w : World) (N : Nat) : openEnds treeTable p w N = ((PySem.W.Fast.tw10274390034422433532 PySem.W.Fast.tw14364793385576792824 (opening p) w N (PySem.W.Fast.tw1435165496053646825 (opening p)).1 (PySem.W.Fast.tw1435165496053646825 (opening p)).2).bind (PySem.W.Fast.tw14289696077712309145 p)).bind (fun s₀ => match s₀.heap.isNs mainGlobals && s₀.gens.size == 0 with
  | true => (PySem.W.Fast.tw14082659384304107361 PySem.W.Fast.tw14364793385576792824 p w s₀.heap.objs.size (PySem.W.Fast.tw8920871248978507458 s₀.heap mainGlobals "__annotations__") N s₀ (topStub p)).bind fun s₁ => match staticsOk (PySem.W.Fast.tw5923862056798008813 p.main.body) s₀.heap s₁.heap && namesBound p s₁.heap && gensDone s₁ && laidKept s₀.heap s₁.heap with
      | true => some s₁
      | false => none
  | false => none) := by
  unfold openEnds fencedOpening topFrom
  rw [PySem.W.Fast.te10274390034422433532, PySem.W.Fast.te14364793385576792824, PySem.W.Fast.te1435165496053646825, PySem.W.Fast.te14289696077712309145, PySem.W.Fast.te14082659384304107361, PySem.W.Fast.te8920871248978507458, PySem.W.Fast.te5923862056798008813]
  rfl
/-- what the look behind the top says, for one answer of the world's row -/
def LeftAt (b : Bool) : Prop := ∀ w : World, (openEnds treeTable PySem.Challenge.rw_uj0011_01.row.toRowW.prog (w.withFollow "special-get-raises" b) 5742).map (fun s => (openSeen qm lm (importedModules PySem.Challenge.rw_uj0011_01.row.toRowW.prog.main.body) (fun s => xlAt qm [] s && recOk (RowW.records PySem.Challenge.rw_uj0011_01.row.toRowW) s) true s, Hook.obs HK s)) = some (openGood qm lm, Hook.val HK (w.withFollow "special-get-raises" b))
set_option maxHeartbeats 0 in
theorem left_f : LeftAt false := fun w => by
  rw [oe_tw, PySem.W.Fast.te4187177175401517315]
  kernel_rfl
set_option maxHeartbeats 0 in
theorem left_t : LeftAt true := fun w => by
  rw [oe_tw, PySem.W.Fast.te4187177175401517315]
  kernel_rfl
theorem left_top : LeftO PySem.Challenge.rw_uj0011_01.row.toRowW.prog qm lm (fun s => xlAt qm [] s && recOk (RowW.records PySem.Challenge.rw_uj0011_01.row.toRowW) s) (Hook.obs HK) (Hook.val HK) 5742 :=
  fun w => byRow2 "special-get-raises" (P := fun w => (openEnds treeTable PySem.Challenge.rw_uj0011_01.row.toRowW.prog w 5742).map (fun s => (openSeen qm lm (importedModules PySem.Challenge.rw_uj0011_01.row.toRowW.prog.main.body) (fun s => xlAt qm [] s && recOk (RowW.records PySem.Challenge.rw_uj0011_01.row.toRowW) s) true s, Hook.obs HK s)) = some (openGood qm lm, Hook.val HK w)) left_f left_t w
set_option maxHeartbeats 8000000 in
theorem fill_all : PySem.Challenge.rw_uj0011_01 = PySem.Challenge.rw_uj0011_01 ∧ hd.heap_1 = hd.heap_1 := by
  k_fill
  exact ⟨rfl, rfl⟩
noncomputable abbrev KK (w : World) : Frag := hd.heap_1 w.params
abbrev tupOf (vs : List Value) : Obj := { cls := .type "tuple", data := .seq vs.toArray }
section

def Sub (a b : List (Addr × Obj)) : Prop := ∀ p ∈ a, p ∈ b
theorem Sub.refl (a : List (Addr × Obj)) : Sub a a := fun _ h => h
theorem Sub.trans {a b c : List (Addr × Obj)} (h : Sub a b) (k : Sub b c) : Sub a c := fun p hp => k p (h p hp)
theorem Sub.mem {a b : List (Addr × Obj)} {p : Addr × Obj} (h : Sub a b) (m : p ∈ a) : p ∈ b := h p m
theorem Sub.cons {a b : List (Addr × Obj)} {p : Addr × Obj} (h : Sub a b) : Sub a (p :: b) := fun q hq => .tail _ (h q hq)
theorem Sub.both {a b : List (Addr × Obj)} {p : Addr × Obj} (h : Sub a b) : Sub (p :: a) (p :: b) := fun q hq => by
  rcases List.mem_cons.mp hq with rfl | hq
  · exact .head _
  · exact .tail _ (h q hq)
theorem Sub.of_cons {a b : List (Addr × Obj)} {p : Addr × Obj} (h : p ∈ b) (k : Sub a b) : Sub (p :: a) b := fun q hq => by
  rcases List.mem_cons.mp hq with rfl | hq
  · exact h
  · exact k q hq
theorem Sub.nil {b : List (Addr × Obj)} : Sub [] b := fun _ h => nomatch h
theorem Sub.left {a b : List (Addr × Obj)} : Sub a (a ++ b) := fun _ h => List.mem_append_left _ h
theorem Sub.right {a b : List (Addr × Obj)} : Sub b (a ++ b) := fun _ h => List.mem_append_right _ h
theorem Sub.app {a b c : List (Addr × Obj)} (h : Sub a c) (k : Sub b c) : Sub (a ++ b) c := fun p hp => (List.mem_append.mp hp).elim (h p) (k p)
theorem News.sub {h₀ h : Heap} {L : Addr} {a b : List (Addr × Obj)} (N : News h₀ L h b) (s : Sub a b) : News h₀ L h a := fun p hp => N p (s p hp)

def off (D : Addr) (news : List (Addr × Obj)) : List (Addr × Obj) := news.filter fun p => p.1 != D
theorem off_ne {D : Addr} {news : List (Addr × Obj)} : ∀ p ∈ off D news, p.1 ≠ D := fun p hp => by
  have := (List.mem_filter.mp hp).2
  simpa using this
theorem off_mem {D : Addr} {news : List (Addr × Obj)} {p : Addr × Obj} (h : p ∈ news) (n : p.1 ≠ D) : p ∈ off D news := List.mem_filter.mpr ⟨h, by simpa using n⟩
theorem off_sub {D : Addr} {news : List (Addr × Obj)} : Sub (off D news) news := fun _ h => (List.mem_filter.mp h).1
theorem News.pull {h₀ h : Heap} {L D : Addr} {o : Obj} {news : List (Addr × Obj)} (N : News h₀ L h news) (m : (D, o) ∈ news) : News h₀ L h ((D, o) :: off D news) :=
  News.sub N (.of_cons m off_sub)

structure Free (G : Shared → Prop) : Prop where
  go : ∀ s h tk, G s → G { s with heap := h, toks := tk }
def Same (s s' : Shared) : Prop := ∃ h tk, s' = { s with heap := h, toks := tk }
theorem Same.refl (s : Shared) : Same s s := ⟨s.heap, s.toks, rfl⟩
theorem Same.free (s : Shared) : Free (Same s) := ⟨by rintro _ h tk ⟨h', tk', rfl⟩; exact ⟨h, tk, rfl⟩⟩
theorem Same.mk {s : Shared} {h : Heap} {tk : Nat} : Same s { s with heap := h, toks := tk } := ⟨h, tk, rfl⟩

def MTurn (h₀ : Heap) (L I : Addr) (rest : List (Addr × Obj)) (G : Shared → Prop) (J K : (Str → Option Value) → List (Addr × Obj) → Prop) (Q : Flow → Shared → Prop) (f : Flow) (s' : Shared) : Prop :=
  match f with
  | .ret v => Q (.ret v) s'
  | .brk => ∃ m' D' nw, Fr h₀ L s'.heap m' ∧ News h₀ L s'.heap nw ∧ Sub (D' ++ rest) nw ∧ K m' D' ∧ G s'
  | _ => ∃ m' D' nw, Fr h₀ L s'.heap m' ∧ News h₀ L s'.heap nw ∧ Sub (D' ++ rest) nw ∧ (∀ p ∈ D', p.1 ≠ I) ∧ J m' D' ∧ G s'

section
variable {prog : Program} {w : World} {A : Around} {s : Shared} {env : Env} {h₀ : Heap} {Q : Flow → Shared → Prop}

theorem for_walks {E : Value → Shared → Prop} {R : Result → Shared → Prop} {x : Str} {px : Pos} {body : List Stmt} {I : Addr} {fp : List Addr} {n : Nat} {P : Nat → Value → Prop} {St : Nat → Heap → Prop} {m : Str → Option Value}
    {D news : List (Addr × Obj)} {G : Shared → Prop} (W : Walks prog w A I fp [I] n P St) (PI : Obj → Prop) (hex : ∀ i h, St i h → ∃ o, h.get? I = some o ∧ PI o) (hx : env.kindOf x = some .local)
    (hp : (env.scope.kind == .class || (env.scope.kind == .module && env.locals != env.globals)) = false)
    (hLf : env.locals ∉ fp) (hI : h₀.get? I = none) (hDI : ∀ p ∈ D, p.1 ≠ I) (hnI : ∀ p ∈ news, p.1 ≠ I)
    (hst : St 0 s.heap) (F : Fr h₀ env.locals s.heap m) (N : News h₀ env.locals s.heap (D ++ news)) (hG : Free G) (g0 : G s)
    (J : Nat → (Str → Option Value) → List (Addr × Obj) → Prop) (K : (Str → Option Value) → List (Addr × Obj) → Prop) (h0 : J 0 m D)
    (step : ∀ i v m₁ D₁ rest s₁, i < n → P i v → J i m₁ D₁ → Sub news rest → (∀ p ∈ rest, p ∈ news ∨ p.1 ∈ fp) → (∃ o, (I, o) ∈ rest ∧ PI o) → (∀ p ∈ D₁, p.1 ≠ I) → G s₁ → Fr h₀ env.locals s₁.heap (fun y => if y = x then some v else m₁ y) → News h₀ env.locals s₁.heap (D₁ ++ rest) →
      wpAny (model prog w) A (execs body env) (MTurn h₀ env.locals I rest G (J (i + 1)) K fun f s' => R (.ok f) s') (fun _ _ => False) s₁)
    (hJK : ∀ m' D', J n m' D' → K m' D')
    (hR : ∀ m' D' s', K m' D' → G s' → Fr h₀ env.locals s'.heap m' → News h₀ env.locals s'.heap (D' ++ news) → R (.ok .next) s') :
    codeAny (model prog w) A (.forLoop (.Name x px) (.ref I) body [] env) R s := by
  have hIf : I ∈ fp := W.sub _ (.head _)
  have hLI : env.locals ≠ I := fun e => hLf (e ▸ hIf)
  have old : ∀ b o, h₀.get? b = some o → b ≠ I := fun b o e hb => by rw [hb, hI] at e; cases e
  refine codeAny_forLoop
    (fun k s' => ∃ m' D' i, G s' ∧ St i s'.heap ∧ Fr h₀ env.locals s'.heap m' ∧ News h₀ env.locals s'.heap (D' ++ news) ∧ (∀ p ∈ D', p.1 ≠ I) ∧ J i m' D' ∧ i ≤ n ∧ k = n + 1 - i) ?_ (n + 1)
    ⟨m, D, 0, g0, hst, F, N, hDI, h0, Nat.zero_le _, rfl⟩
  rintro k s' ⟨m', D', i, g', hst', F', N', hDI', hJ, hi, rfl⟩
  have next : ∀ h₁ : Heap, (∀ b o, b ∉ [I] → s'.heap.get? b = some o → h₁.get? b = some o) → Fr h₀ env.locals h₁ m' ∧ News h₀ env.locals h₁ (D' ++ news) := fun h₁ hk₁ =>
    ⟨⟨F'.ns.at' fun o e => hk₁ _ o (by simpa using hLI) e, fun b o e => hk₁ b o (by simpa using old b o e) (F'.keep b o e), F'.above⟩, fun p hp => ⟨hk₁ _ _ (by
      rcases List.mem_append.mp hp with hp | hp
      · simpa using hDI' p hp
      · simpa using hnI p hp) (N' p hp).1, (N' p hp).2⟩⟩
  by_cases hlt : i < n
  · refine W.item i _ _ _ hlt hst' fun v h₁ tk₁ hP hst₁ hk₁ => ?_
    obtain ⟨F₁, N₁⟩ := next h₁ hk₁
    refine wpAny_assign_Name (wpAny_storeName_local hx F₁.ns (fun h₂ hn₂ hs₂ => ?_) hp)
    have F₂ := F₁.set hn₂ hs₂
    have Nown : News h₀ env.locals h₂ (ownOf h₀ fp h₂) := news_ownOf hLf
    have N₂ : News h₀ env.locals h₂ (D' ++ (news ++ ownOf h₀ fp h₂)) := by
      intro p hp
      rcases List.mem_append.mp hp with hp | hp
      · exact (N₁.set hs₂) p (List.mem_append_left _ hp)
      · rcases List.mem_append.mp hp with hp | hp
        · exact (N₁.set hs₂) p (List.mem_append_right _ hp)
        · exact Nown p hp
    have hst₂ : St (i + 1) h₂ := W.frame _ _ _ hst₁ fun b hb o e => (hs₂.2 b fun q => hLf (q ▸ hb)).trans e
    obtain ⟨oI, hoI, hPI⟩ := hex _ _ hst₂
    refine wpAny_mono (step i v m' D' (news ++ ownOf h₀ fp h₂) _ hlt hP hJ Sub.left (fun p hp => (List.mem_append.mp hp).imp id fun h => ownOf_sub p h) ⟨oI, List.mem_append_right _ (mem_ownOf hIf hI hoI), hPI⟩ hDI' (hG.go _ _ _ (hG.go s' h₁ tk₁ g')) F₂ N₂) (fun f s₃ h₃ => ?_) fun _ _ e => e.elim
    have fin : (∃ m' D' nw, Fr h₀ env.locals s₃.heap m' ∧ News h₀ env.locals s₃.heap nw ∧ Sub (D' ++ (news ++ ownOf h₀ fp h₂)) nw ∧ (∀ p ∈ D', p.1 ≠ I) ∧ J (i + 1) m' D' ∧ G s₃) → ∃ m, m < n + 1 - i ∧ ∃ m' D' i, G s₃ ∧ St i s₃.heap ∧ Fr h₀ env.locals s₃.heap m' ∧ News h₀ env.locals s₃.heap (D' ++ news) ∧ (∀ p ∈ D', p.1 ≠ I) ∧ J i m' D' ∧ i ≤ n ∧ m = n + 1 - i := by
      rintro ⟨m₂, D₂, nw, F₃, N₃, hs₃, hD₃, hJ₃, g₃⟩
      refine ⟨n + 1 - (i + 1), by omega, m₂, D₂, i + 1, g₃, ?_, F₃, fun p hp => N₃ p (hs₃ p ?_), hD₃, hJ₃, hlt, rfl⟩
      · refine W.frame _ _ _ hst₁ fun b hb o e => ?_
        have e₂ : h₂.get? b = some o := (hs₂.2 b fun q => hLf (q ▸ hb)).trans e
        cases hn : h₀.get? b with
        | some o₀ =>
          have : o₀ = o := by have := F₂.keep b o₀ hn; rw [e₂] at this; exact (Option.some.inj this).symm
          exact this ▸ F₃.keep b o₀ hn
        | none => exact (N₃ _ (hs₃ _ (List.mem_append_right _ (List.mem_append_right _ (mem_ownOf hb hn e₂))))).1
      · rcases List.mem_append.mp hp with hp | hp
        · exact List.mem_append_left _ hp
        · exact List.mem_append_right _ (List.mem_append_left _ hp)
    cases f with
    | ret v => exact h₃
    | brk =>
      obtain ⟨m₂, D₂, nw, F₃, N₃, hs₃, hK₃, g₃⟩ := h₃
      exact hR m₂ D₂ s₃ hK₃ g₃ F₃ fun p hp => N₃ p (hs₃ p ((List.mem_append.mp hp).elim (fun h => List.mem_append_left _ h) fun h => List.mem_append_right _ (List.mem_append_left _ h)))
    | cont => exact fin h₃
    | next => exact fin h₃
  · have hin : i = n := by omega
    subst hin
    refine W.done _ _ _ hst' fun h₁ tk₁ hk₁ => wpAny_execs_nil ?_
    obtain ⟨F₁, N₁⟩ := next h₁ hk₁
    exact hR m' D' _ (hJK _ _ hJ) (hG.go _ _ _ g') F₁ N₁

theorem next_new {h : Heap} {L : Addr} {m : Str → Option Value} (F : Fr h₀ L h m) : h₀.get? h.objs.size = none := by
  cases e : h₀.get? h.objs.size with
  | none => rfl
  | some o => exact absurd (Heap.lt_size (F.keep _ _ e)) (Nat.lt_irrefl _)
theorem news_old {h : Heap} {L : Addr} {news : List (Addr × Obj)} (N : News h₀ L h news) : ∀ p ∈ news, p.1 ≠ h.objs.size := fun p hp => Nat.ne_of_lt (Heap.lt_size (N p hp).1)

/-- a loop over a list of the ledger -/
theorem for_listI {E : Value → Shared → Prop} {R : Result → Shared → Prop} {x : Str} {px : Pos} {body : List Stmt} {l : Addr} {vs : List Value} {m : Str → Option Value} {D news : List (Addr × Obj)} {G : Shared → Prop}
    (hh : A.handled = none) (hl : s.heap.IsList l vs.toArray) (hlL : l ≠ env.locals) (hx : env.kindOf x = some .local) (hp : (env.scope.kind == .class || (env.scope.kind == .module && env.locals != env.globals)) = false)
    (F : Fr h₀ env.locals s.heap m) (N : News h₀ env.locals s.heap (D ++ news)) (hG : Free G) (g0 : G s)
    (J : Nat → (Str → Option Value) → List (Addr × Obj) → Prop) (K : (Str → Option Value) → List (Addr × Obj) → Prop) (h0 : J 0 m D)
    (step : ∀ i v m₁ D₁ rest s₁ I, vs[i]? = some v → J i m₁ D₁ → Sub news rest → (∀ p ∈ rest, p ∈ news ∨ p.1 = I ∨ p.1 = l) → (∀ p ∈ D ++ news, p.1 < I) → (∃ o, (I, o) ∈ rest ∧ o.cls = .type "list_iterator") → (∀ p ∈ D₁, p.1 ≠ I) → G s₁ → Fr h₀ env.locals s₁.heap (fun y => if y = x then some v else m₁ y) → News h₀ env.locals s₁.heap (D₁ ++ rest) →
      wpAny (model prog w) A (execs body env) (MTurn h₀ env.locals I rest G (J (i + 1)) K fun f s' => R (.ok f) s') (fun _ _ => False) s₁)
    (hJK : ∀ m' D', J vs.length m' D' → K m' D')
    (hR : ∀ m' D' s', K m' D' → G s' → Fr h₀ env.locals s'.heap m' → News h₀ env.locals s'.heap (D' ++ news) → R (.ok .next) s') :
    wpAny (model prog w) A (pyIter (.ref l)) (fun it s₂ => codeAny (model prog w) A (.forLoop (.Name x px) it body [] env) R s₂) E s := by
  obtain ⟨ol, hol, _⟩ := id hl
  have hne : l ≠ s.heap.objs.size := Nat.ne_of_lt (Heap.lt_size hol)
  refine wpAny_pyIter_list hl ?_
  have W := Walks.list (prog := prog) (w := w) hh s.heap.objs.size l hne vs.toArray
  have hsz : vs.toArray.size = vs.length := by simp
  rw [hsz] at W
  refine for_walks (E := E) (h₀ := h₀) W (fun o => o.cls = .type "list_iterator") (fun i h st => by obtain ⟨⟨o, e, c, _⟩, _⟩ := st; exact ⟨o, e, c⟩) hx hp ?_ (next_new F) (fun p hp => news_old N p (List.mem_append_left _ hp)) (fun p hp => news_old N p (List.mem_append_right _ hp))
    ⟨⟨_, Heap.get?_push_size _ rfl, rfl, rfl⟩, hl.at fun o e => Heap.get?_push_of_some _ e⟩ (F.push _) (fun p hp => ⟨Heap.get?_push_of_some _ (N p hp).1, (N p hp).2⟩) hG (hG.go _ _ s.toks g0) J K h0 ?_ hJK hR
  · intro hm
    rcases List.mem_cons.mp hm with e | hm
    · exact absurd F.ns.lt (e ▸ Nat.lt_irrefl _)
    · exact hlL (List.mem_singleton.mp hm).symm
  · intro i v m₁ D₁ rest s₁ hi hP hJ hs hr hI hD g F' N'
    exact step i v m₁ D₁ rest s₁ _ (by simpa using hP) hJ hs (fun p hp => (hr p hp).imp id fun h => by simpa using h) (fun p hp => Heap.lt_size (N p hp).1) hI hD g F' N'
theorem for_list {E : Value → Shared → Prop} {R : Result → Shared → Prop} {x : Str} {px : Pos} {body : List Stmt} {l : Addr} {vs : List Value} {m : Str → Option Value} {D news : List (Addr × Obj)} {G : Shared → Prop}
    (hh : A.handled = none) (hl : s.heap.IsList l vs.toArray) (hlL : l ≠ env.locals) (hx : env.kindOf x = some .local) (hp : (env.scope.kind == .class || (env.scope.kind == .module && env.locals != env.globals)) = false)
    (F : Fr h₀ env.locals s.heap m) (N : News h₀ env.locals s.heap (D ++ news)) (hG : Free G) (g0 : G s)
    (J : Nat → (Str → Option Value) → List (Addr × Obj) → Prop) (K : (Str → Option Value) → List (Addr × Obj) → Prop) (h0 : J 0 m D)
    (step : ∀ i v m₁ D₁ rest s₁ I, vs[i]? = some v → J i m₁ D₁ → Sub news rest → (∀ p ∈ rest, p ∈ news ∨ p.1 = I ∨ p.1 = l) → (∀ p ∈ D ++ news, p.1 < I) → (∃ o, (I, o) ∈ rest) → (∀ p ∈ D₁, p.1 ≠ I) → G s₁ → Fr h₀ env.locals s₁.heap (fun y => if y = x then some v else m₁ y) → News h₀ env.locals s₁.heap (D₁ ++ rest) →
      wpAny (model prog w) A (execs body env) (MTurn h₀ env.locals I rest G (J (i + 1)) K fun f s' => R (.ok f) s') (fun _ _ => False) s₁)
    (hJK : ∀ m' D', J vs.length m' D' → K m' D')
    (hR : ∀ m' D' s', K m' D' → G s' → Fr h₀ env.locals s'.heap m' → News h₀ env.locals s'.heap (D' ++ news) → R (.ok .next) s') :
    wpAny (model prog w) A (pyIter (.ref l)) (fun it s₂ => codeAny (model prog w) A (.forLoop (.Name x px) it body [] env) R s₂) E s :=
  for_listI hh hl hlL hx hp F N hG g0 J K h0 (fun i v m₁ D₁ rest s₁ I hv hJ hs hr hI hoI hoff g F' N' => step i v m₁ D₁ rest s₁ I hv hJ hs hr hI (hoI.imp fun _ h => h.1) hoff g F' N') hJK hR
theorem for_list0 {E : Value → Shared → Prop} {R : Result → Shared → Prop} {x : Str} {px : Pos} {body : List Stmt} {l : Addr} {vs : List Value} {m : Str → Option Value} {D news : List (Addr × Obj)} {G : Shared → Prop}
    (hh : A.handled = none) (hl : s.heap.IsList l vs.toArray) (hlL : l ≠ env.locals) (hx : env.kindOf x = some .local) (hp : (env.scope.kind == .class || (env.scope.kind == .module && env.locals != env.globals)) = false)
    (F : Fr h₀ env.locals s.heap m) (N : News h₀ env.locals s.heap (D ++ news)) (hG : Free G) (g0 : G s)
    (J : Nat → (Str → Option Value) → List (Addr × Obj) → Prop) (h0 : J 0 m D)
    (step : ∀ i v m₁ D₁ rest s₁ I, vs[i]? = some v → J i m₁ D₁ → Sub news rest → (∀ p ∈ rest, p ∈ news ∨ p.1 = I ∨ p.1 = l) → (∀ p ∈ D ++ news, p.1 < I) → (∃ o, (I, o) ∈ rest) → (∀ p ∈ D₁, p.1 ≠ I) → G s₁ → Fr h₀ env.locals s₁.heap (fun y => if y = x then some v else m₁ y) → News h₀ env.locals s₁.heap (D₁ ++ rest) →
      wpAny (model prog w) A (execs body env) (MTurn h₀ env.locals I rest G (J (i + 1)) (J vs.length) fun f s' => R (.ok f) s') (fun _ _ => False) s₁)
    (hR : ∀ m' D' s', J vs.length m' D' → G s' → Fr h₀ env.locals s'.heap m' → News h₀ env.locals s'.heap (D' ++ news) → R (.ok .next) s') :
    wpAny (model prog w) A (pyIter (.ref l)) (fun it s₂ => codeAny (model prog w) A (.forLoop (.Name x px) it body [] env) R s₂) E s :=
  for_list hh hl hlL hx hp F N hG g0 J (J vs.length) h0 step (fun _ _ h => h) hR

/-- a loop over a range by step c ≠ 0, its size known -/
theorem for_range {E : Value → Shared → Prop} {R : Result → Shared → Prop} {x : Str} {px : Pos} {body : List Stmt} {r : Addr} {a b c : Int} {t u v : Tok} {k : Nat} {m : Str → Option Value} {D news : List (Addr × Obj)} {G : Shared → Prop}
    (hh : A.handled = none) (hr : IsRange s.heap r a b c t u v) (hsm : Builtin.Range.small a b c = true) (hk : Builtin.Range.rangeSize a b c = (k : Int)) (hx : env.kindOf x = some .local) (hp : (env.scope.kind == .class || (env.scope.kind == .module && env.locals != env.globals)) = false)
    (F : Fr h₀ env.locals s.heap m) (N : News h₀ env.locals s.heap (D ++ news)) (hG : Free G) (g0 : G s)
    (J : Nat → (Str → Option Value) → List (Addr × Obj) → Prop) (K : (Str → Option Value) → List (Addr × Obj) → Prop) (h0 : J 0 m D)
    (step : ∀ i tk m₁ D₁ rest s₁ I, i < k → J i m₁ D₁ → Sub news rest → (∀ p ∈ rest, p ∈ news ∨ p.1 = I) → (∀ p ∈ D ++ news, p.1 < I) → (∃ o, (I, o) ∈ rest) → (∀ p ∈ D₁, p.1 ≠ I) → G s₁ → Fr h₀ env.locals s₁.heap (fun y => if y = x then some (.int (a + i * c) tk) else m₁ y) → News h₀ env.locals s₁.heap (D₁ ++ rest) →
      wpAny (model prog w) A (execs body env) (MTurn h₀ env.locals I rest G (J (i + 1)) K fun f s' => R (.ok f) s') (fun _ _ => False) s₁)
    (hJK : ∀ m' D', J k m' D' → K m' D')
    (hR : ∀ m' D' s', K m' D' → G s' → Fr h₀ env.locals s'.heap m' → News h₀ env.locals s'.heap (D' ++ news) → R (.ok .next) s') :
    wpAny (model prog w) A (pyIter (.ref r)) (fun it s₂ => codeAny (model prog w) A (.forLoop (.Name x px) it body [] env) R s₂) E s := by
  refine wpAny_pyIter_range hr hsm ?_
  have W := Walks.range (prog := prog) (w := w) hh s.heap.objs.size a c k
  refine for_walks (E := E) (h₀ := h₀) W (fun _ => True) (fun i h st => ⟨_, st, trivial⟩) hx hp ?_ (next_new F) (fun p hp => news_old N p (List.mem_append_left _ hp)) (fun p hp => news_old N p (List.mem_append_right _ hp))
    ?_ (F.push _) (fun p hp => ⟨Heap.get?_push_of_some _ (N p hp).1, (N p hp).2⟩) hG (hG.go _ _ s.toks g0) J K h0 ?_ hJK hR
  · intro hm
    exact absurd F.ns.lt ((List.mem_singleton.mp hm) ▸ Nat.lt_irrefl _)
  · show IsRangeIter _ _ (a + ((0 : Nat) : Int) * c) ((k : Int) - ((0 : Nat) : Int)) c
    have e1 : a + ((0 : Nat) : Int) * c = a := by simp
    have e2 : (k : Int) - ((0 : Nat) : Int) = Builtin.Range.rangeSize a b c := by rw [hk]; simp
    rw [e1, e2]
    exact Heap.get?_push_size _ rfl
  · rintro i v m₁ D₁ rest s₁ hi ⟨tk, rfl⟩ hJ hs hr hI hD g F' N'
    exact step i tk m₁ D₁ rest s₁ _ hi hJ hs (fun p hp => (hr p hp).imp id fun h => by simpa using h) (fun p hp => Heap.lt_size (N p hp).1) (hI.imp fun _ h => h.1) hD g F' N'
theorem for_range0 {E : Value → Shared → Prop} {R : Result → Shared → Prop} {x : Str} {px : Pos} {body : List Stmt} {r : Addr} {a b c : Int} {t u v : Tok} {k : Nat} {m : Str → Option Value} {D news : List (Addr × Obj)} {G : Shared → Prop}
    (hh : A.handled = none) (hr : IsRange s.heap r a b c t u v) (hsm : Builtin.Range.small a b c = true) (hk : Builtin.Range.rangeSize a b c = (k : Int)) (hx : env.kindOf x = some .local) (hp : (env.scope.kind == .class || (env.scope.kind == .module && env.locals != env.globals)) = false)
    (F : Fr h₀ env.locals s.heap m) (N : News h₀ env.locals s.heap (D ++ news)) (hG : Free G) (g0 : G s)
    (J : Nat → (Str → Option Value) → List (Addr × Obj) → Prop) (h0 : J 0 m D)
    (step : ∀ i tk m₁ D₁ rest s₁ I, i < k → J i m₁ D₁ → Sub news rest → (∀ p ∈ rest, p ∈ news ∨ p.1 = I) → (∀ p ∈ D ++ news, p.1 < I) → (∃ o, (I, o) ∈ rest) → (∀ p ∈ D₁, p.1 ≠ I) → G s₁ → Fr h₀ env.locals s₁.heap (fun y => if y = x then some (.int (a + i * c) tk) else m₁ y) → News h₀ env.locals s₁.heap (D₁ ++ rest) →
      wpAny (model prog w) A (execs body env) (MTurn h₀ env.locals I rest G (J (i + 1)) (J k) fun f s' => R (.ok f) s') (fun _ _ => False) s₁)
    (hR : ∀ m' D' s', J k m' D' → G s' → Fr h₀ env.locals s'.heap m' → News h₀ env.locals s'.heap (D' ++ news) → R (.ok .next) s') :
    wpAny (model prog w) A (pyIter (.ref r)) (fun it s₂ => codeAny (model prog w) A (.forLoop (.Name x px) it body [] env) R s₂) E s :=
  for_range hh hr hsm hk hx hp F N hG g0 J (J k) h0 step (fun _ _ h => h) hR

/-- a loop over a text's signs -/
theorem for_str {E : Value → Shared → Prop} {R : Result → Shared → Prop} {x : Str} {px : Pos} {body : List Stmt} {z : Str} {t : Tok} {m : Str → Option Value} {D news : List (Addr × Obj)} {G : Shared → Prop}
    (hh : A.handled = none) (hx : env.kindOf x = some .local) (hp : (env.scope.kind == .class || (env.scope.kind == .module && env.locals != env.globals)) = false)
    (F : Fr h₀ env.locals s.heap m) (N : News h₀ env.locals s.heap (D ++ news)) (hG : Free G) (g0 : G s)
    (J : Nat → (Str → Option Value) → List (Addr × Obj) → Prop) (K : (Str → Option Value) → List (Addr × Obj) → Prop) (h0 : J 0 m D)
    (step : ∀ i ch tk m₁ D₁ rest s₁ I, z.cps[i]? = some ch → J i m₁ D₁ → Sub news rest → (∀ p ∈ rest, p ∈ news ∨ p.1 = I) → (∀ p ∈ D ++ news, p.1 < I) → (∃ o, (I, o) ∈ rest) → (∀ p ∈ D₁, p.1 ≠ I) → G s₁ → Fr h₀ env.locals s₁.heap (fun y => if y = x then some (.str ⟨#[ch]⟩ tk) else m₁ y) → News h₀ env.locals s₁.heap (D₁ ++ rest) →
      wpAny (model prog w) A (execs body env) (MTurn h₀ env.locals I rest G (J (i + 1)) K fun f s' => R (.ok f) s') (fun _ _ => False) s₁)
    (hJK : ∀ m' D', J z.cps.size m' D' → K m' D')
    (hR : ∀ m' D' s', K m' D' → G s' → Fr h₀ env.locals s'.heap m' → News h₀ env.locals s'.heap (D' ++ news) → R (.ok .next) s') :
    wpAny (model prog w) A (pyIter (.str z t)) (fun it s₂ => codeAny (model prog w) A (.forLoop (.Name x px) it body [] env) R s₂) E s := by
  have key : ∀ (o : Obj) (St : Nat → Heap → Prop), (∀ i h, St i h → ∃ o, h.get? s.heap.objs.size = some o) → Walks prog w A s.heap.objs.size [s.heap.objs.size] [s.heap.objs.size] z.cps.size (SignAt z) St → St 0 (s.heap.push o) →
      codeAny (model prog w) A (.forLoop (.Name x px) (.ref s.heap.objs.size) body [] env) R { s with heap := s.heap.push o } := by
    intro o St hex W st
    refine for_walks (E := E) (h₀ := h₀) W (fun _ => True) (fun i h st => (hex i h st).imp fun _ e => ⟨e, trivial⟩) hx hp ?_ (next_new F) (fun p hp => news_old N p (List.mem_append_left _ hp)) (fun p hp => news_old N p (List.mem_append_right _ hp))
      st (F.push _) (fun p hp => ⟨Heap.get?_push_of_some _ (N p hp).1, (N p hp).2⟩) hG (hG.go _ _ s.toks g0) J K h0 ?_ hJK hR
    · intro hm
      exact absurd F.ns.lt ((List.mem_singleton.mp hm) ▸ Nat.lt_irrefl _)
    · rintro i v m₁ D₁ rest s₁ hi ⟨c, u, hc, rfl⟩ hJ hs hr hI hD g F' N'
      exact step i c u m₁ D₁ rest s₁ _ hc hJ hs (fun p hp => (hr p hp).imp id fun h => by simpa using h) (fun p hp => Heap.lt_size (N p hp).1) (hI.imp fun _ h => h.1) hD g F' N'
  cases ha : z.cps.all (· < 128)
  · exact wpAny_pyIter_wide ha (key _ _ (fun i h st => by obtain ⟨o, e, _⟩ := st; exact ⟨o, e⟩) (Walks.strWide hh _ z t) ⟨_, Heap.get?_push_size _ rfl, rfl, rfl⟩)
  · exact wpAny_pyIter_ascii ha (key _ _ (fun i h st => by obtain ⟨o, e, _⟩ := st; exact ⟨o, e⟩) (Walks.strAscii hh _ z t) ⟨_, Heap.get?_push_size _ rfl, rfl, rfl⟩)
theorem for_str0 {E : Value → Shared → Prop} {R : Result → Shared → Prop} {x : Str} {px : Pos} {body : List Stmt} {z : Str} {t : Tok} {m : Str → Option Value} {D news : List (Addr × Obj)} {G : Shared → Prop}
    (hh : A.handled = none) (hx : env.kindOf x = some .local) (hp : (env.scope.kind == .class || (env.scope.kind == .module && env.locals != env.globals)) = false)
    (F : Fr h₀ env.locals s.heap m) (N : News h₀ env.locals s.heap (D ++ news)) (hG : Free G) (g0 : G s)
    (J : Nat → (Str → Option Value) → List (Addr × Obj) → Prop) (h0 : J 0 m D)
    (step : ∀ i ch tk m₁ D₁ rest s₁ I, z.cps[i]? = some ch → J i m₁ D₁ → Sub news rest → (∀ p ∈ rest, p ∈ news ∨ p.1 = I) → (∀ p ∈ D ++ news, p.1 < I) → (∃ o, (I, o) ∈ rest) → (∀ p ∈ D₁, p.1 ≠ I) → G s₁ → Fr h₀ env.locals s₁.heap (fun y => if y = x then some (.str ⟨#[ch]⟩ tk) else m₁ y) → News h₀ env.locals s₁.heap (D₁ ++ rest) →
      wpAny (model prog w) A (execs body env) (MTurn h₀ env.locals I rest G (J (i + 1)) (J z.cps.size) fun f s' => R (.ok f) s') (fun _ _ => False) s₁)
    (hR : ∀ m' D' s', J z.cps.size m' D' → G s' → Fr h₀ env.locals s'.heap m' → News h₀ env.locals s'.heap (D' ++ news) → R (.ok .next) s') :
    wpAny (model prog w) A (pyIter (.str z t)) (fun it s₂ => codeAny (model prog w) A (.forLoop (.Name x px) it body [] env) R s₂) E s :=
  for_str hh hx hp F N hG g0 J (J z.cps.size) h0 step (fun _ _ h => h) hR
end
def setL (m₀ : Str → Option Value) : List (Str × Value) → Str → Option Value
  | [], y => m₀ y
  | (k, v) :: r, y => if y = k then some v else setL m₀ r y
theorem setL_eq {m m₀ : Str → Option Value} : ∀ {ps : List (Str × Value)}, (∀ p ∈ ps, m p.1 = some p.2) → (∀ z, m₀ z = m z) → ∀ z, setL m₀ ps z = m z
  | [], _, h2, z => h2 z
  | (k, v) :: r, h1, h2, z => by
    unfold setL
    by_cases e : z = k
    · rw [if_pos e, e]; exact (h1 (k, v) (.head _)).symm
    · rw [if_neg e]; exact setL_eq (fun p hp => h1 p (.tail _ hp)) h2 z
abbrev baseOf (vars : List Str) (m m₀ : Str → Option Value) : Str → Option Value := fun z => if vars.contains z then m z else m₀ z
theorem fr_norm {h₀ h : Heap} {L : Addr} {m m₀ : Str → Option Value} (vars : List Str) (ps : List (Str × Value)) (F : Fr h₀ L h m) (h1 : ∀ p ∈ ps, m p.1 = some p.2) (h2 : ∀ z, vars.contains z = false → m z = m₀ z) :
    Fr h₀ L h (setL (baseOf vars m m₀) ps) := by
  have e : setL (baseOf vars m m₀) ps = m := by
    funext z
    refine setL_eq h1 (fun z => ?_) z
    cases hz : vars.contains z with
    | true => show (if vars.contains z = true then m z else m₀ z) = m z; rw [if_pos hz]
    | false => show (if vars.contains z = true then m z else m₀ z) = m z; rw [if_neg (by rw [hz]; exact Bool.false_ne_true)]; exact (h2 z hz).symm
  rw [e]; exact F
structure Vars (m m₀ : Str → Option Value) (vars : List Str) (ps : List (Str × Value)) : Prop where
  at_ : ∀ p ∈ ps, m p.1 = some p.2
  rest : ∀ z, vars.contains z = false → m z = m₀ z
theorem Vars.fr {h₀ h : Heap} {L : Addr} {m m₀ : Str → Option Value} {vars : List Str} {ps : List (Str × Value)} (V : Vars m m₀ vars ps) (F : Fr h₀ L h m) : Fr h₀ L h (setL (baseOf vars m m₀) ps) := fr_norm vars ps F V.at_ V.rest
theorem Vars.frx {h₀ h : Heap} {L : Addr} {m m₀ : Str → Option Value} {vars : List Str} {ps : List (Str × Value)} {x : Str} {v : Value} (V : Vars m m₀ vars ps) (F : Fr h₀ L h (fun y => if y = x then some v else m y)) :
    Fr h₀ L h (fun y => if y = x then some v else setL (baseOf vars m m₀) ps y) := by
  have e : setL (baseOf vars m m₀) ps = m := by
    funext z
    refine setL_eq V.at_ (fun z => ?_) z
    cases hz : vars.contains z with
    | true => show (if vars.contains z = true then m z else m₀ z) = m z; rw [if_pos hz]
    | false => show (if vars.contains z = true then m z else m₀ z) = m z; rw [if_neg (by rw [hz]; exact Bool.false_ne_true)]; exact (V.rest z hz).symm
  rw [e]; exact F
/-- a frame's names with one more -/
abbrev upd (m : Str → Option Value) (x : Str) (v : Value) : Str → Option Value := fun y => if y = x then some v else m y
theorem Vars.frL {h₀ h : Heap} {L : Addr} {m m₀ : Str → Option Value} {vars : List Str} {ps : List (Str × Value)} {C : Prop} (V : Vars m m₀ vars ps) (F : Fr h₀ L h m) (k : let m1 := setL (baseOf vars m m₀) ps; Fr h₀ L h m1 → C) : C := k (V.fr F)
theorem Vars.frxL {h₀ h : Heap} {L : Addr} {m m₀ : Str → Option Value} {vars : List Str} {ps : List (Str × Value)} {x : Str} {v : Value} {C : Prop} (V : Vars m m₀ vars ps) (F : Fr h₀ L h (fun y => if y = x then some v else m y))
    (k : let m1 := setL (baseOf vars m m₀) ps; let m2 := upd m1 x v; Fr h₀ L h m2 → C) : C := k (V.frx F)
theorem frI {h₀ h : Heap} {L : Addr} {m : Str → Option Value} {x : Str} {n n' : Int} {tk : Tok} {C : Prop} (F : Fr h₀ L h (upd m x (.int n tk))) (e : n = n') (k : let m1 := upd m x (.int n' tk); Fr h₀ L h m1 → C) : C := by subst e; exact k F
theorem vr_upd {m m₀ : Str → Option Value} {x : Str} {v : Value} {vars : List Str} (h : ∀ z, vars.contains z = false → m z = m₀ z) (hx : vars.contains x = true) : ∀ z, vars.contains z = false → upd m x v z = m₀ z := fun z hz => by
  unfold upd; rw [if_neg (fun e => by rw [e, hx] at hz; cases hz)]; exact h z hz
theorem vr_set {m m₀ : Str → Option Value} {vars : List Str} (h : ∀ z, vars.contains z = false → m z = m₀ z) : ∀ {ps : List (Str × Value)}, (ps.all fun p => vars.contains p.1) = true → ∀ z, vars.contains z = false → setL m ps z = m₀ z
  | [], _, z, hz => h z hz
  | (k, v) :: r, hp, z, hz => by
    have hp' : (vars.contains k && r.all fun p => vars.contains p.1) = true := hp
    rw [Bool.and_eq_true] at hp'
    unfold setL; rw [if_neg (fun e => by rw [e, hp'.1] at hz; cases hz)]
    exact vr_set h hp'.2 z hz
theorem vr_base {m m₀ : Str → Option Value} {vars : List Str} : ∀ z, vars.contains z = false → baseOf vars m m₀ z = m₀ z := fun z hz => by
  show (if vars.contains z then m z else m₀ z) = _; rw [hz]; rfl
theorem vr_nil {m₀ : Str → Option Value} {vars : List Str} : ∀ z, vars.contains z = false → m₀ z = m₀ z := fun _ _ => rfl
theorem not_in_cons {z k : Str} {r : List Str} (h : (k :: r).contains z = false) : z ≠ k ∧ r.contains z = false := by
  rw [List.contains_cons] at h
  simp only [Bool.or_eq_false_iff] at h
  exact ⟨by simpa using h.1, h.2⟩
end
section
/-- what stands where a body is walked -/
structure At (w : World) (base g : Heap) (L' : Addr) (A : Around) (outer : List Env) (news : List (Addr × Obj)) (s : Shared) (m : Str → Option Value) : Prop where
  B : Below A base outer g
  F : Fr g L' s.heap m
  X : (hd.heap_1 w.params).In g
  N : News g L' s.heap news

def Spec (prog : Program) (w : World) (need : Nat) (f : Addr) (vs : List Value) (news : List (Addr × Obj)) (Post : Value → List (Addr × Obj) → Prop) : Prop :=
  ∀ (p : Program) (loose : List Str) (mean : ExcName → Option Value) (mg mb : Str → Option Value) (dp un : Nat) (gd : Option (List Code)) (cn : Str) (cs : Scope) (L a : Addr) (ccd : Value) (cl : List (Str × Addr)) (outer : List Env) (A₀ : Around) (base h₀ : Heap) (m : Str → Option Value) (s : Shared) (Q E : Value → Shared → Prop),
    Below A₀ base outer h₀ → Fr h₀ L s.heap m → (hd.heap_1 w.params).In h₀ → News h₀ L s.heap news → Top p loose mean mg mb h₀ → cs.kind = .function → dp + need < recursionLimit → un + 8 * need + 100 < cLine →
    (∀ r news' h' tk', Fr h₀ L h' m → News h₀ L h' news' → Post r news' → Q r { s with heap := h', toks := tk' }) →
    wpAny (model prog w) (ktrTop dp un gd cn cs L a ccd cl outer) (call (.ref f) vs) Q E s

def retOf : Flow → Value
  | .ret v => v
  | _ => .none
def Done (g : Heap) (L' : Addr) (s : Shared) (Post : Value → List (Addr × Obj) → Prop) (fl : Flow) (s' : Shared) : Prop :=
  Same s s' ∧ ∃ m' news', Fr g L' s'.heap m' ∧ News g L' s'.heap news' ∧ Post (retOf fl) news'

theorem Spec.of {prog : Program} {w : World} {need : Nat} {f : Addr} {vs : List Value} {news : List (Addr × Obj)} {Post : Value → List (Addr × Obj) → Prop}
    {name qual : Str} {params : Arguments} {body : List Stmt} {scope : Scope} {dV kV doc pm cdv ct oc : Value} {an od : Option Addr} {osl : Array (Option Value)} (binds : List (Str × Value))
    (ho : (hd.heap_1 w.params).lookup f = some ⟨oc, od, .func (fnOf name qual params body scope dV kV doc pm an cdv ct), osl⟩) (hcd : codeIn (hd.heap_1 w.params) cdv qual = true)
    (hbind : bindArgs (fnOf name qual params body scope dV kV doc pm an cdv ct) ⟨vs, []⟩ = pure binds) (hloc : (binds.all fun x => decide (scope.names.lookup x.1 = some .local)) = true)
    (h : ∀ (p : Program) (loose : List Str) (mean : ExcName → Option Value) (mg mb : Str → Option Value) (dp un : Nat) (gd : Option (List Code)) (outer : List Env) (A₀ : Around) (base g : Heap) (L' : Addr) (s : Shared), let A1 := ktrTop dp un gd qual scope L' f cdv [] outer; let m0 := setL (fun _ => none) binds.reverse; let E1 := envOf qual scope L' f cdv;
      Below A₀ base outer g → Fr g L' s.heap m0 → (hd.heap_1 w.params).In g → News g L' s.heap news → Top p loose mean mg mb g → dp + need < recursionLimit → un + 8 * need + 100 < cLine →
      wpAny (model prog w) A1 (execs body E1) (Done g L' s Post) (fun _ _ => False) s)
    (hco : scope.isCoroutine = false) (hgen : scope.isGenerator = false) (hk : scope.kind = .function) (hcell : ∀ x ∈ scope.names, x.2 ≠ .cell) :
    Spec prog w (need + 1) f vs news Post := by
  intro p loose mean mg mb dp un gd cn cs L a ccd cl outer A₀ base h₀ m s Q E B F X N T hke hdp hun ret
  refine wpAny_call ?_
  refine code_def (binds := binds) B F X N T rfl rfl hke ho hcd (Nat.lt_of_le_of_lt (Nat.le_add_right _ _) hdp) (BindsTo.of_eq hbind) (locs hloc) (fun g L' h₁ FG F' N' B' X' T' => ?_) hco hgen hk hcell
  refine wpAny_noRaise ?_
  have hm : (fun y => binds.reverse.lookup y) = setL (fun _ => none) binds.reverse := by
    funext y
    generalize binds.reverse = l
    induction l with
    | nil => rfl
    | cons x l ih =>
      obtain ⟨k, v⟩ := x
      rw [List.lookup_cons]
      show _ = if y = k then some v else setL _ l y
      by_cases e : y = k
      · subst e; simp
      · have : (y == k) = false := by simpa using e
        rw [this, if_neg e]; exact ih
  rw [hm] at F'
  refine wpAny_mono (h p loose mean mg mb (dp + 1) (un + 3) gd (envX cn cs L a ccd cl :: outer) _ base g L' { s with heap := h₁, toks := s.toks + binds.length } B' F' X' N' T' (by omega) (by omega)) (fun fl s' hd => ?_) fun _ _ e => e
  obtain ⟨⟨h', tk', rfl⟩, m', news', F₂, N₂, P⟩ := hd
  refine leaveK_ F₂ N₂ fun F₃ N₃ => ?_
  cases fl <;> exact ret _ _ _ _ F₃ N₃ P
theorem Spec.more {prog : Program} {w : World} {n n' : Nat} {f : Addr} {vs : List Value} {news : List (Addr × Obj)} {Post : Value → List (Addr × Obj) → Prop} (C : Spec prog w n f vs news Post) (h : n ≤ n') : Spec prog w n' f vs news Post := by
  intro p loose mean mg mb dp un gd cn cs L a ccd cl outer A₀ base h₀ m s Q E B F X N T hke hdp hun ret
  exact C p loose mean mg mb dp un gd cn cs L a ccd cl outer A₀ base h₀ m s Q E B F X N T hke (Nat.lt_of_le_of_lt (Nat.add_le_add_left h dp) hdp) (Nat.lt_of_le_of_lt (Nat.add_le_add_right (Nat.add_le_add_left (Nat.mul_le_mul_left 8 h) un) 100) hun) ret
theorem Spec.mono {prog : Program} {w : World} {n : Nat} {f : Addr} {vs : List Value} {news : List (Addr × Obj)} {Post Post' : Value → List (Addr × Obj) → Prop} (C : Spec prog w n f vs news Post) (h : ∀ r n', Post r n' → Post' r n') : Spec prog w n f vs news Post' := by
  intro p loose mean mg mb dp un gd cn cs L a ccd cl outer A₀ base h₀ m s Q E B F X N T hke hdp hun ret
  exact C p loose mean mg mb dp un gd cn cs L a ccd cl outer A₀ base h₀ m s Q E B F X N T hke hdp hun fun r n' h' tk' F N P => ret r n' h' tk' F N (h _ _ P)

/-- the state at the root of a nest of changes of heap and tokens -/
class Root (s : Shared) (t : outParam Shared) : Prop where
  eq : s.gens = t.gens ∧ s.drawn = t.drawn ∧ s.os = t.os
instance (priority := low) Root.here (t : Shared) : Root t t := ⟨rfl, rfl, rfl⟩
instance Root.step {h : Heap} {k : Nat} (s t : Shared) [R : Root s t] : Root (Shared.mk h s.gens s.drawn k s.os) t := ⟨R.eq⟩
theorem Root.st {s t : Shared} (R : Root s t) (h : Heap) (k : Nat) : ({ t with heap := h, toks := k } : Shared) = { s with heap := h, toks := k } := by
  obtain ⟨a, b, c⟩ := R.eq
  show Shared.mk .. = Shared.mk ..
  rw [a, b, c]
theorem Spec.use {prog : Program} {w : World} {n : Nat} {f : Addr} {vs : List Value} {news : List (Addr × Obj)} {Post : Value → List (Addr × Obj) → Prop} (C : Spec prog w n f vs news Post)
    {p : Program} {loose : List Str} {mean : ExcName → Option Value} {mg mb : Str → Option Value} {dp un : Nat} {gd : Option (List Code)} {cn : Str} {cs : Scope} {L a : Addr} {ccd : Value} {cl : List (Str × Addr)} {outer : List Env} {A₀ : Around} {base h₀ : Heap} {m : Str → Option Value} {s t : Shared} {Q E : Value → Shared → Prop}
    (B : Below A₀ base outer h₀) (F : Fr h₀ L s.heap m) (X : (hd.heap_1 w.params).In h₀) (N : News h₀ L s.heap news) (T : Top p loose mean mg mb h₀) (hke : cs.kind = .function) (hdp : dp + n < recursionLimit) (hun : un + 8 * n + 100 < cLine)
    [R : Root s t] (ret : ∀ r news' h' tk', Fr h₀ L h' m → News h₀ L h' news' → Post r news' → Q r { t with heap := h', toks := tk' }) :
    wpAny (model prog w) (ktrTop dp un gd cn cs L a ccd cl outer) (call (.ref f) vs) Q E s := C p loose mean mg mb dp un gd cn cs L a ccd cl outer A₀ base h₀ m s Q E B F X N T hke hdp hun fun r n h k f n' p => R.st h k ▸ ret r n h k f n' p
theorem Spec.go {prog : Program} {w : World} {n : Nat} {f : Addr} {vs : List Value} {news : List (Addr × Obj)} {Post : Value → List (Addr × Obj) → Prop}
    {p : Program} {loose : List Str} {mean : ExcName → Option Value} {mg mb : Str → Option Value} {dp un : Nat} {gd : Option (List Code)} {cn : Str} {cs : Scope} {L a : Addr} {ccd : Value} {cl : List (Str × Addr)} {outer : List Env} {A₀ : Around} {base h₀ : Heap} {m : Str → Option Value} {s t : Shared} {Q E : Value → Shared → Prop}
    [R : Root s t]
    (B : Below A₀ base outer h₀ := by k_asm) (F : Fr h₀ L s.heap m := by k_asm) (X : (hd.heap_1 w.params).In h₀ := by k_asm) (N : News h₀ L s.heap news := by k_asm) (T : Top p loose mean mg mb h₀ := by k_asm) (C : Spec prog w n f vs news Post) (ret : ∀ r news' h' tk', Fr h₀ L h' m → News h₀ L h' news' → Post r news' → Q r { t with heap := h', toks := tk' })
    (hke : cs.kind = .function := by exact rfl) (hdp : dp + n < recursionLimit := by walk_at "dp") (hun : un + 8 * n + 100 < cLine := by walk_at "un") :
    wpAny (model prog w) (ktrTop dp un gd cn cs L a ccd cl outer) (call (.ref f) vs) Q E s := Spec.use C B F X N T hke hdp hun ret
section
variable {M : Model} {A : Around} {E : Value → Shared → Prop} {s t : Shared} {h₀ : Heap} {L a : Addr} {m : Str → Option Value} {cn : Str} {cs : Scope} {ccd : Value} {cl : List (Str × Addr)} {x : Str} {Q : Unit → Shared → Prop} {news : List (Addr × Obj)}
theorem storeR {v : Value} [R : Root s t] (h : ∀ h' k, let m1 := upd m x v; Fr h₀ L h' m1 → News h₀ L h' news → Q () { t with heap := h', toks := k })
    (F : Fr h₀ L s.heap m := by k_asm) (N : News h₀ L s.heap news := by k_asm) (hk : cs.kind = .function := by rfl) (hx : (envX cn cs L a ccd cl).kindOf x = some .local := by rfl) : wpAny M A (storeName (envX cn cs L a ccd cl) x v) Q E s :=
  storeX_L F N (fun h' F' N' => R.st h' (s.toks + 1) ▸ h h' (s.toks + 1) F' N') hk hx
theorem storeI {n : Int} {u : Shared} [R : Root s t] (h : ∀ tk h' k, let m1 := upd m x (.int n tk); Fr h₀ L h' m1 → News h₀ L h' news → Q () { t with heap := h', toks := k })
    (F : Fr h₀ L s.heap m := by k_asm) (N : News h₀ L s.heap news := by k_asm) (hk : cs.kind = .function := by rfl) (hx : (envX cn cs L a ccd cl).kindOf x = some .local := by rfl) : wpAny M A (storeName (envX cn cs L a ccd cl) x (.int n u.toks)) Q E s := storeR (h u.toks) F N hk hx
theorem storeS {z : Str} {u : Shared} [R : Root s t] (h : ∀ tk h' k, let m1 := upd m x (.str z tk); Fr h₀ L h' m1 → News h₀ L h' news → Q () { t with heap := h', toks := k })
    (F : Fr h₀ L s.heap m := by k_asm) (N : News h₀ L s.heap news := by k_asm) (hk : cs.kind = .function := by rfl) (hx : (envX cn cs L a ccd cl).kindOf x = some .local := by rfl) : wpAny M A (storeName (envX cn cs L a ccd cl) x (.str z u.toks)) Q E s := storeR (h u.toks) F N hk hx
theorem storeF {z : UInt64} {u : Shared} [R : Root s t] (h : ∀ tk h' k, let m1 := upd m x (.float z tk); Fr h₀ L h' m1 → News h₀ L h' news → Q () { t with heap := h', toks := k })
    (F : Fr h₀ L s.heap m := by k_asm) (N : News h₀ L s.heap news := by k_asm) (hk : cs.kind = .function := by rfl) (hx : (envX cn cs L a ccd cl).kindOf x = some .local := by rfl) : wpAny M A (storeName (envX cn cs L a ccd cl) x (.float z u.toks)) Q E s := storeR (h u.toks) F N hk hx
end
theorem tupR {M : Model} {A : Around} {E Q : Value → Shared → Prop} {s t : Shared} {h₀ : Heap} {L : Addr} {m : Str → Option Value} {vs : List Value} {news : List (Addr × Obj)} [R : Root s t]
    (h : ∀ D h' k, Fr h₀ L h' m → News h₀ L h' ((D, ({ cls := .type "tuple", data := .seq vs.toArray } : Obj)) :: news) → (∀ p ∈ news, p.1 < D) → Q (.ref D) { t with heap := h', toks := k })
    (F : Fr h₀ L s.heap m := by k_asm) (N : News h₀ L s.heap news := by k_asm) (hz : vs.length ≤ sizeLine := by exact Nat.le_of_ble_eq_true rfl) : wpAny M A (newTuple vs) Q E s :=
  kup_newTuple F N (fun D h' F' N' l => R.st h' s.toks ▸ h D h' s.toks F' N' l) hz
section
variable {prog : Program} {w : World} {A : Around} {E : Value → Shared → Prop} {s : Shared} {h₀ : Heap} {L : Addr} {m : Str → Option Value} {env : Env} {ct elt iter : Expr} {x y : Str} {px py : Pos} {scope : Scope} {cl : List (Str × Addr)} {pos spos : Pos}
theorem compU {Q : Value → Shared → Prop} (h : wpAny (model prog w) A (eval iter env) (LCg.CompSrc prog w A h₀ L m env elt x scope cl (fun s₂ => LCg.FinE h₀ L m s₂ Q)) E s)
    (F₀ : Fr h₀ L s.heap m := by k_asm) (hclos : closureFor scope env = pure cl := by with_unfolding_all rfl) (hcell : ∀ y ∈ scope.names, y.2 ≠ .cell := by decide) (hkind : scope.kind = .function := by rfl)
    (hnames : ∀ y ∈ scope.names, y.2 = .local → scope.names.lookup y.1 = some .local := by decide) (hx : scope.names.lookup x = some .local := by rfl) (hs : ∀ x, foldedSetIterable iter env x = pure x := by intro _; rfl) :
    wpAny (model prog w) A (eval (.ListComp elt [⟨.Name x px, iter, [], 0⟩] scope pos) env) Q E s := LCg.ListComp_U F₀ hclos hcell hkind hnames hx h hs
theorem compT {Q : Value → Shared → Prop} (h : wpAny (model prog w) A (eval iter env) (LCt.CompSrcT prog w A h₀ L m env ct elt x scope cl (fun s₂ => LCg.FinE h₀ L m s₂ Q)) E s)
    (F₀ : Fr h₀ L s.heap m := by k_asm) (hclos : closureFor scope env = pure cl := by with_unfolding_all rfl) (hcell : ∀ y ∈ scope.names, y.2 ≠ .cell := by decide) (hkind : scope.kind = .function := by rfl)
    (hnames : ∀ y ∈ scope.names, y.2 = .local → scope.names.lookup y.1 = some .local := by decide) (hx : scope.names.lookup x = some .local := by rfl) (hs : ∀ x, foldedSetIterable iter env x = pure x := by intro _; rfl) :
    wpAny (model prog w) A (eval (.ListComp elt [⟨.Name x px, iter, [ct], 0⟩] scope pos) env) Q E s := LCt.ListComp_T F₀ hclos hcell hkind hnames hx h hs
theorem asgU {Q : Flow → Shared → Prop} (h : wpAny (model prog w) A (eval iter env) (LCg.CompSrc prog w A h₀ L m env elt x scope cl (fun s₂ => LCg.FinA h₀ L m s₂ y Q)) E s)
    (F₀ : Fr h₀ L s.heap m := by k_asm) (hLe : env.locals = L := by rfl) (hsw : swapsWith (.ListComp elt [⟨.Name x px, iter, [], 0⟩] scope pos) (some (.Name y py)) spos.line env = pure true := by with_unfolding_all rfl)
    (hclos : closureFor scope env = pure cl := by with_unfolding_all rfl) (hcell : ∀ z ∈ scope.names, z.2 ≠ .cell := by decide) (hkind : scope.kind = .function := by rfl)
    (hnames : ∀ z ∈ scope.names, z.2 = .local → scope.names.lookup z.1 = some .local := by decide) (hx : scope.names.lookup x = some .local := by rfl)
    (hy : env.kindOf y = some .local := by rfl) (hp : (env.scope.kind == .class || (env.scope.kind == .module && env.locals != env.globals)) = false := by rfl) (hs : ∀ x, foldedSetIterable iter env x = pure x := by intro _; rfl) :
    wpAny (model prog w) A (exec (.Assign [.Name y py] (.ListComp elt [⟨.Name x px, iter, [], 0⟩] scope pos) spos) env) Q E s := LCg.Assign_ListComp_U F₀ hLe hsw hclos hcell hkind hnames hx hy hp h hs
theorem asgT {Q : Flow → Shared → Prop} (h : wpAny (model prog w) A (eval iter env) (LCt.CompSrcT prog w A h₀ L m env ct elt x scope cl (fun s₂ => LCg.FinA h₀ L m s₂ y Q)) E s)
    (F₀ : Fr h₀ L s.heap m := by k_asm) (hLe : env.locals = L := by rfl) (hsw : swapsWith (.ListComp elt [⟨.Name x px, iter, [ct], 0⟩] scope pos) (some (.Name y py)) spos.line env = pure true := by with_unfolding_all rfl)
    (hclos : closureFor scope env = pure cl := by with_unfolding_all rfl) (hcell : ∀ z ∈ scope.names, z.2 ≠ .cell := by decide) (hkind : scope.kind = .function := by rfl)
    (hnames : ∀ z ∈ scope.names, z.2 = .local → scope.names.lookup z.1 = some .local := by decide) (hx : scope.names.lookup x = some .local := by rfl)
    (hy : env.kindOf y = some .local := by rfl) (hp : (env.scope.kind == .class || (env.scope.kind == .module && env.locals != env.globals)) = false := by rfl) (hs : ∀ x, foldedSetIterable iter env x = pure x := by intro _; rfl) :
    wpAny (model prog w) A (exec (.Assign [.Name y py] (.ListComp elt [⟨.Name x px, iter, [ct], 0⟩] scope pos) spos) env) Q E s := LCt.Assign_ListComp_T F₀ hLe hsw hclos hcell hkind hnames hx hy hp h hs
end
/-- a test: what hangs on it behind a variable -/
def KB (Q : Bool → Shared → Prop) (b : Bool) (s : Shared) : Prop := Q b s
structure ImpB (T F : Shared → Prop) (Q : Bool → Shared → Prop) : Prop where
  t : ∀ s, T s → Q true s
  f : ∀ s, F s → Q false s
theorem ifB {T F : Shared → Prop} {Q : Bool → Shared → Prop} {b : Bool} {s : Shared} (a : ImpB T F Q) (h : if b = true then T s else F s) : KB Q b s := by
  cases b
  · exact a.f s h
  · exact a.t s h
theorem ifK {M : Model} {A : Around} {E : Value → Shared → Prop} {s : Shared} {env : Env} {Q : Flow → Shared → Prop} {test : Expr} {body orelse : List Stmt} {pos : Pos}
    (h : ∀ QB, ImpB (fun s => wpAny M A (execs body env) Q E s) (fun s => wpAny M A (execs orelse env) Q E s) QB → wpAny M A (isTrue test env (eval test env)) (KB QB) E s) : wpAny M A (exec (.If test body orelse pos) env) Q E s :=
  wpAny_If (h (fun b s => if b then wpAny M A (execs body env) Q E s else wpAny M A (execs orelse env) Q E s) ⟨fun _ h => h, fun _ h => h⟩)
/-- a statement whose ways are joined: the same names, the ledger W x, and P x -/
def CutN (t : Shared) (g : Heap) (L : Addr) (m : Str → Option Value) {X : Type} (W : X → List (Addr × Obj)) (P : X → Prop) (fl : Flow) (s' : Shared) : Prop :=
  fl = .next ∧ ∃ x h' tk', s' = { t with heap := h', toks := tk' } ∧ Fr g L h' m ∧ News g L h' (W x) ∧ P x
theorem CutN.mk {t : Shared} {g h' : Heap} {L : Addr} {m : Str → Option Value} {X : Type} {W : X → List (Addr × Obj)} {P : X → Prop} {tk' : Nat} (x : X) (F : Fr g L h' m) (N : News g L h' (W x)) (p : P x) : CutN t g L m W P .next { t with heap := h', toks := tk' } :=
  ⟨rfl, x, _, _, rfl, F, N, p⟩
theorem cutN {M : Model} {A : Around} {E : Value → Shared → Prop} {s t : Shared} {g : Heap} {L : Addr} {m : Str → Option Value} {st : Sem Flow} {Q : Flow → Shared → Prop} {X : Type} [R : Root s t] (F : Fr g L s.heap m) (W : X → List (Addr × Obj)) (P : X → Prop)
    (h1 : wpAny M A st (CutN t g L m W P) (fun _ _ => False) s)
    (h2 : ∀ x h' tk', Fr g L h' m → News g L h' (W x) → P x → Q .next { t with heap := h', toks := tk' }) : wpAny M A st Q E s := by
  refine wpAny_mono h1 (fun fl s' h => ?_) fun _ _ e => e.elim
  obtain ⟨rfl, x, h', tk', rfl, F', N', p⟩ := h
  exact h2 x h' tk' F' N' p
/-- the rest of a walk behind a variable: steps then carry the variable, not the whole rest -/
def KQ (Q : Flow → Shared → Prop) (f : Flow) (s : Shared) : Prop := Q f s
structure Imp (Q Q' : Flow → Shared → Prop) : Prop where
  go : ∀ f s, Q f s → Q' f s
structure After (M : Model) (A : Around) (rest : List Stmt) (env : Env) (Q Q' : Flow → Shared → Prop) (E : Value → Shared → Prop) : Prop where
  next : ∀ s, wpAny M A (execs rest env) Q E s → Q' .next s
  ret : ∀ v s, Q (.ret v) s → Q' (.ret v) s
  brk : ∀ s, Q .brk s → Q' .brk s
  cont : ∀ s, Q .cont s → Q' .cont s
section
variable {M : Model} {A : Around} {E : Value → Shared → Prop} {s : Shared} {st : Stmt} {rest : List Stmt} {env : Env} {Q Q' : Flow → Shared → Prop} {v : Value} {f : Flow}
theorem enterK (h : ∀ Q', Imp Q Q' → wpAny M A (execs rest env) (KQ Q') E s) : wpAny M A (execs rest env) Q E s := h Q ⟨fun _ _ h => h⟩
theorem lastK (h : wpAny M A (exec st env) (KQ Q) E s) : wpAny M A (execs [st] env) (KQ Q) E s :=
  wpAny_execs_cons (wpAny_mono h (fun f s h => match f, h with
    | .next, h => wpAny_execs_nil h
    | .ret _, h => h
    | .brk, h => h
    | .cont, h => h) fun _ _ h => h)
theorem cutK (h : ∀ Q', After M A rest env (KQ Q) Q' E → wpAny M A (exec st env) (KQ Q') E s) : wpAny M A (execs (st :: rest) env) (KQ Q) E s :=
  wpAny_execs_cons (h _ ⟨fun _ h => h, fun _ _ h => h, fun _ h => h, fun _ h => h⟩)
theorem nextK (a : After M A rest env Q Q' E) (h : wpAny M A (execs rest env) Q E s) : KQ Q' .next s := a.next s h
theorem retK (a : After M A rest env Q Q' E) (h : Q (.ret v) s) : KQ Q' (.ret v) s := a.ret v s h
theorem brkK (a : After M A rest env Q Q' E) (h : Q .brk s) : KQ Q' .brk s := a.brk s h
theorem contK (a : After M A rest env Q Q' E) (h : Q .cont s) : KQ Q' .cont s := a.cont s h
theorem impK (a : Imp Q Q') (h : Q f s) : KQ Q' f s := a.go f s h
end
section
variable {prog : Program} {w : World} {A : Around} {s t : Shared} {env : Env} {h₀ : Heap} {Q : Flow → Shared → Prop} {E E' : Value → Shared → Prop} {x : Str} {px : Pos} {body : List Stmt} {m : Str → Option Value} {D news : List (Addr × Obj)}
/-- how a for or while statement goes on behind its loop -/
abbrev RFor (prog : Program) (w : World) (A : Around) (env : Env) (Q : Flow → Shared → Prop) (E : Value → Shared → Prop) : Result → Shared → Prop := fun r s' => PySem.wpAny_For.match_1 (fun _ => Prop) r (fun f => Q f s') (fun e => cameBackBy (model prog w) A env E e s')
theorem forL {l : Addr} {vs : List Value} [R : Root s t] (hl : s.heap.IsList l vs.toArray) (hlL : l ≠ env.locals) (F : Fr h₀ env.locals s.heap m) (N : News h₀ env.locals s.heap (D ++ news))
    (J : Nat → (Str → Option Value) → List (Addr × Obj) → Prop) (h0 : J 0 m D)
    (step : let J0 := J; ∀ i v m₁ D₁ rest hh tk I Q', Imp (MTurn h₀ env.locals I rest (Same t) (J0 (i + 1)) (J0 vs.length) Q) Q' → vs[i]? = some v → J0 i m₁ D₁ → Sub news rest → (∀ p ∈ rest, p ∈ news ∨ p.1 = I ∨ p.1 = l) → (∀ p ∈ D ++ news, p.1 < I) → (∃ o, (I, o) ∈ rest) → (∀ p ∈ D₁, p.1 ≠ I) → Fr h₀ env.locals hh (fun y => if y = x then some v else m₁ y) → News h₀ env.locals hh (D₁ ++ rest) →
      wpAny (model prog w) A (execs body env) (KQ Q') (fun _ _ => False) { t with heap := hh, toks := tk })
    (hR : ∀ m' D' hh tk, J vs.length m' D' → Fr h₀ env.locals hh m' → News h₀ env.locals hh (D' ++ news) → Q .next { t with heap := hh, toks := tk })
    (hh : A.handled = none := by rfl) (hx : env.kindOf x = some .local := by rfl) (hp : (env.scope.kind == .class || (env.scope.kind == .module && env.locals != env.globals)) = false := by rfl) :
    wpAny (model prog w) A (pyIter (.ref l)) (fun it s₂ => codeAny (model prog w) A (.forLoop (.Name x px) it body [] env) (RFor prog w A env Q E) s₂) E' s :=
  for_list0 (G := Same t) hh hl hlL hx hp F N (Same.free _) ⟨s.heap, s.toks, (R.st _ _).symm⟩ J h0
    (fun i v m₁ D₁ rest s₁ I hv hJ hs hr hI hoI hoff g F' N' => by obtain ⟨h1, k1, rfl⟩ := g; exact step i v m₁ D₁ rest h1 k1 I _ ⟨fun _ _ h => h⟩ hv hJ hs hr hI hoI hoff F' N')
    (fun m' D' s' hJ g F' N' => by obtain ⟨h1, k1, rfl⟩ := g; exact hR m' D' h1 k1 hJ F' N')
theorem forR {r : Addr} {a b c : Int} {t1 u1 v1 : Tok} {k : Nat} [R : Root s t] (hr : IsRange s.heap r a b c t1 u1 v1) (hsm : Builtin.Range.small a b c = true) (hk : Builtin.Range.rangeSize a b c = (k : Int)) (F : Fr h₀ env.locals s.heap m) (N : News h₀ env.locals s.heap (D ++ news))
    (J : Nat → (Str → Option Value) → List (Addr × Obj) → Prop) (h0 : J 0 m D)
    (step : let J0 := J; ∀ i tk m₁ D₁ rest hh tk' I Q', Imp (MTurn h₀ env.locals I rest (Same t) (J0 (i + 1)) (J0 k) Q) Q' → i < k → J0 i m₁ D₁ → Sub news rest → (∀ p ∈ rest, p ∈ news ∨ p.1 = I) → (∀ p ∈ D ++ news, p.1 < I) → (∃ o, (I, o) ∈ rest) → (∀ p ∈ D₁, p.1 ≠ I) → Fr h₀ env.locals hh (fun y => if y = x then some (.int (a + i * c) tk) else m₁ y) → News h₀ env.locals hh (D₁ ++ rest) →
      wpAny (model prog w) A (execs body env) (KQ Q') (fun _ _ => False) { t with heap := hh, toks := tk' })
    (hR : ∀ m' D' hh tk, J k m' D' → Fr h₀ env.locals hh m' → News h₀ env.locals hh (D' ++ news) → Q .next { t with heap := hh, toks := tk })
    (hh : A.handled = none := by rfl) (hx : env.kindOf x = some .local := by rfl) (hp : (env.scope.kind == .class || (env.scope.kind == .module && env.locals != env.globals)) = false := by rfl) :
    wpAny (model prog w) A (pyIter (.ref r)) (fun it s₂ => codeAny (model prog w) A (.forLoop (.Name x px) it body [] env) (RFor prog w A env Q E) s₂) E' s :=
  for_range0 (G := Same t) hh hr hsm hk hx hp F N (Same.free _) ⟨s.heap, s.toks, (R.st _ _).symm⟩ J h0
    (fun i tk m₁ D₁ rest s₁ I hv hJ hs hr hI hoI hoff g F' N' => by obtain ⟨h1, k1, rfl⟩ := g; exact step i tk m₁ D₁ rest h1 k1 I _ ⟨fun _ _ h => h⟩ hv hJ hs hr hI hoI hoff F' N')
    (fun m' D' s' hJ g F' N' => by obtain ⟨h1, k1, rfl⟩ := g; exact hR m' D' h1 k1 hJ F' N')
theorem forS {z : Str} {t1 : Tok} [R : Root s t] (F : Fr h₀ env.locals s.heap m) (N : News h₀ env.locals s.heap (D ++ news))
    (J : Nat → (Str → Option Value) → List (Addr × Obj) → Prop) (K : (Str → Option Value) → List (Addr × Obj) → Prop) (h0 : J 0 m D)
    (step : let J0 := J; let K0 := K; ∀ i ch tk m₁ D₁ rest hh tk' I Q', Imp (MTurn h₀ env.locals I rest (Same t) (J0 (i + 1)) K0 Q) Q' → z.cps[i]? = some ch → J0 i m₁ D₁ → Sub news rest → (∀ p ∈ rest, p ∈ news ∨ p.1 = I) → (∀ p ∈ D ++ news, p.1 < I) → (∃ o, (I, o) ∈ rest) → (∀ p ∈ D₁, p.1 ≠ I) → Fr h₀ env.locals hh (fun y => if y = x then some (.str ⟨#[ch]⟩ tk) else m₁ y) → News h₀ env.locals hh (D₁ ++ rest) →
      wpAny (model prog w) A (execs body env) (KQ Q') (fun _ _ => False) { t with heap := hh, toks := tk' })
    (hJK : ∀ m' D', J z.cps.size m' D' → K m' D')
    (hR : ∀ m' D' hh tk, K m' D' → Fr h₀ env.locals hh m' → News h₀ env.locals hh (D' ++ news) → Q .next { t with heap := hh, toks := tk })
    (hh : A.handled = none := by rfl) (hx : env.kindOf x = some .local := by rfl) (hp : (env.scope.kind == .class || (env.scope.kind == .module && env.locals != env.globals)) = false := by rfl) :
    wpAny (model prog w) A (pyIter (.str z t1)) (fun it s₂ => codeAny (model prog w) A (.forLoop (.Name x px) it body [] env) (RFor prog w A env Q E) s₂) E' s :=
  for_str (G := Same t) hh hx hp F N (Same.free _) ⟨s.heap, s.toks, (R.st _ _).symm⟩ J K h0
    (fun i ch tk m₁ D₁ rest s₁ I hv hJ hs hr hI hoI hoff g F' N' => by obtain ⟨h1, k1, rfl⟩ := g; exact step i ch tk m₁ D₁ rest h1 k1 I _ ⟨fun _ _ h => h⟩ hv hJ hs hr hI hoI hoff F' N') hJK
    (fun m' D' s' hJ g F' N' => by obtain ⟨h1, k1, rfl⟩ := g; exact hR m' D' h1 k1 hJ F' N')
/-- the same upon a keeper of your own -/
theorem forLG {l : Addr} {vs : List Value} {G : Shared → Prop} (hl : s.heap.IsList l vs.toArray) (hlL : l ≠ env.locals) (F : Fr h₀ env.locals s.heap m) (N : News h₀ env.locals s.heap (D ++ news)) (hG : Free G) (g0 : G s)
    (J : Nat → (Str → Option Value) → List (Addr × Obj) → Prop) (K : (Str → Option Value) → List (Addr × Obj) → Prop) (h0 : J 0 m D)
    (step : let J0 := J; let K0 := K; ∀ i v m₁ D₁ rest s₁ I Q', Imp (MTurn h₀ env.locals I rest G (J0 (i + 1)) K0 Q) Q' → vs[i]? = some v → J0 i m₁ D₁ → Sub news rest → (∀ p ∈ rest, p ∈ news ∨ p.1 = I ∨ p.1 = l) → (∀ p ∈ D ++ news, p.1 < I) → (∃ o, (I, o) ∈ rest ∧ o.cls = .type "list_iterator") → (∀ p ∈ D₁, p.1 ≠ I) → G s₁ → Fr h₀ env.locals s₁.heap (fun y => if y = x then some v else m₁ y) → News h₀ env.locals s₁.heap (D₁ ++ rest) →
      wpAny (model prog w) A (execs body env) (KQ Q') (fun _ _ => False) s₁)
    (hJK : ∀ m' D', J vs.length m' D' → K m' D')
    (hR : ∀ m' D' s', K m' D' → G s' → Fr h₀ env.locals s'.heap m' → News h₀ env.locals s'.heap (D' ++ news) → Q .next s')
    (hh : A.handled = none := by rfl) (hx : env.kindOf x = some .local := by rfl) (hp : (env.scope.kind == .class || (env.scope.kind == .module && env.locals != env.globals)) = false := by rfl) :
    wpAny (model prog w) A (pyIter (.ref l)) (fun it s₂ => codeAny (model prog w) A (.forLoop (.Name x px) it body [] env) (RFor prog w A env Q E) s₂) E' s :=
  for_listI hh hl hlL hx hp F N hG g0 J K h0 (fun i v m₁ D₁ rest s₁ I hv hJ hs hr hI hoI hoff g F' N' => step i v m₁ D₁ rest s₁ I _ ⟨fun _ _ h => h⟩ hv hJ hs hr hI hoI hoff g F' N') hJK hR
theorem forRG {r : Addr} {a b c : Int} {t1 u1 v1 : Tok} {k : Nat} {G : Shared → Prop} (hr : IsRange s.heap r a b c t1 u1 v1) (hsm : Builtin.Range.small a b c = true) (hk : Builtin.Range.rangeSize a b c = (k : Int)) (F : Fr h₀ env.locals s.heap m) (N : News h₀ env.locals s.heap (D ++ news)) (hG : Free G) (g0 : G s)
    (J : Nat → (Str → Option Value) → List (Addr × Obj) → Prop) (h0 : J 0 m D)
    (step : let J0 := J; ∀ i tk m₁ D₁ rest s₁ I Q', Imp (MTurn h₀ env.locals I rest G (J0 (i + 1)) (J0 k) Q) Q' → i < k → J0 i m₁ D₁ → Sub news rest → (∀ p ∈ rest, p ∈ news ∨ p.1 = I) → (∀ p ∈ D ++ news, p.1 < I) → (∃ o, (I, o) ∈ rest) → (∀ p ∈ D₁, p.1 ≠ I) → G s₁ → Fr h₀ env.locals s₁.heap (fun y => if y = x then some (.int (a + i * c) tk) else m₁ y) → News h₀ env.locals s₁.heap (D₁ ++ rest) →
      wpAny (model prog w) A (execs body env) (KQ Q') (fun _ _ => False) s₁)
    (hR : ∀ m' D' s', J k m' D' → G s' → Fr h₀ env.locals s'.heap m' → News h₀ env.locals s'.heap (D' ++ news) → Q .next s')
    (hh : A.handled = none := by rfl) (hx : env.kindOf x = some .local := by rfl) (hp : (env.scope.kind == .class || (env.scope.kind == .module && env.locals != env.globals)) = false := by rfl) :
    wpAny (model prog w) A (pyIter (.ref r)) (fun it s₂ => codeAny (model prog w) A (.forLoop (.Name x px) it body [] env) (RFor prog w A env Q E) s₂) E' s :=
  for_range0 hh hr hsm hk hx hp F N hG g0 J h0 (fun i tk m₁ D₁ rest s₁ I hv hJ hs hr hI hoI hoff g F' N' => step i tk m₁ D₁ rest s₁ I _ ⟨fun _ _ h => h⟩ hv hJ hs hr hI hoI hoff g F' N') hR
end
def KS (S : Shared → Prop) (s : Shared) : Prop := S s
structure ImpS (S S' : Shared → Prop) : Prop where
  go : ∀ s, S s → S' s
theorem stopK {S S' : Shared → Prop} {s : Shared} (a : ImpS S S') (h : S s) : KS S' s := a.go s h
theorem dpLe {dp n m r : Nat} (h : dp + m < r := by with_reducible assumption) (k : n ≤ m := by exact Nat.le_of_ble_eq_true rfl) : dp + n < r := Nat.lt_of_le_of_lt (Nat.add_le_add_left k dp) h
theorem unLe {un n m r : Nat} (h : un + 8 * m + 100 < r := by with_reducible assumption) (k : n ≤ m := by exact Nat.le_of_ble_eq_true rfl) : un + 8 * n + 100 < r := Nat.lt_of_le_of_lt (Nat.add_le_add_right (Nat.add_le_add_left (Nat.mul_le_mul_left 8 k) un) 100) h
def IntP (v : Int) (news : List (Addr × Obj)) (r : Value) (news' : List (Addr × Obj)) : Prop := (∃ t, r = .int v t) ∧ news = news'
def BoolP (v : Bool) (news : List (Addr × Obj)) (r : Value) (news' : List (Addr × Obj)) : Prop := r = .bool v ∧ news = news'
def StrP (v : Str) (news : List (Addr × Obj)) (r : Value) (news' : List (Addr × Obj)) : Prop := (∃ t, r = .str v t) ∧ news = news'
theorem doneI {g : Heap} {L' : Addr} {s : Shared} {v x : Int} {t : Tok} {news n' : List (Addr × Obj)} {h : Heap} {tk : Nat} {m : Str → Option Value} (F : Fr g L' h m) (N : News g L' h n') (hs : Sub news n') (e : x = v) :
    Done g L' s (IntP v news) (.ret (.int x t)) { s with heap := h, toks := tk } := ⟨⟨h, tk, rfl⟩, m, news, F, News.sub N hs, ⟨t, by rw [e]; rfl⟩, rfl⟩
theorem doneB {g : Heap} {L' : Addr} {s : Shared} {v x : Bool} {news n' : List (Addr × Obj)} {h : Heap} {tk : Nat} {m : Str → Option Value} (F : Fr g L' h m) (N : News g L' h n') (hs : Sub news n') (e : x = v) :
    Done g L' s (BoolP v news) (.ret (.bool x)) { s with heap := h, toks := tk } := ⟨⟨h, tk, rfl⟩, m, news, F, News.sub N hs, by rw [e]; rfl, rfl⟩
theorem MTurn.next {h₀ : Heap} {L I : Addr} {rest : List (Addr × Obj)} {G : Shared → Prop} {J K : (Str → Option Value) → List (Addr × Obj) → Prop} {Q : Flow → Shared → Prop} {s' : Shared} {m' : Str → Option Value} {D' nw : List (Addr × Obj)}
    (F : Fr h₀ L s'.heap m') (N : News h₀ L s'.heap nw) (hs : Sub (D' ++ rest) nw) (ho : ∀ p ∈ D', p.1 ≠ I) (hG : G s') (hJ : J m' D') : MTurn h₀ L I rest G J K Q .next s' := ⟨m', D', nw, F, N, hs, ho, hJ, hG⟩
theorem MTurn.cont {h₀ : Heap} {L I : Addr} {rest : List (Addr × Obj)} {G : Shared → Prop} {J K : (Str → Option Value) → List (Addr × Obj) → Prop} {Q : Flow → Shared → Prop} {s' : Shared} {m' : Str → Option Value} {D' nw : List (Addr × Obj)}
    (F : Fr h₀ L s'.heap m') (N : News h₀ L s'.heap nw) (hs : Sub (D' ++ rest) nw) (ho : ∀ p ∈ D', p.1 ≠ I) (hG : G s') (hJ : J m' D') : MTurn h₀ L I rest G J K Q .cont s' := ⟨m', D', nw, F, N, hs, ho, hJ, hG⟩
theorem MTurn.brk {h₀ : Heap} {L I : Addr} {rest : List (Addr × Obj)} {G : Shared → Prop} {J K : (Str → Option Value) → List (Addr × Obj) → Prop} {Q : Flow → Shared → Prop} {s' : Shared} {m' : Str → Option Value} {D' nw : List (Addr × Obj)}
    (F : Fr h₀ L s'.heap m') (N : News h₀ L s'.heap nw) (hs : Sub (D' ++ rest) nw) (hG : G s') (hK : K m' D') : MTurn h₀ L I rest G J K Q .brk s' := ⟨m', D', nw, F, N, hs, hK, hG⟩
theorem off_nil {I : Addr} : ∀ p ∈ ([] : List (Addr × Obj)), p.1 ≠ I := fun _ h => nomatch h
theorem one_eq (ch k : Nat) (x : String) (hx : Str.ofString x = ⟨#[k]⟩ := by decide +kernel) : ((⟨#[ch]⟩ : Str) == Str.ofString x) = decide (ch = k) := by
  rw [hx]
  by_cases h : ch = k
  · subst h; simp
  · rw [decide_eq_false h]
    exact beq_eq_false_iff_ne.mpr fun e => h (by simpa using e)
end
local macro_rules | `(tactic| walk_at $s:str) => `(tactic| k_extra $s)
local macro_rules | `(tactic| ktr_member) => `(tactic| k_extra "member")
local macro_rules | `(tactic| k_all) => `(tactic| with_reducible assumption)
section
theorem kw_Kit3_0 : True := by
  k_with_none
  k_with "vat" => repeat' (first | exact List.forall_mem_nil _ | refine' List.forall_mem_cons.mpr ⟨?_, ?_⟩ | with_unfolding_all rfl)
  k_with "vrest" => first | ((repeat' (first | exact Vars.rest (by assumption) | exact vr_nil | exact vr_base | refine vr_upd ?_ (by with_unfolding_all rfl) | refine vr_set ?_ (by with_unfolding_all rfl))); done) | (intro zzz hzzz; (simp only [List.contains_cons, List.contains_nil, Bool.or_false, Bool.or_eq_false_iff, beq_eq_false_iff_ne, ne_eq] at hzzz); (simp [hzzz, upd, setL, baseOf, List.lookup]))
  k_with "exec For Name Name cons nil" => (refine' wpAny_For ?h ?hs; (case hs => (intro _; with_unfolding_all rfl)))
  k_with "exec For Name Call cons nil" => (refine' wpAny_For ?h ?hs; (case hs => (intro _; with_unfolding_all rfl)))
  k_with "exec For Name Attribute cons nil" => (refine' wpAny_For ?h ?hs; (case hs => (intro _; with_unfolding_all rfl)))
  k_with "sol" => all_goals (try (first | k_is | exact rfl | decide))
  k_with "sz" => first | omega | (simp only [List.length_append, List.length_cons, List.length_nil, List.length_map, List.length_replicate, List.length_reverse, List.length_set]; omega)
  k_with "sub" => first | exact Sub.refl _ | with_reducible assumption | exact Sub.nil | (refine Sub.cons ?_; k_extra "sub") | (refine Sub.trans (by with_reducible assumption) ?_; k_extra "sub") | fail "sub"
  k_with "member" => assumption
  k_with "ite" => first | with_reducible refine ite_tt ?_ | with_reducible refine ite_ff ?_
  k_with "execs nil" => refine wpAny_execs_nil ?_
  k_with "dp" => first | exact dpLe | omega
  k_with "un" => first | exact unLe | omega
  k_with "storeName" => (k_here; k_dflt (first | (refine' storeI ?_; intro q1zz) | (refine' storeS ?_; intro q1zz) | (refine' storeF ?_; intro q1zz) | refine' storeR ?_); k_whole; intro hpzz kpzz mpzz Fpzz Npzz; (try k_sweep))
  k_with "execs cons" => first | refine lastK ?_ | (refine cutK ?_; intro Qzz azz) | (refine enterK ?_; intro Qzz azz)
  k_with "KQ" => first | refine nextK (by assumption) ?_ | refine retK (by assumption) ?_ | refine impK (by assumption) ?_ | refine contK (by assumption) ?_ | refine brkK (by assumption) ?_
  k_with "KS" => refine stopK (by assumption) ?_
  k_with "exec If" => (refine ifK ?_; intro Qzz azz)
  k_with "KB" => refine ifB (by assumption) ?_
  k_with "KV" => refine stopV (by assumption) ?_
  exact True.intro
theorem bits_le {a : Int} (h1 : -(2 ^ 63) < a) (h2 : a < 2 ^ 63) : Builtin.Int.intBits a ≤ 64 := by
  unfold Builtin.Int.intBits
  split
  · lia
  · rename_i h
    have h3 : a.natAbs < 2 ^ 63 := by lia
    have h4 : a.natAbs ≠ 0 := by intro e; apply h; rw [show a = 0 by lia]; rfl
    have := (Nat.log2_lt h4).mpr h3
    lia
theorem mulOk_l {a b : Int} (h1 : -(2 ^ 63) < a) (h2 : a < 2 ^ 63) : IntMulOk a b := IntMulOk.of_left (bits_le h1 h2)
theorem mulOk_r {a b : Int} (h1 : -(2 ^ 63) < b) (h2 : b < 2 ^ 63) : IntMulOk a b := IntMulOk.of_right (bits_le h1 h2)
section
variable {prog : Program} {w : World} {A : Around} {E : Value → Shared → Prop} {s : Shared} {h₀ : Heap} {L c : Addr} {news : List (Addr × Obj)} {vs : List Value} {kc : Nat} {Q : Value → Shared → Prop} {value slice : Expr} {k : Int} {u : Tok} {ns : List Int}
theorem len_tupM {n : Nat} (N : News h₀ L s.heap news := by k_asm) (hm : (c, ({ cls := .type "tuple", data := .seq vs.toArray kc } : Obj)) ∈ news := by first | with_reducible assumption | k_mem | k_extra "mem") (hn : vs.length = n := by first | with_reducible assumption | assumption) (hz : n < 2 ^ 62 := by lia) (h : Q (.int (n : Int) (s.toks + 1)) { s with toks := s.toks + 1 + 1 }) : wpAny (model prog w) A (call (.builtin "len") [.ref c]) Q E s :=
  len_tuple ⟨_, N.get hm, rfl, _, rfl⟩ (by simp; lia) (by simpa [hn] using h)
theorem len_lstM {n : Nat} (N : News h₀ L s.heap news := by k_asm) (hm : (c, listOf vs.toArray kc) ∈ news := by first | with_reducible assumption | k_mem | k_extra "mem") (hn : vs.length = n := by first | with_reducible assumption | assumption) (hz : n < 2 ^ 62 := by lia) (h : Q (.int (n : Int) (s.toks + 1)) { s with toks := s.toks + 1 + 1 }) : wpAny (model prog w) A (call (.builtin "len") [.ref c]) Q E s :=
  len_list ⟨_, N.get hm, rfl, _, rfl⟩ (by simp; lia) (by simpa [hn] using h)
theorem tup_ints {j : Nat} (N : News h₀ L s.heap news) (hm : (c, ({ cls := .type "tuple", data := .seq vs.toArray kc } : Obj)) ∈ news) (hi : IntsAre vs ns) (hk : k = (j : Int)) (hj : j < ns.length) (hz : ns.length < 2 ^ 62) (h : ∀ t, Q (.int (ns.getD j 0) t) s)
    (hs : subscripted slice false (.ref c) (.int k u) = operate [.ref c, .int k u] (getItem (.ref c) (.int k u)) := by with_unfolding_all rfl) (hg : ∀ r, letTemporaryGo value (.ref c) r = pure () := by intro _; with_unfolding_all rfl) :
    wpAny (model prog w) A (subscriptTail value slice (.ref c) (.int k u)) Q E s := by
  obtain ⟨t, ht⟩ := hi.get j (ns[j]) (by simp [hj])
  have hl := hi.length
  refine kim_tup (j := j) N hm rfl rfl (by k_extra "dp") (by k_extra "un") ?_ ht ?_ hs hg
  · subst hk; unfold seqIndex?; rw [if_neg (Int.not_lt.2 (Int.natCast_nonneg j))]; simp; lia
  · have := h t
    rwa [show ns.getD j 0 = ns[j] from by simp [List.getD, hj]] at this
theorem lst_ints {j : Nat} (N : News h₀ L s.heap news) (hm : (c, listOf vs.toArray kc) ∈ news) (hi : IntsAre vs ns) (hk : k = (j : Int)) (hj : j < ns.length) (hz : ns.length < 2 ^ 62) (h : ∀ t, Q (.int (ns.getD j 0) t) s)
    (hs : subscripted slice false (.ref c) (.int k u) = operate [.ref c, .int k u] (getItem (.ref c) (.int k u)) := by with_unfolding_all rfl) (hg : ∀ r, letTemporaryGo value (.ref c) r = pure () := by intro _; with_unfolding_all rfl) :
    wpAny (model prog w) A (subscriptTail value slice (.ref c) (.int k u)) Q E s := by
  obtain ⟨t, ht⟩ := hi.get j (ns[j]) (by simp [hj])
  refine kim_list N hm rfl rfl (by lia) (by lia) (x := .int ns[j] t) ?_ ?_ hs hg
  · subst hk; simpa using ht
  · have := h t
    rwa [show ns.getD j 0 = ns[j] from by simp [List.getD, hj]] at this
end
theorem name_it {α : Type} {P : α → Prop} {a : α} (h : P a) {C : Prop} (k : ∀ b, b = a → C) : C := k a rfl
end
section
theorem kw_Fcol_0 : True := by
  k_with_none
  k_with "vat" => repeat' (first | exact List.forall_mem_nil _ | refine' List.forall_mem_cons.mpr ⟨?_, ?_⟩ | with_unfolding_all rfl)
  k_with "vrest" => first | ((repeat' (first | exact Vars.rest (by assumption) | exact vr_nil | exact vr_base | refine vr_upd ?_ (by with_unfolding_all rfl) | refine vr_set ?_ (by with_unfolding_all rfl))); done) | (intro zzz hzzz; (simp only [List.contains_cons, List.contains_nil, Bool.or_false, Bool.or_eq_false_iff, beq_eq_false_iff_ne, ne_eq] at hzzz); (simp [hzzz, upd, setL, baseOf, List.lookup]))
  k_with "exec For Name Name cons nil" => (refine' wpAny_For ?h ?hs; (case hs => (intro _; with_unfolding_all rfl)))
  k_with "exec For Name Call cons nil" => (refine' wpAny_For ?h ?hs; (case hs => (intro _; with_unfolding_all rfl)))
  k_with "exec For Name Attribute cons nil" => (refine' wpAny_For ?h ?hs; (case hs => (intro _; with_unfolding_all rfl)))
  k_with "sol" => all_goals (try (first | k_is | exact rfl | decide))
  k_with "sz" => first | omega | (simp only [List.length_append, List.length_cons, List.length_nil, List.length_map, List.length_replicate, List.length_reverse, List.length_set]; omega)
  k_with "sub" => first | exact Sub.refl _ | with_reducible assumption | exact Sub.nil | (refine Sub.cons ?_; k_extra "sub") | (refine Sub.trans (by with_reducible assumption) ?_; k_extra "sub") | fail "sub"
  k_with "member" => assumption
  k_with "ite" => first | with_reducible refine ite_tt ?_ | with_reducible refine ite_ff ?_
  k_with "execs nil" => refine wpAny_execs_nil ?_
  k_with "dp" => first | exact dpLe | omega
  k_with "un" => first | exact unLe | omega
  k_with "storeName" => (k_here; k_dflt (first | (refine' storeI ?_; intro q1zz) | (refine' storeS ?_; intro q1zz) | (refine' storeF ?_; intro q1zz) | refine' storeR ?_); k_whole; intro hpzz kpzz mpzz Fpzz Npzz; (try k_sweep))
  k_with "execs cons" => first | refine lastK ?_ | (refine cutK ?_; intro Qzz azz) | (refine enterK ?_; intro Qzz azz)
  k_with "KQ" => first | refine nextK (by assumption) ?_ | refine retK (by assumption) ?_ | refine impK (by assumption) ?_ | refine contK (by assumption) ?_ | refine brkK (by assumption) ?_
  k_with "KS" => refine stopK (by assumption) ?_
  k_with "exec If" => (refine ifK ?_; intro Qzz azz)
  k_with "KB" => refine ifB (by assumption) ?_
  k_with "KV" => refine stopV (by assumption) ?_
  exact True.intro
def colStep (size : Int) (c : Int) (ch : Nat) : Int := if ch = 32 then c + 1 else if ch = 9 then c + (size - Int.fmod c size) else c
def colF (size : Int) (l : List Nat) : Int := l.foldl (colStep size) 0
theorem colF_succ {size : Int} {z : Str} {i ch : Nat} (h : z.cps[i]? = some ch) : colF size (z.cps.toList.take (i + 1)) = colStep size (colF size (z.cps.toList.take i)) ch := by
  have h' : z.cps.toList[i]? = some ch := by simpa using h
  rw [List.take_add_one, h']
  simp [colF, List.foldl_append]
set_option maxHeartbeats 8000000 in
theorem col_spec {prog : Program} {w : World} {line : Str} {size : Int} {t1 t2 : Tok} (hs1 : 1 ≤ size) (news : List (Addr × Obj)) :
    Spec prog w 1 185 [.str line t1, .int size t2] news (IntP (colF size line.cps.toList) news) := by
  refine' Spec.of [(Str.ofString "line", .str line t1), (Str.ofString "size", .int size t2)] ?_ ?_ ?_ ?_ ?_ ?_ ?_ ?_ ?_
  k_extra "sol"
  intro p loose mean mg mb dp un gd outer A₀ base g L' s A1 m0 E1 B F X N T hdp hun
  k_steps
  rename Fr _ _ _ _ => F1
  rename News _ _ _ _ => N1
  refine forS (D := []) (news := news) F1 N1
    (fun i m' D' => D' = [] ∧ ∃ tk, Vars m' (fun _ => none) ["line", "size", "column", "sign"] [("column", .int (colF size (line.cps.toList.take i)) tk), ("line", .str line t1), ("size", .int size t2)]) _ ?_ ?_ (fun _ _ h => h) ?_
  · refine' ⟨rfl, _, ⟨?_, ?_⟩⟩
    rotate_left
    · k_extra "vat"
    · k_extra "vrest"
  · intro J0 K0 i ch tk m₁ D₁ rest hh tkk I Q0 a0 hch hq1 hs hr hI hoI hD F2 N2
    obtain ⟨rfl, tk1, V⟩ := hq1
    refine V.frxL F2 ?_
    intro mv mw F3
    have N3 : News g L' hh rest := N2
    clear F2 F1 N2 N1
    k_steps
    all_goals (simp only [one_eq ch 32 " ", one_eq ch 9 "\t", decide_eq_true_eq, decide_eq_false_iff_not] at *)
    all_goals
      refine' MTurn.next (by assumption) (by assumption) (Sub.refl _) off_nil Same.mk ⟨rfl, _, ⟨?_, ?_⟩⟩
      rotate_left
      · rw [colF_succ hch]
        simp only [colStep, if_true, if_false, *]
        k_extra "vat"
      · k_extra "vrest"
  · intro m' D' hh tkk hq1 F2 N2
    obtain ⟨rfl, tk1, V⟩ := hq1
    refine V.frL F2 ?_
    intro mv F3
    have N3 : News g L' hh news := N2
    clear F2 F1 N2 N1
    k_steps
    exact doneI (by assumption) (by assumption) (Sub.refl _) (by rw [List.take_of_length_le (by simp)])
end
section
theorem kw_Fsmall_0 : True := by
  k_with_none
  k_with "vat" => repeat' (first | exact List.forall_mem_nil _ | refine' List.forall_mem_cons.mpr ⟨?_, ?_⟩ | with_unfolding_all rfl)
  k_with "vrest" => first | ((repeat' (first | exact Vars.rest (by assumption) | exact vr_nil | exact vr_base | refine vr_upd ?_ (by with_unfolding_all rfl) | refine vr_set ?_ (by with_unfolding_all rfl))); done) | (intro zzz hzzz; (simp only [List.contains_cons, List.contains_nil, Bool.or_false, Bool.or_eq_false_iff, beq_eq_false_iff_ne, ne_eq] at hzzz); (simp [hzzz, upd, setL, baseOf, List.lookup]))
  k_with "exec For Name Name cons nil" => (refine' wpAny_For ?h ?hs; (case hs => (intro _; with_unfolding_all rfl)))
  k_with "exec For Name Call cons nil" => (refine' wpAny_For ?h ?hs; (case hs => (intro _; with_unfolding_all rfl)))
  k_with "exec For Name Attribute cons nil" => (refine' wpAny_For ?h ?hs; (case hs => (intro _; with_unfolding_all rfl)))
  k_with "sol" => all_goals (try (first | k_is | exact rfl | decide))
  k_with "sz" => first | omega | (simp only [List.length_append, List.length_cons, List.length_nil, List.length_map, List.length_replicate, List.length_reverse, List.length_set]; omega)
  k_with "sub" => first | exact Sub.refl _ | with_reducible assumption | exact Sub.nil | (refine Sub.cons ?_; k_extra "sub") | (refine Sub.trans (by with_reducible assumption) ?_; k_extra "sub") | fail "sub"
  k_with "member" => assumption
  k_with "ite" => first | with_reducible refine ite_tt ?_ | with_reducible refine ite_ff ?_
  k_with "execs nil" => refine wpAny_execs_nil ?_
  k_with "dp" => first | exact dpLe | omega
  k_with "un" => first | exact unLe | omega
  k_with "storeName" => (k_here; k_dflt (first | (refine' storeI ?_; intro q1zz) | (refine' storeS ?_; intro q1zz) | (refine' storeF ?_; intro q1zz) | refine' storeR ?_); k_whole; intro hpzz kpzz mpzz Fpzz Npzz; (try k_sweep))
  k_with "execs cons" => first | refine lastK ?_ | (refine cutK ?_; intro Qzz azz) | (refine enterK ?_; intro Qzz azz)
  k_with "KQ" => first | refine nextK (by assumption) ?_ | refine retK (by assumption) ?_ | refine impK (by assumption) ?_ | refine contK (by assumption) ?_ | refine brkK (by assumption) ?_
  k_with "KS" => refine stopK (by assumption) ?_
  k_with "exec If" => (refine ifK ?_; intro Qzz azz)
  k_with "KB" => refine ifB (by assumption) ?_
  k_with "KV" => refine stopV (by assumption) ?_
  exact True.intro
set_option maxHeartbeats 8000000 in
theorem term_spec {prog : Program} {w : World} {x : Int} {t : Tok} (news : List (Addr × Obj)) : Spec prog w 1 145 [.int x t] news (BoolP (decide (x < 256)) news) := by
  refine' Spec.of [(Str.ofString "x", .int x t)] ?_ ?_ ?_ ?_ ?_ ?_ ?_ ?_ ?_
  k_extra "sol"
  intro p loose mean mg mb dp un gd outer A₀ base g L' s A1 m0 E1 B F X N T hdp hun
  k_steps
  exact doneB (by assumption) (by assumption) (Sub.refl _) rfl
set_option maxHeartbeats 8000000 in
theorem nonterm_spec {prog : Program} {w : World} {x : Int} {t : Tok} (news : List (Addr × Obj)) : Spec prog w 1 152 [.int x t] news (BoolP (decide (256 ≤ x)) news) := by
  refine' Spec.of [(Str.ofString "x", .int x t)] ?_ ?_ ?_ ?_ ?_ ?_ ?_ ?_ ?_
  k_extra "sol"
  intro p loose mean mg mb dp un gd outer A₀ base g L' s A1 m0 E1 B F X N T hdp hun
  k_steps
  exact doneB (by assumption) (by assumption) (Sub.refl _) rfl
set_option maxHeartbeats 8000000 in
theorem eof_spec {prog : Program} {w : World} {x : Int} {t : Tok} (news : List (Addr × Obj)) : Spec prog w 1 159 [.int x t] news (BoolP (decide (x = 0)) news) := by
  refine' Spec.of [(Str.ofString "x", .int x t)] ?_ ?_ ?_ ?_ ?_ ?_ ?_ ?_ ?_
  k_extra "sol"
  intro p loose mean mg mb dp un gd outer A₀ base g L' s A1 m0 E1 B F X N T hdp hun
  k_steps
  exact doneB (by assumption) (by assumption) (Sub.refl _) rfl
end
section
local macro_rules | `(tactic| mul_fits) => `(tactic| first | exact mulOk_l (by omega) (by omega) | exact mulOk_r (by omega) (by omega))
theorem kw_Fws1_0 : True := by
  k_with_none
  k_with "vat" => repeat' (first | exact List.forall_mem_nil _ | refine' List.forall_mem_cons.mpr ⟨?_, ?_⟩ | with_unfolding_all rfl)
  k_with "vrest" => first | ((repeat' (first | exact Vars.rest (by assumption) | exact vr_nil | exact vr_base | refine vr_upd ?_ (by with_unfolding_all rfl) | refine vr_set ?_ (by with_unfolding_all rfl))); done) | (intro zzz hzzz; (simp only [List.contains_cons, List.contains_nil, Bool.or_false, Bool.or_eq_false_iff, beq_eq_false_iff_ne, ne_eq] at hzzz); (simp [hzzz, upd, setL, baseOf, List.lookup]))
  k_with "exec For Name Name cons nil" => (refine' wpAny_For ?h ?hs; (case hs => (intro _; with_unfolding_all rfl)))
  k_with "exec For Name Call cons nil" => (refine' wpAny_For ?h ?hs; (case hs => (intro _; with_unfolding_all rfl)))
  k_with "exec For Name Attribute cons nil" => (refine' wpAny_For ?h ?hs; (case hs => (intro _; with_unfolding_all rfl)))
  k_with "sol" => all_goals (try (first | k_is | exact rfl | decide))
  k_with "sz" => first | omega | (simp only [List.length_append, List.length_cons, List.length_nil, List.length_map, List.length_replicate, List.length_reverse, List.length_set]; omega)
  k_with "sub" => first | exact Sub.refl _ | with_reducible assumption | exact Sub.nil | (refine Sub.cons ?_; k_extra "sub") | (refine Sub.trans (by with_reducible assumption) ?_; k_extra "sub") | fail "sub"
  k_with "member" => assumption
  k_with "ite" => first | with_reducible refine ite_tt ?_ | with_reducible refine ite_ff ?_
  k_with "execs nil" => refine wpAny_execs_nil ?_
  k_with "dp" => first | exact dpLe | omega
  k_with "un" => first | exact unLe | omega
  k_with "storeName" => (k_here; k_dflt (first | (refine' storeI ?_; intro q1zz) | (refine' storeS ?_; intro q1zz) | (refine' storeF ?_; intro q1zz) | refine' storeR ?_); k_whole; intro hpzz kpzz mpzz Fpzz Npzz; (try k_sweep))
  k_with "execs cons" => first | refine lastK ?_ | (refine cutK ?_; intro Qzz azz) | (refine enterK ?_; intro Qzz azz)
  k_with "KQ" => first | refine nextK (by assumption) ?_ | refine retK (by assumption) ?_ | refine impK (by assumption) ?_ | refine contK (by assumption) ?_ | refine brkK (by assumption) ?_
  k_with "KS" => refine stopK (by assumption) ?_
  k_with "exec If" => (refine ifK ?_; intro Qzz azz)
  k_with "KB" => refine ifB (by assumption) ?_
  k_with "KV" => refine stopV (by assumption) ?_
  k_with "call builtin:len" => (k_here; refine' len_tupM (h := ?_))
  exact True.intro
structure Ws where
  cnt : List Int
  b : Int
  n : Int
  nt : Int
abbrev wsEs (P : Params) (k1 k2 k3 k4 k5 : Tok) (raw n nt norm sm : Value) : List DictEntry :=
  [⟨PyData.keyHash P (Str.ofString "raw"), .str (Str.ofString "raw") k1, raw⟩, ⟨PyData.keyHash P (Str.ofString "n"), .str (Str.ofString "n") k2, n⟩, ⟨PyData.keyHash P (Str.ofString "nt"), .str (Str.ofString "nt") k3, nt⟩,
    ⟨PyData.keyHash P (Str.ofString "norm"), .str (Str.ofString "norm") k4, norm⟩, ⟨PyData.keyHash P (Str.ofString "is_simple"), .str (Str.ofString "is_simple") k5, sm⟩]
inductive WsIn (P : Params) (news : List (Addr × Obj)) (x : Addr) (u : Ws) : Prop
  | mk {dx t c : Addr} {k1 k2 k3 k4 k5 tb tn tnt : Tok} {raw sm : Value} {vs : List Value} {k kt kc : Nat} (h1 : (x, instObj 83 dx) ∈ news)
    (h2 : (dx, dictOf (wsEs P k1 k2 k3 k4 k5 raw (.int u.n tn) (.int u.nt tnt) (.ref t) sm) k) ∈ news)
    (h3 : (t, ({ cls := .type "tuple", data := .seq [.ref c, .int u.b tb].toArray kt } : Obj)) ∈ news) (h4 : (c, ({ cls := .type "tuple", data := .seq vs.toArray kc } : Obj)) ∈ news) (h5 : IntsAre vs u.cnt)
theorem WsIn.mono {P : Params} {news news' : List (Addr × Obj)} {x : Addr} {u : Ws} (h : WsIn P news x u) (s : Sub news news') : WsIn P news' x u := by
  cases h with
  | mk h1 h2 h3 h4 h5 => exact .mk (s _ h1) (s _ h2) (s _ h3) (s _ h4) h5
/-- what the proofs ask of its sizes -/
structure Ws.Ok (u : Ws) : Prop where
  len : u.cnt.length < 2 ^ 20
  cnt : ∀ i, 0 ≤ u.cnt.getD i 0 ∧ u.cnt.getD i 0 < 2 ^ 20
  b0 : 0 ≤ u.b
  b1 : u.b < 2 ^ 20
set_option maxHeartbeats 8000000 in
theorem run_spec {prog : Program} {w : World} {x : Addr} {u : Ws} {news : List (Addr × Obj)} (hu : WsIn w.params news x u) (hk : u.Ok) :
    Spec prog w 1 45 [.ref x] news (IntP (max ((u.cnt.length : Int) - 1) u.b) news) := by
  rcases hu with @⟨dx, t, c, k1, k2, k3, k4, k5, tb, tn, tnt, raw, sm, vs, k, kt, kc, h1, h2, h3, h4, h5⟩
  have hl := h5.length
  have hz := hk.len
  refine' Spec.of [(Str.ofString "self", .ref x)] ?_ ?_ ?_ ?_ ?_ ?_ ?_ ?_ ?_
  k_extra "sol"
  intro p loose mean mg mb dp un gd outer A₀ base g L' s A1 m0 E1 B F X N T hdp hun
  k_steps
  refine doneI (by assumption) (by assumption) (Sub.refl _) ?_
  split <;> omega
def ilS (ts : Int) (cnt : List Int) : Nat → Int
  | 0 => 0
  | j + 1 => ilS ts cnt j + Int.fdiv (ts + j) ts * cnt.getD (ts + j).toNat 0
def ilvl (u : Ws) (ts : Int) : Int := u.b + ts * (ilS ts u.cnt (u.cnt.length - ts.toNat) + u.nt)
set_option maxHeartbeats 8000000 in
theorem ilv_spec {prog : Program} {w : World} {x : Addr} {u : Ws} {news : List (Addr × Obj)} {ts : Int} {tt : Tok} (hu : WsIn w.params news x u) (hk : u.Ok) (ht1 : 1 ≤ ts) (ht : ts < 2 ^ 21) :
    Spec prog w 1 52 [.ref x, .int ts tt] news (IntP (ilvl u ts) news) := by
  rcases hu with @⟨dx, t, c, k1, k2, k3, k4, k5, tb, tn, tnt, raw, sm, vs, k, kt, kc, h1, h2, h3, h4, h5⟩
  have hl := h5.length
  have hz := hk.len
  refine' Spec.of [(Str.ofString "self", .ref x), (Str.ofString "tabsize", .int ts tt)] ?_ ?_ ?_ ?_ ?_ ?_ ?_ ?_ ?_
  k_extra "sol"
  intro p loose mean mg mb dp un gd outer A₀ base g L' s A1 m0 E1 B F X N T hdp hun
  k_steps
  rename Fr _ _ _ _ => F1
  rename News _ _ _ _ => N1
  rename IsRange _ _ _ _ _ _ _ _ => R1
  refine forR (k := u.cnt.length - ts.toNat) (D := []) (news := news) R1 (small_one (by omega) (by omega) (by omega) (by omega)) (by rw [rangeSize_one]; split <;> omega) F1 N1
    (fun j m' D' => D' = [] ∧ ∃ tk, Vars m' (fun _ => none) ["self", "tabsize", "count", "trailing", "il", "i"] [("il", .int (ilS ts u.cnt j) tk), ("self", .ref x), ("tabsize", .int ts tt), ("count", .ref c), ("trailing", .int u.b tb)]) ?_ ?_ ?_
  · refine' ⟨rfl, _, ⟨?_, ?_⟩⟩
    rotate_left
    · k_extra "vat"
    · k_extra "vrest"
  · intro J0 j tk m₁ D₁ rest hh tkk I Q0 a0 hj hq1 hs hr hI hoI hD F2 N2
    obtain ⟨rfl, tk1, V⟩ := hq1
    refine V.frxL F2 ?_
    intro mv mw F3
    have N3 : News g L' hh rest := N2
    have h4' := hs _ h4
    have hb := hk.cnt (ts + (j : Int) * 1).toNat
    clear F2 F1 N2 N1
    k_steps
    refine' MTurn.next (by assumption) (by assumption) (Sub.refl _) off_nil Same.mk ⟨rfl, _, ⟨?_, ?_⟩⟩
    rotate_left
    · rw [show ilS ts u.cnt (j + 1) = ilS ts u.cnt j + Int.fdiv (ts + (j : Int) * 1) ts * u.cnt.getD (ts + (j : Int) * 1).toNat 0 from by rw [Int.mul_one]; rfl]
      k_extra "vat"
    · k_extra "vrest"
  · intro m' D' hh tkk hq1 F2 N2
    obtain ⟨rfl, tk1, V⟩ := hq1
    refine V.frL F2 ?_
    intro mv F3
    have N3 : News g L' hh news := N2
    clear F2 F1 N2 N1
    k_steps
    exact doneI (by assumption) (by assumption) (Sub.refl _) rfl
end
section
theorem kw_Fws2_0 : True := by
  k_with_none
  k_with "vat" => repeat' (first | exact List.forall_mem_nil _ | refine' List.forall_mem_cons.mpr ⟨?_, ?_⟩ | with_unfolding_all rfl)
  k_with "vrest" => first | ((repeat' (first | exact Vars.rest (by assumption) | exact vr_nil | exact vr_base | refine vr_upd ?_ (by with_unfolding_all rfl) | refine vr_set ?_ (by with_unfolding_all rfl))); done) | (intro zzz hzzz; (simp only [List.contains_cons, List.contains_nil, Bool.or_false, Bool.or_eq_false_iff, beq_eq_false_iff_ne, ne_eq] at hzzz); (simp [hzzz, upd, setL, baseOf, List.lookup]))
  k_with "exec For Name Name cons nil" => (refine' wpAny_For ?h ?hs; (case hs => (intro _; with_unfolding_all rfl)))
  k_with "exec For Name Call cons nil" => (refine' wpAny_For ?h ?hs; (case hs => (intro _; with_unfolding_all rfl)))
  k_with "exec For Name Attribute cons nil" => (refine' wpAny_For ?h ?hs; (case hs => (intro _; with_unfolding_all rfl)))
  k_with "sol" => all_goals (try (first | k_is | exact rfl | decide))
  k_with "sz" => first | omega | (simp only [List.length_append, List.length_cons, List.length_nil, List.length_map, List.length_replicate, List.length_reverse, List.length_set]; omega)
  k_with "sub" => first | exact Sub.refl _ | with_reducible assumption | exact Sub.nil | (refine Sub.cons ?_; k_extra "sub") | (refine Sub.trans (by with_reducible assumption) ?_; k_extra "sub") | fail "sub"
  k_with "member" => assumption
  k_with "ite" => first | with_reducible refine ite_tt ?_ | with_reducible refine ite_ff ?_
  k_with "execs nil" => refine wpAny_execs_nil ?_
  k_with "dp" => first | exact dpLe | omega
  k_with "un" => first | exact unLe | omega
  k_with "storeName" => (k_here; k_dflt (first | (refine' storeI ?_; intro q1zz) | (refine' storeS ?_; intro q1zz) | (refine' storeF ?_; intro q1zz) | refine' storeR ?_); k_whole; intro hpzz kpzz mpzz Fpzz Npzz; (try k_sweep))
  k_with "execs cons" => first | refine lastK ?_ | (refine cutK ?_; intro Qzz azz) | (refine enterK ?_; intro Qzz azz)
  k_with "KQ" => first | refine nextK (by assumption) ?_ | refine retK (by assumption) ?_ | refine impK (by assumption) ?_ | refine contK (by assumption) ?_ | refine brkK (by assumption) ?_
  k_with "KS" => refine stopK (by assumption) ?_
  k_with "exec If" => (refine ifK ?_; intro Qzz azz)
  k_with "KB" => refine ifB (by assumption) ?_
  k_with "KV" => refine stopV (by assumption) ?_
  k_with "call ref" => (k_here; refine' Spec.go (C := run_spec (by first | with_reducible assumption | exact WsIn.mono (by with_reducible assumption) (by k_extra "sub")) (by with_reducible assumption)) (ret := ?_); rintro r9zz n9zz h9zz tk9zz F9zz N9zz ⟨⟨t9zz, e9zz⟩, d9zz⟩; subst e9zz; subst d9zz)
  k_with "call ref" => (k_here; refine' Spec.go (C := ilv_spec (by first | with_reducible assumption | exact WsIn.mono (by with_reducible assumption) (by k_extra "sub")) (by with_reducible assumption) (by omega) (by omega)) (ret := ?_); rintro r9zz n9zz h9zz tk9zz F9zz N9zz ⟨⟨t9zz, e9zz⟩, d9zz⟩; subst e9zz; subst d9zz)
  exact True.intro
def nlwS (u v : Ws) : Nat → List (Int × Int × Int)
  | 0 => []
  | j + 1 => nlwS u v j ++ (if ilvl u (1 + j) ≥ ilvl v (1 + j) then [((1 + j : Int), ilvl u (1 + j), ilvl v (1 + j))] else [])
theorem nlwS_len (u v : Ws) : ∀ j, (nlwS u v j).length ≤ j
  | 0 => Nat.le_refl _
  | j + 1 => by
    unfold nlwS
    have := nlwS_len u v j
    rw [List.length_append]
    split <;> simp <;> omega
def nlwN (u v : Ws) : Int := (if max ((v.cnt.length : Int) - 1) v.b > max ((u.cnt.length : Int) - 1) u.b then max ((v.cnt.length : Int) - 1) v.b else max ((u.cnt.length : Int) - 1) u.b) + 1
def nlw (u v : Ws) : List (Int × Int × Int) := nlwS u v (nlwN u v).toNat
def rowD (r : Int × Int × Int) : Dat := .tuple [.int r.1, .int r.2.1, .int r.2.2]
def RowsP (rows : List (Int × Int × Int)) (news : List (Addr × Obj)) (r : Value) (news' : List (Addr × Obj)) : Prop :=
  ∃ l vs k, r = .ref l ∧ (l, listOf vs.toArray k) ∈ news' ∧ DatAll news' vs (rows.map rowD) ∧ Sub news news'
theorem nlwN_rng {u v : Ws} (ku : u.Ok) (kv : v.Ok) : nlwN u v = ((nlwN u v).toNat : Int) ∧ nlwN u v < 2 ^ 20 + 1 ∧ 1 ≤ nlwN u v := by
  have A : ∀ {n : Nat} {b : Int}, n < 2 ^ 20 → 0 ≤ b → b < 2 ^ 20 → 0 ≤ max ((n : Int) - 1) b ∧ max ((n : Int) - 1) b < 2 ^ 20 := fun h1 h2 h3 => ⟨Int.le_trans h2 (Int.le_max_right _ _), Int.max_lt.2 ⟨by omega, h3⟩⟩
  have h1 := A ku.len ku.b0 ku.b1
  have h2 := A kv.len kv.b0 kv.b1
  clear A ku kv
  unfold nlwN
  generalize max ((u.cnt.length : Int) - 1) u.b = p at *
  generalize max ((v.cnt.length : Int) - 1) v.b = q at *
  have M : ∀ {r : Int}, 0 ≤ r → r < 2 ^ 20 → r + 1 = ((r + 1).toNat : Int) ∧ r + 1 < 2 ^ 20 + 1 ∧ 1 ≤ r + 1 := fun a b => ⟨(Int.toNat_of_nonneg (by omega)).symm, by omega, by omega⟩
  split
  · exact M h2.1 h2.2
  · exact M h1.1 h1.2
theorem one_to {n : Int} {k : Nat} (e : n = k) (h : n < 2 ^ 20 + 1) (h1 : 1 ≤ n) : Builtin.Range.small 1 (n + 1) 1 = true ∧ Builtin.Range.rangeSize 1 (n + 1) 1 = k := by
  refine ⟨small_one (by omega) (by omega) (by omega) (by omega), ?_⟩
  rw [rangeSize_one, if_pos (by omega)]
  omega
set_option maxHeartbeats 8000000 in
theorem nlw_spec {prog : Program} {w : World} {x y : Addr} {u v : Ws} {news : List (Addr × Obj)} (hu : WsIn w.params news x u) (hv : WsIn w.params news y v) (ku : u.Ok) (kv : v.Ok) :
    Spec prog w 2 80 [.ref x, .ref y] news (RowsP (nlw u v) news) := by
  refine' Spec.of [(Str.ofString "self", .ref x), (Str.ofString "other", .ref y)] ?_ ?_ ?_ ?_ ?_ ?_ ?_ ?_ ?_
  k_extra "sol"
  intro p loose mean mg mb dp un gd outer A₀ base g L' s A1 m0 E1 B F X N T hdp hun
  have hu1 := hu
  have hv1 := hv
  have zu := ku.len
  have zv := kv.len
  have bu := ku.b1
  have bv := kv.b1
  cases hu1 with
  | mk a1 a2 a3 a4 a5 =>
  cases hv1 with
  | mk c1 c2 c3 c4 c5 =>
  k_steps
  rename Fr _ _ _ _ => F1
  rename News _ _ _ _ => N1
  rename IsRange _ _ _ _ _ _ _ _ => R1
  rename (∀ p ∈ news, p.1 < _) => lA
  refine name_it (P := fun b => ∀ p ∈ news, p.1 < b) lA fun la ela => ?_
  subst ela
  have nn : nlwN u v = ((nlwN u v).toNat : Int) ∧ nlwN u v < 2 ^ 20 + 1 ∧ 1 ≤ nlwN u v := nlwN_rng ku kv
  have n1 := one_to nn.1 nn.2.1 nn.2.2
  refine forR (k := (nlwN u v).toNat) (D := [(la, listOf #[] 0)]) (news := news) R1 n1.1 n1.2 F1 N1
    (fun j m' D' => ∃ vs k tups tk, D' = (la, listOf vs.toArray k) :: tups ∧ DatAll tups vs ((nlwS u v j).map rowD) ∧ (∀ p ∈ tups, p.1 ≠ la) ∧ Vars m' (fun _ => none) ["self", "other", "n", "a", "ts"] [("self", .ref x), ("other", .ref y), ("a", .ref la), ("n", .int (nlwN u v) tk)]) ?_ ?_ ?_
  · refine' ⟨[], 0, [], _, rfl, DatAll.nil, (fun _ h => nomatch h), ⟨?_, ?_⟩⟩
    rotate_left
    · k_extra "vat"
    · k_extra "vrest"
  · intro J0 j tk m₁ D₁ rest hh tkk I Q0 a0 hj hq1 hs hr hI hoI hoff F2 N2
    obtain ⟨vs, k, tups, tk1, rfl, hD, ht, V⟩ := hq1
    refine V.frxL F2 ?_
    intro mv mw F3
    have N3 : News g L' hh ((la, listOf vs.toArray k) :: (tups ++ rest)) := N2
    have hu' := hu.mono (hs.trans (Sub.right (a := tups)))
    have hv' := hv.mono (hs.trans (Sub.right (a := tups)))
    have hu2 := hu'
    have hv2 := hv'
    cases hu2 with
    | mk a1 a2 a3 a4 a5 =>
    cases hv2 with
    | mk c1 c2 c3 c4 c5 =>
    have hla : ∀ p ∈ tups ++ rest, p.1 ≠ la := by
      clear F2
      intro p hp
      rcases List.mem_append.mp hp with hp | hp
      · exact ht p hp
      · rcases hr p hp with h | h
        · exact Nat.ne_of_lt (lA p h)
        · rw [h]; exact fun e => hoff _ (.head _) e.symm
    have hvl : vs.length < 2 ^ 22 := by have h1 := hD.length; have h2 := nlwS_len u v j; simp only [List.length_map] at h1; omega
    obtain ⟨oI, hoI⟩ := hoI
    clear F2 F1 N2 N1
    k_steps
    · rename (_ < _ ∧ AllLt _ _) => hlt
      rename News _ _ _ _ => N4
      refine name_it (P := fun b => la < b ∧ AllLt b (tups ++ rest)) hlt fun d ed => ?_
      subst ed
      have hd : ∀ p ∈ tups ++ rest, p.1 < d := tb_ltOf hlt.2
      rename (ilvl v _ ≤ ilvl u _) => hle
      simp only [List.push_toArray] at N4
      have h2 : ∀ o, Sub (((la, listOf (vs ++ [Value.ref d]).toArray (k + 1)) :: (d, o) :: tups) ++ rest) ((d, o) :: (la, listOf (vs ++ [Value.ref d]).toArray (k + 1)) :: (tups ++ rest)) := by
        intro o p hp
        rcases List.mem_cons.mp hp with rfl | hp
        · exact .tail _ (.head _)
        · rcases List.mem_cons.mp hp with rfl | hp
          · exact .head _
          · exact .tail _ (.tail _ hp)
      have h3 : ∀ o, ∀ p ∈ ((la, listOf (vs ++ [Value.ref d]).toArray (k + 1)) :: (d, o) :: tups), p.1 ≠ I := by
        intro o p hp
        rcases List.mem_cons.mp hp with rfl | hp
        · exact hoff (la, listOf vs.toArray k) (.head _)
        · rcases List.mem_cons.mp hp with rfl | hp
          · exact Nat.ne_of_gt (hd _ (List.mem_append_right _ hoI))
          · exact hoff _ (.tail _ hp)
      have h4 : ∀ o, ∀ p ∈ ((d, o) :: tups : List (Addr × Obj)), p.1 ≠ la := by
        intro o p hp
        rcases List.mem_cons.mp hp with rfl | hp
        · exact Nat.ne_of_gt hlt.1
        · exact ht p hp
      refine' MTurn.next (by assumption) N4 (h2 _) (h3 _) Same.mk ⟨vs ++ [.ref d], k + 1, (d, _) :: tups, tk1, rfl, ?_, h4 _, ⟨?_, ?_⟩⟩
      · rw [show nlwS u v (j + 1) = nlwS u v j ++ [((1 + j : Int), ilvl u (1 + j), ilvl v (1 + j))] from by unfold nlwS; rw [if_pos (by simpa using hle)]; cases j <;> rfl, List.map_append]
        refine (hD.mono fun p hp => .tail _ hp).append (DatAll.one (DatIn.tuple (.head _) ?_))
        rw [Int.mul_one]
        exact .cons (.int _ _) (.cons (.int _ _) (.cons (.int _ _) .nil))
      · k_extra "vat"
      · k_extra "vrest"
    · rename News _ _ _ _ => N4
      rename (¬ ilvl v _ ≤ ilvl u _) => hle
      refine' MTurn.next (D' := (la, listOf vs.toArray k) :: tups) (by assumption) N4 (Sub.refl _) hoff Same.mk ⟨vs, k, tups, tk1, rfl, ?_, ht, ⟨?_, ?_⟩⟩
      · rw [show nlwS u v (j + 1) = nlwS u v j from by unfold nlwS; rw [if_neg (by simpa using hle), List.append_nil]; cases j <;> rfl]
        exact hD
      · k_extra "vat"
      · k_extra "vrest"
  · intro m' D' hh tkk hq1 F2 N2
    obtain ⟨vs, k, tups, tk1, rfl, hD, ht, V⟩ := hq1
    refine V.frL F2 ?_
    intro mv F3
    have N3 : News g L' hh ((la, listOf vs.toArray k) :: (tups ++ news)) := N2
    clear F2 F1 N2 N1
    k_steps
    exact ⟨Same.mk, _, _, by assumption, N3, la, vs, k, rfl, .head _, hD.mono fun p hp => .tail _ (List.mem_append_left _ hp), fun p hp => .tail _ (List.mem_append_right _ hp)⟩
end
section
theorem kw_Kit4_0 : True := by
  k_with_none
  k_with "vat" => repeat' (first | exact List.forall_mem_nil _ | refine' List.forall_mem_cons.mpr ⟨?_, ?_⟩ | with_unfolding_all rfl)
  k_with "vrest" => first | ((repeat' (first | exact Vars.rest (by assumption) | exact vr_nil | exact vr_base | refine vr_upd ?_ (by with_unfolding_all rfl) | refine vr_set ?_ (by with_unfolding_all rfl))); done) | (intro zzz hzzz; (simp only [List.contains_cons, List.contains_nil, Bool.or_false, Bool.or_eq_false_iff, beq_eq_false_iff_ne, ne_eq] at hzzz); (simp [hzzz, upd, setL, baseOf, List.lookup]))
  k_with "exec For Name Name cons nil" => (refine' wpAny_For ?h ?hs; (case hs => (intro _; with_unfolding_all rfl)))
  k_with "exec For Name Call cons nil" => (refine' wpAny_For ?h ?hs; (case hs => (intro _; with_unfolding_all rfl)))
  k_with "exec For Name Attribute cons nil" => (refine' wpAny_For ?h ?hs; (case hs => (intro _; with_unfolding_all rfl)))
  k_with "sol" => all_goals (try (first | k_is | exact rfl | decide))
  k_with "sz" => first | omega | (simp only [List.length_append, List.length_cons, List.length_nil, List.length_map, List.length_replicate, List.length_reverse, List.length_set]; omega)
  k_with "sub" => first | exact Sub.refl _ | with_reducible assumption | exact Sub.nil | (refine Sub.cons ?_; k_extra "sub") | (refine Sub.trans (by with_reducible assumption) ?_; k_extra "sub") | fail "sub"
  k_with "member" => assumption
  k_with "ite" => first | with_reducible refine ite_tt ?_ | with_reducible refine ite_ff ?_
  k_with "execs nil" => refine wpAny_execs_nil ?_
  k_with "dp" => first | exact dpLe | omega
  k_with "un" => first | exact unLe | omega
  k_with "storeName" => (k_here; k_dflt (first | (refine' storeI ?_; intro q1zz) | (refine' storeS ?_; intro q1zz) | (refine' storeF ?_; intro q1zz) | refine' storeR ?_); k_whole; intro hpzz kpzz mpzz Fpzz Npzz; (try k_sweep))
  k_with "execs cons" => first | refine lastK ?_ | (refine cutK ?_; intro Qzz azz) | (refine enterK ?_; intro Qzz azz)
  k_with "KQ" => first | refine nextK (by assumption) ?_ | refine retK (by assumption) ?_ | refine impK (by assumption) ?_ | refine contK (by assumption) ?_ | refine brkK (by assumption) ?_
  k_with "KS" => refine stopK (by assumption) ?_
  k_with "exec If" => (refine ifK ?_; intro Qzz azz)
  k_with "KB" => refine ifB (by assumption) ?_
  k_with "KV" => refine stopV (by assumption) ?_
  exact True.intro
theorem under_tc {dp un : Nat} {gd : Option (List Code)} {cn : Str} {cs : Scope} {L a : Addr} {ccd : Value} {cl : List (Str × Addr)} {outer : List Env} (C : Addr) (vals : List Value) :
    (ktrTop dp un gd cn cs L a ccd cl outer).under (.builtin "type.__call__" ⟨.ref C :: vals, []⟩) = ktrTop (dp + 1) (un + 1) gd cn cs L a ccd cl outer := by
  have h1 : (Code.builtin "type.__call__" ⟨.ref C :: vals, []⟩).weight = 1 := rfl
  have h2 : (Code.builtin "type.__call__" ⟨.ref C :: vals, []⟩).cUnits = 1 := rfl
  have h3 : (Code.builtin "type.__call__" ⟨.ref C :: vals, []⟩).envs = [] := rfl
  have h4 : (Code.builtin "type.__call__" ⟨.ref C :: vals, []⟩).guards = [] := rfl
  show (ktrTop dp un gd cn cs L a ccd cl outer).under (.builtin "type.__call__" ⟨.ref C :: vals, []⟩) = _
  unfold Around.under
  rw [h1, h2, h3, h4]
  rfl
def DoneInit (g : Heap) (L' : Addr) (s : Shared) (x : Addr) (Post : Value → List (Addr × Obj) → Prop) (fl : Flow) (s' : Shared) : Prop :=
  Same s s' ∧ retOf fl = .none ∧ ∃ m' news', Fr g L' s'.heap m' ∧ News g L' s'.heap news' ∧ Post (.ref x) news'
theorem hm_setL (binds : List (Str × Value)) : (fun y => binds.reverse.lookup y) = setL (fun _ => none) binds.reverse := by
  funext y
  generalize binds.reverse = l
  induction l with
  | nil => rfl
  | cons x l ih =>
    obtain ⟨k, v⟩ := x
    rw [List.lookup_cons]
    show _ = if y = k then some v else setL _ l y
    by_cases e : y = k
    · subst e; simp
    · have : (y == k) = false := by simpa using e
      rw [this, if_neg e]; exact ih
theorem Spec.ofInit {prog : Program} {w : World} {need : Nat} {C f : Addr} {vs : List Value} {news : List (Addr × Obj)} {Post : Value → List (Addr × Obj) → Prop}
    {name qual : Str} {params : Arguments} {body : List Stmt} {scope : Scope} {dV kV doc pm cdv ct oc : Value} {an od : Option Addr} {osl : Array (Option Value)} (binds : Addr → List (Str × Value))
    (hm : makesIn (hd.heap_1 w.params) C = true) (hi : findIn (hd.heap_1 w.params) (.ref C) "__init__" = some (some (.ref f))) (hf : isFn (hd.heap_1 w.params) (.ref f) = true)
    (ho : (hd.heap_1 w.params).lookup f = some ⟨oc, od, .func (fnOf name qual params body scope dV kV doc pm an cdv ct), osl⟩) (hcd : codeIn (hd.heap_1 w.params) cdv qual = true)
    (hbind : ∀ x, bindArgs (fnOf name qual params body scope dV kV doc pm an cdv ct) ⟨.ref x :: vs, []⟩ = pure (binds x)) (hloc : ∀ x, ((binds x).all fun y => decide (scope.names.lookup y.1 = some .local)) = true)
    (h : ∀ (p : Program) (loose : List Str) (mean : ExcName → Option Value) (mg mb : Str → Option Value) (dp un : Nat) (gd : Option (List Code)) (outer : List Env) (A₀ : Around) (base g : Heap) (L' x dx : Addr) (s : Shared), let A1 := ktrTop dp un gd qual scope L' f cdv [] outer; let m0 := setL (fun _ => none) (binds x).reverse; let E1 := envOf qual scope L' f cdv;
      Below A₀ base outer g → Fr g L' s.heap m0 → (hd.heap_1 w.params).In g → News g L' s.heap ((x, instObj C dx) :: (dx, dictOf [] 0) :: news) → (∀ p ∈ news, p.1 < dx) → dx < x → Top p loose mean mg mb g → dp + need < recursionLimit → un + 8 * need + 100 < cLine →
      wpAny (model prog w) A1 (execs body E1) (DoneInit g L' s x Post) (fun _ _ => False) s)
    (hco : scope.isCoroutine = false) (hgen : scope.isGenerator = false) (hk : scope.kind = .function) (hcell : ∀ x ∈ scope.names, x.2 ≠ .cell) :
    Spec prog w (need + 2) C vs news Post := by
  intro p loose mean mg mb dp un gd cn cs L a ccd cl outer A₀ base h₀ m s Q E B F X N T hke hdp hun ret
  refine call_cls F X N hm hi hf fun x dx h' F1 N1 l1 l2 => ?_
  rw [under_tc]
  refine code_def (binds := binds x) B F1 X N1 T rfl rfl hke ho hcd (by show dp + 1 < _; lia) (BindsTo.of_eq (hbind x)) (locs (hloc x)) (fun g L' h₁ FG F' N' B' X' T' => ?_) hco hgen hk hcell
  refine wpAny_noRaise ?_
  rw [hm_setL] at F'
  refine wpAny_mono (h p loose mean mg mb (dp + 2) (un + 4) gd (envX cn cs L a ccd cl :: outer) _ base g L' x dx { s with heap := h₁, toks := s.toks + (binds x).length } B' F' X' N' l1 l2 T' (by lia) (by lia)) (fun fl s' hd => ?_) fun _ _ e => e
  obtain ⟨⟨h', tk', rfl⟩, hr, m', news', F₂, N₂, P⟩ := hd
  refine leaveK_ F₂ N₂ fun F₃ N₃ => ?_
  cases fl <;> exact ⟨hr, ret _ _ _ _ F₃ N₃ P⟩
end
section
theorem kw_Fws0_0 : True := by
  k_with_none
  k_with "vat" => repeat' (first | exact List.forall_mem_nil _ | refine' List.forall_mem_cons.mpr ⟨?_, ?_⟩ | with_unfolding_all rfl)
  k_with "vrest" => first | ((repeat' (first | exact Vars.rest (by assumption) | exact vr_nil | exact vr_base | refine vr_upd ?_ (by with_unfolding_all rfl) | refine vr_set ?_ (by with_unfolding_all rfl))); done) | (intro zzz hzzz; (simp only [List.contains_cons, List.contains_nil, Bool.or_false, Bool.or_eq_false_iff, beq_eq_false_iff_ne, ne_eq] at hzzz); (simp [hzzz, upd, setL, baseOf, List.lookup]))
  k_with "exec For Name Name cons nil" => (refine' wpAny_For ?h ?hs; (case hs => (intro _; with_unfolding_all rfl)))
  k_with "exec For Name Call cons nil" => (refine' wpAny_For ?h ?hs; (case hs => (intro _; with_unfolding_all rfl)))
  k_with "exec For Name Attribute cons nil" => (refine' wpAny_For ?h ?hs; (case hs => (intro _; with_unfolding_all rfl)))
  k_with "sol" => all_goals (try (first | k_is | exact rfl | decide))
  k_with "sz" => first | omega | (simp only [List.length_append, List.length_cons, List.length_nil, List.length_map, List.length_replicate, List.length_reverse, List.length_set]; omega)
  k_with "sub" => first | exact Sub.refl _ | with_reducible assumption | exact Sub.nil | (refine Sub.cons ?_; k_extra "sub") | (refine Sub.trans (by with_reducible assumption) ?_; k_extra "sub") | fail "sub"
  k_with "member" => assumption
  k_with "ite" => first | with_reducible refine ite_tt ?_ | with_reducible refine ite_ff ?_
  k_with "execs nil" => refine wpAny_execs_nil ?_
  k_with "dp" => first | exact dpLe | omega
  k_with "un" => first | exact unLe | omega
  k_with "storeName" => (k_here; k_dflt (first | (refine' storeI ?_; intro q1zz) | (refine' storeS ?_; intro q1zz) | (refine' storeF ?_; intro q1zz) | refine' storeR ?_); k_whole; intro hpzz kpzz mpzz Fpzz Npzz; (try k_sweep))
  k_with "execs cons" => first | refine lastK ?_ | (refine cutK ?_; intro Qzz azz) | (refine enterK ?_; intro Qzz azz)
  k_with "KQ" => first | refine nextK (by assumption) ?_ | refine retK (by assumption) ?_ | refine impK (by assumption) ?_ | refine contK (by assumption) ?_ | refine brkK (by assumption) ?_
  k_with "KS" => refine stopK (by assumption) ?_
  k_with "exec If" => (refine ifK ?_; intro Qzz azz)
  k_with "KB" => refine ifB (by assumption) ?_
  k_with "KV" => refine stopV (by assumption) ?_
  k_with "member" => assumption
  k_with "call builtin:len" => (k_here; refine' len_lstM (h := ?_))
  k_with "call type:tuple" => (k_here; (with_reducible show wpAny _ _ (call (Value.type _) [Value.ref _]) _ _ _); k_dflt (refine' kde_tupleOf ?k1 ?k2 ?k3 ?k4 ?k5 ?_; (case k1 => k_asm); (case k2 => k_asm); (case k3 => exact News.isList (by k_asm) (by k_mem)); (case k4 => simp; lia); (case k5 => exact rfl); k_whole); intro Dpzz hpzz Fpzz Npzz l1zz; (try k_lt l1zz); (try k_sweep))
  exact True.intro
theorem flatten_one {α : Type} (a : α) : ∀ n : Nat, (List.replicate n [a]).flatten = List.replicate n a
  | 0 => rfl
  | n + 1 => by rw [List.replicate_succ, List.flatten_cons, flatten_one a n, List.replicate_succ]; rfl
def bumpL (cnt : List Int) (b : Int) : List Int := if b ≥ cnt.length then cnt ++ List.replicate (b - cnt.length + 1).toNat 0 else cnt
def wsStep (u : Ws) (ch : Nat) : Ws :=
  if ch = 32 then { u with n := u.n + 1, b := u.b + 1 } else { cnt := (bumpL u.cnt u.b).set u.b.toNat ((bumpL u.cnt u.b).getD u.b.toNat 0 + 1), n := u.n + 1, nt := u.nt + 1, b := 0 }
def blank (ch : Nat) : Bool := ch == 32 || ch == 9
def wsL (z : List Nat) : Ws := z.foldl wsStep ⟨[], 0, 0, 0⟩
def wsOf (z : Str) : Ws := wsL (z.cps.toList.takeWhile blank)
theorem wsL_succ {z : Str} {i ch : Nat} (h : z.cps[i]? = some ch) : wsL (z.cps.toList.take (i + 1)) = wsStep (wsL (z.cps.toList.take i)) ch := by
  have h' : z.cps.toList[i]? = some ch := by simpa using h
  rw [List.take_add_one, h']
  simp [wsL, List.foldl_append]
structure WsB (u : Ws) (i : Nat) : Prop where
  l : u.cnt.length ≤ i
  c : ∀ j, 0 ≤ u.cnt.getD j 0 ∧ u.cnt.getD j 0 ≤ i
  b0 : 0 ≤ u.b
  b1 : u.b ≤ i
  n0 : 0 ≤ u.n
  n1 : u.n ≤ i
  t0 : 0 ≤ u.nt
  t1 : u.nt ≤ i
theorem bumpL_len {cnt : List Int} {b : Int} (h : 0 ≤ b) : b.toNat < (bumpL cnt b).length ∧ (bumpL cnt b).length = max cnt.length (b.toNat + 1) := by
  unfold bumpL
  split
  · rw [List.length_append, List.length_replicate]
    have e : cnt.length + (b - (cnt.length : Int) + 1).toNat = b.toNat + 1 := by lia
    rw [e]
    exact ⟨Nat.lt_succ_self _, (Nat.max_eq_right (by lia)).symm⟩
  · have e : b.toNat < cnt.length := by lia
    exact ⟨e, (Nat.max_eq_left e).symm⟩
theorem bumpL_get {cnt : List Int} {b : Int} (j : Nat) : (bumpL cnt b).getD j 0 = cnt.getD j 0 := by
  unfold bumpL
  split
  · simp only [List.getD_eq_getElem?_getD, List.getElem?_append, List.getElem?_replicate]
    split
    · rfl
    · rename_i h
      rw [List.getElem?_eq_none (by lia)]
      split <;> rfl
  · rfl
theorem WsB.step {u : Ws} {i ch : Nat} (h : WsB u i) : WsB (wsStep u ch) (i + 1) := by
  obtain ⟨l, c, b0, b1, n0, n1, t0, t1⟩ := h
  unfold wsStep
  split
  · exact ⟨by show u.cnt.length ≤ _; lia, fun j => by have := c j; show 0 ≤ u.cnt.getD j 0 ∧ u.cnt.getD j 0 ≤ _; lia, by show 0 ≤ u.b + 1; lia, by show u.b + 1 ≤ _; lia, by show 0 ≤ u.n + 1; lia, by show u.n + 1 ≤ _; lia, t0, by show u.nt ≤ _; lia⟩
  · have hb := bumpL_len (cnt := u.cnt) b0
    refine ⟨?_, fun j => ?_, by show (0 : Int) ≤ 0; lia, by show (0 : Int) ≤ _; lia, by show 0 ≤ u.n + 1; lia, by show u.n + 1 ≤ _; lia, by show 0 ≤ u.nt + 1; lia, by show u.nt + 1 ≤ _; lia⟩
    · show ((bumpL u.cnt u.b).set _ _).length ≤ _
      rw [List.length_set]; lia
    · have cj := c j
      have cb := c u.b.toNat
      show 0 ≤ ((bumpL u.cnt u.b).set _ _).getD j 0 ∧ ((bumpL u.cnt u.b).set _ _).getD j 0 ≤ _
      rw [List.getD_eq_getElem?_getD, List.getElem?_set]
      split
      · rw [if_pos (by lia), bumpL_get]
        show 0 ≤ u.cnt.getD u.b.toNat 0 + 1 ∧ u.cnt.getD u.b.toNat 0 + 1 ≤ _
        lia
      · rw [← List.getD_eq_getElem?_getD, bumpL_get]; lia
theorem WsB.foldl : ∀ (l : List Nat) {u : Ws} {i : Nat}, WsB u i → WsB (l.foldl wsStep u) (i + l.length)
  | [], _, _, h => h
  | c :: l, u, i, h => by
    have := WsB.foldl l (h.step (ch := c))
    rw [List.length_cons, show i + (l.length + 1) = i + 1 + l.length by lia]
    exact this
theorem wsB (l : List Nat) : WsB (wsL l) l.length := by
  have h0 : WsB ⟨[], 0, 0, 0⟩ 0 := ⟨Nat.le_refl _, fun j => by simp, Int.le_refl _, Int.le_refl _, Int.le_refl _, Int.le_refl _, Int.le_refl _, Int.le_refl _⟩
  have := WsB.foldl l h0
  rwa [Nat.zero_add] at this
theorem takeWhile_len (p : Nat → Bool) : ∀ l : List Nat, (l.takeWhile p).length ≤ l.length
  | [] => Nat.le_refl _
  | c :: l => by
    rw [List.takeWhile_cons]
    split
    · have := takeWhile_len p l; simp; lia
    · simp
theorem wsB_of (z : Str) : WsB (wsOf z) z.cps.size := by
  have hobt := wsB (z.cps.toList.takeWhile blank)
  obtain ⟨l, c, b0, b1, n0, n1, t0, t1⟩ := hobt
  have hl := takeWhile_len blank z.cps.toList
  have hs : z.cps.toList.length = z.cps.size := by simp
  exact ⟨by show (wsL _).cnt.length ≤ _; lia, fun j => by have := c j; show 0 ≤ (wsL _).cnt.getD j 0 ∧ (wsL _).cnt.getD j 0 ≤ _; lia, b0, by show (wsL _).b ≤ _; lia, n0, by show (wsL _).n ≤ _; lia, t0, by show (wsL _).nt ≤ _; lia⟩
theorem wsOk_of {z : Str} (hz : z.cps.size < 2 ^ 13) : (wsOf z).Ok := by
  have hobt := wsB_of z
  obtain ⟨l, c, b0, b1, n0, n1, t0, t1⟩ := hobt
  exact ⟨by lia, fun j => by have := c j; lia, b0, by lia⟩
theorem take_stop {p : Nat → Bool} : ∀ {l : List Nat} {i : Nat}, (∀ c ∈ l.take i, p c = true) → (∀ c, l[i]? = some c → p c = false) → l.takeWhile p = l.take i
  | [], i, _, _ => by simp
  | c :: l, 0, _, h => by
    have := h c (by simp)
    rw [List.takeWhile_cons, this]; simp
  | c :: l, i + 1, h1, h2 => by
    rw [List.takeWhile_cons, h1 c (by simp)]
    simp only [if_true, List.take_succ_cons]
    rw [take_stop (fun d hd => h1 d (by rw [List.take_succ_cons]; exact .tail _ hd)) (fun d hd => h2 d (by simpa using hd) : ∀ d, l[i]? = some d → p d = false)]
theorem News.drop2 {h₀ h : Heap} {L : Addr} {a b : Addr × Obj} {l : List (Addr × Obj)} (N : News h₀ L h (a :: b :: l)) : News h₀ L h (a :: l) := News.sub N fun p hp => by
  rcases List.mem_cons.mp hp with rfl | hp
  · exact .head _
  · exact .tail _ (.tail _ hp)
inductive WsJ (news : List (Addr × Obj)) (x : Addr) (u : Ws) (m' : Str → Option Value) (D' : List (Addr × Obj)) : Prop
  | mk (lc : Addr) (vs : List Value) (k : Nat) (t1 t2 t3 : Tok) (e : D' = [(lc, listOf vs.toArray k)]) (lx : x < lc) (ln : ∀ p ∈ news, p.1 < lc) (hi : IntsAre vs u.cnt)
    (V : Vars m' (fun _ => none) ["self", "ws", "S", "T", "count", "b", "n", "nt", "ch"]
      [("self", .ref x), ("S", .str " " 209), ("T", .str "\t" 210), ("count", .ref lc), ("b", .int u.b t1), ("n", .int u.n t2), ("nt", .int u.nt t3)])
set_option maxHeartbeats 8000000 in
theorem ws_spec {prog : Program} {w : World} {z : Str} {zt : Tok} {news : List (Addr × Obj)} (hz : z.cps.size < 2 ^ 13) :
    Spec prog w 3 83 [.str z zt] news (fun r news' => ∃ x, r = .ref x ∧ WsIn w.params news' x (wsOf z) ∧ Sub news news') := by
  refine' Spec.ofInit (f := 38) (fun x => [(Str.ofString "self", .ref x), (Str.ofString "ws", .str z zt)]) ?_ ?_ ?_ ?_ ?_ ?_ ?_ ?_ ?_ ?_ ?_ ?_
  k_extra "sol"
  · intro x; rfl
  · intro x; rfl
  intro p loose mean mg mb dp un gd outer A₀ base g L' x dx s A1 m0 E1 B F X N l1 l2 T hdp hun
  have hdx : ∀ p ∈ news, p.1 ≠ dx := fun p hp => Nat.ne_of_lt (l1 p hp)
  have l2' : @LT.lt Nat _ dx x := l2
  k_steps
  rename Fr _ _ _ _ => F1
  rename News _ _ _ _ => N0
  rename (_ < _ ∧ x < _ ∧ dx < _ ∧ AllLt _ news) => lt0
  refine name_it (P := fun b => _ < b ∧ x < b ∧ dx < b ∧ AllLt b news) lt0 fun la ela => ?_
  subst ela
  have lt1 := lt0
  have N1 := News.drop2 N0
  clear N0
  generalize edo : dictOf [_] 1 = dobj at N1
  refine forS (D := [(la, listOf #[] 0)]) (news := (x, instObj 83 dx) :: (dx, dobj) :: news) F1 N1
    (fun i m' D' => (∀ c ∈ z.cps.toList.take i, blank c = true) ∧ WsJ news x (wsL (z.cps.toList.take i)) m' D')
    (fun m' D' => WsJ news x (wsOf z) m' D') ?_ ?_ ?_ ?_
  · refine' ⟨by simp, la, [], 0, _, _, _, rfl, lt1.2.1, fun p hp => tb_ltOf lt1.2.2.2 p hp, .nil, ⟨?_, ?_⟩⟩
    rotate_left 3
    · k_extra "vat"
    · k_extra "vrest"
  · intro J0 K0 i ch tk m₁ D₁ rest hh tkk I Q0 a0 hch hq1 hs hr hI hoI hoff F2 N2
    obtain ⟨hbl, lc, vs, k, t1, t2, t3, rfl, lx, ln, hi, V⟩ := hq1
    refine V.frxL F2 ?_
    intro mv mw F3
    have N3 : News g L' hh ((lc, listOf vs.toArray k) :: rest) := N2
    have hlen := hi.length
    have U := wsB (z.cps.toList.take i)
    have Ub := U.b1
    have Ul := U.l
    have Ub0 := U.b0
    have hil : (z.cps.toList.take i).length < 2 ^ 13 := by rw [List.length_take]; simp; lia
    obtain ⟨oI, hoI⟩ := hoI
    have hbl' : blank ch = true → ∀ c ∈ z.cps.toList.take (i + 1), blank c = true := by
      intro h c hc
      rw [List.take_add_one, show z.cps.toList[i]? = some ch from by simpa using hch] at hc
      rcases List.mem_append.mp hc with hc | hc
      · exact hbl c hc
      · simp at hc; rw [hc]; exact h
    have hlr : ∀ p ∈ rest, p.1 ≠ lc := by
      intro p hp
      rcases hr p hp with h | h
      · rcases List.mem_cons.mp h with rfl | h
        · exact Nat.ne_of_lt lx
        · rcases List.mem_cons.mp h with rfl | h
          · exact Nat.ne_of_lt (Nat.lt_trans l2 lx)
          · exact Nat.ne_of_lt (ln p h)
      · rw [h]; exact fun e => hoff _ (.head _) e.symm
    clear F2 F1 N2 N1
    k_steps
    all_goals (simp only [one_eq ch 32 " ", one_eq ch 9 "\t", decide_eq_true_eq, decide_eq_false_iff_not] at *)
    · subst ch
      refine' MTurn.next (by assumption) (by assumption) (Sub.refl _) hoff Same.mk ⟨?_, lc, vs, k, _, _, _, rfl, lx, ln, ?_, ⟨?_, ?_⟩⟩
      · exact hbl' (by decide)
      rotate_left 3
      · rw [wsL_succ hch]; exact hi
      · rw [wsL_succ hch]; k_extra "vat"
      · k_extra "vrest"
    · subst ch
      rename (IntsAre (List.set _ _ _) _) => hi2
      rename (_ < _ ∧ _ < _ ∧ lc < _ ∧ AllLt _ rest) => hl2
      rename Fr _ _ _ _ => F5
      rename News _ _ _ _ => N5
      refine name_it (P := fun b => _ < b ∧ _ < b ∧ lc < b ∧ AllLt b rest) hl2 fun ld eld => ?_
      subst eld
      have hld := tb_ltOf hl2.2.2.2
      have hd : ∀ o, ∀ p ∈ [((ld, o) : Addr × Obj)], p.1 ≠ I := fun o p hp => by rw [List.mem_singleton.mp hp]; exact Nat.ne_of_gt (hld _ hoI)
      refine' MTurn.next (D' := [(ld, _)]) F5 N5 ?_ (hd _) Same.mk ⟨?_, ld, _, _, _, _, _, rfl, ?_, ?_, ?_, ⟨?_, ?_⟩⟩
      · intro p hp
        rcases List.mem_cons.mp hp with rfl | hp
        · exact .head _
        · repeat (first | exact hp | refine .tail _ ?_)
      · exact hbl' (by decide)
      rotate_left 3
      · exact Nat.lt_trans lx hl2.2.2.1
      · exact fun p hp => hld p (hs _ (.tail _ (.tail _ hp)))
      · rw [wsL_succ hch]
        unfold wsStep bumpL
        rw [if_neg (by decide), if_pos (by assumption), ← flatten_one (0 : Int)]
        exact hi2
      · rw [wsL_succ hch]; k_extra "vat"
      · k_extra "vrest"
    · subst ch
      rename (IntsAre (List.set _ _ _) _) => hi2
      have hd : ∀ o, ∀ p ∈ [((lc, o) : Addr × Obj)], p.1 ≠ I := fun o p hp => by rw [List.mem_singleton.mp hp]; exact hoff (lc, listOf vs.toArray k) (.head _)
      refine' MTurn.next (D' := [(lc, _)]) (by assumption) (by assumption) (Sub.refl _) (hd _) Same.mk ⟨?_, lc, _, k, _, _, _, rfl, lx, ln, ?_, ⟨?_, ?_⟩⟩
      · exact hbl' (by decide)
      rotate_left 3
      · rw [wsL_succ hch]
        unfold wsStep bumpL
        rw [if_neg (by decide), if_neg (by assumption)]
        exact hi2
      · rw [wsL_succ hch]; k_extra "vat"
      · k_extra "vrest"
    · have ez : wsOf z = wsL (z.cps.toList.take i) := by
        unfold wsOf
        rw [take_stop hbl fun c hc => by
          have : c = ch := by simpa [hch] using hc.symm
          subst this; simp [blank, *]]
      refine' MTurn.brk (by assumption) (by assumption) (Sub.refl _) Same.mk ⟨lc, vs, k, t1, t2, t3, rfl, lx, ln, ?_, ⟨?_, ?_⟩⟩
      rotate_left
      · rw [ez]; k_extra "vat"
      · k_extra "vrest"
      · rw [ez]; exact hi
  · rintro m' D' ⟨hb, lc, vs, k, t1, t2, t3, e, lx, ln, hi, V⟩
    rw [← show wsOf z = wsL (z.cps.toList.take z.cps.size) from by unfold wsOf; rw [take_stop hb (by simp)]] at hi V
    exact ⟨lc, vs, k, t1, t2, t3, e, lx, ln, hi, V⟩
  · intro m' D' hh tkk hq1 F2 N2
    obtain ⟨lc, vs, k, t1, t2, t3, rfl, lx, ln, hi, V⟩ := hq1
    refine V.frL F2 ?_
    intro mv F3
    have N3 : News g L' hh ((lc, listOf vs.toArray k) :: (x, instObj 83 dx) :: (dx, dobj) :: news) := N2
    clear F2 F1 N2 N1
    subst edo
    have lx' : @LT.lt Nat _ x lc := lx
    have hlen := hi.length
    have U := wsB_of z
    have Ul := U.l
    k_steps
    refine ⟨Same.mk, rfl, _, _, by assumption, by assumption, x, rfl, ?_, ?_⟩
    · exact .mk (by k_mem) (by k_mem) (by k_mem) (by k_mem) hi
    · intro p hp
      repeat (first | exact hp | refine .tail _ ?_)
end
section
theorem kw_Kit5_0 : True := by
  k_with_none
  k_with "vat" => repeat' (first | exact List.forall_mem_nil _ | refine' List.forall_mem_cons.mpr ⟨?_, ?_⟩ | with_unfolding_all rfl)
  k_with "vrest" => first | ((repeat' (first | exact Vars.rest (by assumption) | exact vr_nil | exact vr_base | refine vr_upd ?_ (by with_unfolding_all rfl) | refine vr_set ?_ (by with_unfolding_all rfl))); done) | (intro zzz hzzz; (simp only [List.contains_cons, List.contains_nil, Bool.or_false, Bool.or_eq_false_iff, beq_eq_false_iff_ne, ne_eq] at hzzz); (simp [hzzz, upd, setL, baseOf, List.lookup]))
  k_with "exec For Name Name cons nil" => (refine' wpAny_For ?h ?hs; (case hs => (intro _; with_unfolding_all rfl)))
  k_with "exec For Name Call cons nil" => (refine' wpAny_For ?h ?hs; (case hs => (intro _; with_unfolding_all rfl)))
  k_with "exec For Name Attribute cons nil" => (refine' wpAny_For ?h ?hs; (case hs => (intro _; with_unfolding_all rfl)))
  k_with "sol" => all_goals (try (first | k_is | exact rfl | decide))
  k_with "sz" => first | omega | (simp only [List.length_append, List.length_cons, List.length_nil, List.length_map, List.length_replicate, List.length_reverse, List.length_set]; omega)
  k_with "sub" => first | exact Sub.refl _ | with_reducible assumption | exact Sub.nil | (refine Sub.cons ?_; k_extra "sub") | (refine Sub.trans (by with_reducible assumption) ?_; k_extra "sub") | fail "sub"
  k_with "member" => assumption
  k_with "ite" => first | with_reducible refine ite_tt ?_ | with_reducible refine ite_ff ?_
  k_with "execs nil" => refine wpAny_execs_nil ?_
  k_with "dp" => first | exact dpLe | omega
  k_with "un" => first | exact unLe | omega
  k_with "storeName" => (k_here; k_dflt (first | (refine' storeI ?_; intro q1zz) | (refine' storeS ?_; intro q1zz) | (refine' storeF ?_; intro q1zz) | refine' storeR ?_); k_whole; intro hpzz kpzz mpzz Fpzz Npzz; (try k_sweep))
  k_with "execs cons" => first | refine lastK ?_ | (refine cutK ?_; intro Qzz azz) | (refine enterK ?_; intro Qzz azz)
  k_with "KQ" => first | refine nextK (by assumption) ?_ | refine retK (by assumption) ?_ | refine impK (by assumption) ?_ | refine contK (by assumption) ?_ | refine brkK (by assumption) ?_
  k_with "KS" => refine stopK (by assumption) ?_
  k_with "exec If" => (refine ifK ?_; intro Qzz azz)
  k_with "KB" => refine ifB (by assumption) ?_
  k_with "KV" => refine stopV (by assumption) ?_
  exact True.intro
/-- a while loop that keeps a ledger -/
def WTurn (h₀ : Heap) (L : Addr) (news : List (Addr × Obj)) (G : Shared → Prop) (J : Nat → (Str → Option Value) → List (Addr × Obj) → Prop) (K : (Str → Option Value) → List (Addr × Obj) → Prop) (Q : Flow → Shared → Prop) (n : Nat) (f : Flow) (s' : Shared) : Prop :=
  match f with
  | .ret v => Q (.ret v) s'
  | .brk => ∃ m' D' nw, Fr h₀ L s'.heap m' ∧ News h₀ L s'.heap nw ∧ Sub (D' ++ news) nw ∧ K m' D' ∧ G s'
  | _ => ∃ k m' D' nw, k < n ∧ Fr h₀ L s'.heap m' ∧ News h₀ L s'.heap nw ∧ Sub (D' ++ news) nw ∧ J k m' D' ∧ G s'
def WStop (h₀ : Heap) (L : Addr) (news : List (Addr × Obj)) (G : Shared → Prop) (K : (Str → Option Value) → List (Addr × Obj) → Prop) (s' : Shared) : Prop :=
  ∃ m' D' nw, Fr h₀ L s'.heap m' ∧ News h₀ L s'.heap nw ∧ Sub (D' ++ news) nw ∧ K m' D' ∧ G s'
theorem while_walks {prog : Program} {w : World} {A : Around} {s : Shared} {env : Env} {h₀ : Heap} {R : Result → Shared → Prop} {test : Expr} {body : List Stmt} {m : Str → Option Value} {D news : List (Addr × Obj)} {G : Shared → Prop} (n : Nat)
    (F : Fr h₀ env.locals s.heap m) (N : News h₀ env.locals s.heap (D ++ news)) (g0 : G s)
    (J : Nat → (Str → Option Value) → List (Addr × Obj) → Prop) (K : (Str → Option Value) → List (Addr × Obj) → Prop) (h0 : J n m D)
    (step : ∀ k m₁ D₁ s₁, J k m₁ D₁ → G s₁ → Fr h₀ env.locals s₁.heap m₁ → News h₀ env.locals s₁.heap (D₁ ++ news) →
      wpAny (model prog w) A (isTrue test env (eval test env)) (fun b s₂ => if b = true then wpAny (model prog w) A (execs body env) (WTurn h₀ env.locals news G J K (fun f s' => R (.ok f) s') k) (fun _ _ => False) s₂ else WStop h₀ env.locals news G K s₂) (fun _ _ => False) s₁)
    (hR : ∀ m' D' s', K m' D' → G s' → Fr h₀ env.locals s'.heap m' → News h₀ env.locals s'.heap (D' ++ news) → R (.ok .next) s') :
    codeAny (model prog w) A (.whileLoop test body [] env) R s := by
  refine codeAny_whileLoop (fun k s' => ∃ m' D', G s' ∧ Fr h₀ env.locals s'.heap m' ∧ News h₀ env.locals s'.heap (D' ++ news) ∧ J k m' D') ?_ n ⟨m, D, g0, F, N, h0⟩
  rintro k s' ⟨m', D', g', F', N', hJ⟩
  refine wpAny_mono (step k m' D' s' hJ g' F' N') (fun b s₂ h₂ => ?_) fun _ _ e => e.elim
  cases b with
  | true =>
    rw [if_pos rfl] at h₂ ⊢
    refine wpAny_mono h₂ (fun f s₃ h₃ => ?_) fun _ _ e => e.elim
    cases f with
    | ret v => exact h₃
    | brk =>
      obtain ⟨m₂, D₂, nw, F₂, N₂, hs, hK, g₂⟩ := h₃
      exact hR _ _ _ hK g₂ F₂ (News.sub N₂ hs)
    | next => obtain ⟨k', m₂, D₂, nw, hk, F₂, N₂, hs, hJ₂, g₂⟩ := h₃; exact ⟨k', hk, m₂, D₂, g₂, F₂, News.sub N₂ hs, hJ₂⟩
    | cont => obtain ⟨k', m₂, D₂, nw, hk, F₂, N₂, hs, hJ₂, g₂⟩ := h₃; exact ⟨k', hk, m₂, D₂, g₂, F₂, News.sub N₂ hs, hJ₂⟩
  | false =>
    rw [if_neg Bool.false_ne_true] at h₂ ⊢
    obtain ⟨m₂, D₂, nw, F₂, N₂, hs, hK, g₂⟩ := h₂
    exact wpAny_execs_nil (hR _ _ _ hK g₂ F₂ (News.sub N₂ hs))
theorem WTurn.next {h₀ : Heap} {L : Addr} {news : List (Addr × Obj)} {G : Shared → Prop} {J : Nat → (Str → Option Value) → List (Addr × Obj) → Prop} {K : (Str → Option Value) → List (Addr × Obj) → Prop} {Q : Flow → Shared → Prop} {n k : Nat} {s' : Shared} {m' : Str → Option Value} {D' nw : List (Addr × Obj)}
    (hk : k < n) (F : Fr h₀ L s'.heap m') (N : News h₀ L s'.heap nw) (hs : Sub (D' ++ news) nw) (hG : G s') (hJ : J k m' D') : WTurn h₀ L news G J K Q n .next s' := ⟨k, m', D', nw, hk, F, N, hs, hJ, hG⟩

abbrev RWhile (prog : Program) (w : World) (A : Around) (env : Env) (Q : Flow → Shared → Prop) (E : Value → Shared → Prop) : Result → Shared → Prop := fun r s' => PySem.wpAny_runOwn.match_1 (fun _ => Prop) r (fun f => Q f s') (fun e => cameBackBy (model prog w) A env E e s')
theorem whileL {prog : Program} {w : World} {A : Around} {s t : Shared} {env : Env} {h₀ : Heap} {Q : Flow → Shared → Prop} {E : Value → Shared → Prop} {test : Expr} {body : List Stmt} {m : Str → Option Value} {D news : List (Addr × Obj)} (n : Nat) [R : Root s t]
    (F : Fr h₀ env.locals s.heap m) (N : News h₀ env.locals s.heap (D ++ news))
    (J : Nat → (Str → Option Value) → List (Addr × Obj) → Prop) (K : (Str → Option Value) → List (Addr × Obj) → Prop) (h0 : J n m D)
    (step : let J0 := J; let K0 := K; ∀ k m₁ D₁ hh tk Q' S', Imp (WTurn h₀ env.locals news (Same t) J0 K0 Q k) Q' → ImpS (WStop h₀ env.locals news (Same t) K0) S' → J0 k m₁ D₁ → Fr h₀ env.locals hh m₁ → News h₀ env.locals hh (D₁ ++ news) →
      wpAny (model prog w) A (isTrue test env (eval test env)) (fun b s₂ => if b = true then wpAny (model prog w) A (execs body env) (KQ Q') (fun _ _ => False) s₂ else KS S' s₂) (fun _ _ => False) { t with heap := hh, toks := tk })
    (hR : ∀ m' D' hh tk, K m' D' → Fr h₀ env.locals hh m' → News h₀ env.locals hh (D' ++ news) → Q .next { t with heap := hh, toks := tk }) :
    codeAny (model prog w) A (.whileLoop test body [] env) (RWhile prog w A env Q E) s :=
  while_walks (G := Same t) n F N ⟨s.heap, s.toks, (R.st _ _).symm⟩ J K h0
    (fun k m₁ D₁ s₁ hJ g F' N' => by obtain ⟨h1, k1, rfl⟩ := g; exact step k m₁ D₁ h1 k1 _ _ ⟨fun _ _ h => h⟩ ⟨fun _ h => h⟩ hJ F' N')
    (fun m' D' s' hK g F' N' => by obtain ⟨h1, k1, rfl⟩ := g; exact hR m' D' h1 k1 hK F' N')

def CutQ (s : Shared) (g : Heap) (L : Addr) (m : Str → Option Value) (nw : List (Addr × Obj)) (x : Str) (v : Tok → Value) (fl : Flow) (s' : Shared) : Prop :=
  fl = .next ∧ ∃ (tok : Tok) (h' : Heap) (tk' : Nat), s' = { s with heap := h', toks := tk' } ∧ Fr g L h' (upd m x (v tok)) ∧ News g L h' nw
theorem CutQ.mk {s : Shared} {g h' : Heap} {L : Addr} {m : Str → Option Value} {nw : List (Addr × Obj)} {x : Str} {v : Tok → Value} {tok : Tok} {tk' : Nat} (F : Fr g L h' (upd m x (v tok))) (N : News g L h' nw) : CutQ s g L m nw x v .next { s with heap := h', toks := tk' } :=
  ⟨rfl, _, _, _, rfl, F, N⟩
theorem cutF {prog : Program} {w : World} {A : Around} {s t : Shared} {g : Heap} {L : Addr} {m : Str → Option Value} {nw : List (Addr × Obj)} {st : Sem Flow} {Q : Flow → Shared → Prop} {E : Value → Shared → Prop} [R : Root s t] (F : Fr g L s.heap m) (x : Str) (v : Tok → Value)
    (h1 : wpAny (model prog w) A st (CutQ t g L m nw x v) (fun _ _ => False) s)
    (h2 : ∀ (tok : Tok) (h' : Heap) (tk' : Nat), let m1 := upd m x (v tok); Fr g L h' m1 → News g L h' nw → Q .next { t with heap := h', toks := tk' }) : wpAny (model prog w) A st Q E s := by
  refine wpAny_mono h1 (fun fl s' h => ?_) fun _ _ e => e.elim
  obtain ⟨rfl, tok, h', tk', rfl, F', N'⟩ := h
  exact h2 tok h' tk' F' N'
/-- a def whose names are closed over -/
theorem Spec.ofC {prog : Program} {w : World} {need : Nat} {f : Addr} {vs : List Value} {news : List (Addr × Obj)} {Post : Value → List (Addr × Obj) → Prop}
    {name qual : Str} {params : Arguments} {body : List Stmt} {scope : Scope} {dV kV doc pm cdv ct oc : Value} {an od : Option Addr} {osl : Array (Option Value)} (binds : List (Str × Value))
    (ho : (hd.heap_1 w.params).lookup f = some ⟨oc, od, .func (fnOf name qual params body scope dV kV doc pm an cdv ct), osl⟩) (hcd : codeIn (hd.heap_1 w.params) cdv qual = true)
    (hbind : bindArgs (fnOf name qual params body scope dV kV doc pm an cdv ct) ⟨vs, []⟩ = pure binds) (hkind : (binds.all fun y => scope.names.lookup y.1 == some .local || scope.names.lookup y.1 == some .cell) = true)
    (hnd : ((cellsFrom 0 scope.names []).map (·.1)).Nodup)
    (h : ∀ (p : Program) (loose : List Str) (mean : ExcName → Option Value) (mg mb : Str → Option Value) (dp un : Nat) (gd : Option (List Code)) (outer : List Env) (A₀ : Around) (base g : Heap) (L' : Addr) (s : Shared) (cells : List (Addr × Obj)), let A1 := ktrTop dp un gd qual scope L' f cdv (cellsFrom (L' + 1) scope.names []) outer; let E1 := envX qual scope L' f cdv (cellsFrom (L' + 1) scope.names []);
      Below A₀ base outer g → Fr g L' s.heap (bindL (envOfC qual scope L' f cdv).kindOf binds fun _ => none) → (hd.heap_1 w.params).In g → News g L' s.heap (cells ++ news) →
      CellsAre (bindC (envOfC qual scope L' f cdv).kindOf binds fun _ => none) (cellsFrom (L' + 1) scope.names []) cells → (∀ p ∈ news, p.1 < L') → Top p loose mean mg mb g → dp + need < recursionLimit → un + 8 * need + 100 < cLine →
      wpAny (model prog w) A1 (execs body E1) (Done g L' s Post) (fun _ _ => False) s)
    (hco : scope.isCoroutine = false) (hgen : scope.isGenerator = false) (hk : scope.kind = .function) :
    Spec prog w (need + 1) f vs news Post := by
  intro p loose mean mg mb dp un gd cn cs L a ccd cl outer A₀ base h₀ m s Q E B F X N T hke hdp hun ret
  refine wpAny_call ?_
  refine code_defC (binds := binds) B F X N T rfl rfl hke ho hcd (Nat.lt_of_le_of_lt (Nat.le_add_right _ _) hdp) (BindsTo.of_eq hbind) hkind hnd (fun g L' h₁ tk cells FG F' N' Y' B' X' T' l1 => ?_) hco hgen hk
  refine wpAny_noRaise ?_
  refine wpAny_mono (h p loose mean mg mb (dp + 1) (un + 3) gd (envX cn cs L a ccd cl :: outer) _ base g L' { s with heap := h₁, toks := tk } cells B' F' X' N' Y' l1 T' (by lia) (by lia)) (fun fl s' hd => ?_) fun _ _ e => e
  obtain ⟨⟨h', tk', rfl⟩, m', news', F₂, N₂, P⟩ := hd
  refine leaveK_ F₂ N₂ fun F₃ N₃ => ?_
  cases fl <;> exact ret _ _ _ _ F₃ N₃ P

def KV (Q : Value → Shared → Prop) (v : Value) (s : Shared) : Prop := Q v s
structure ImpV (Q Q' : Value → Shared → Prop) : Prop where
  go : ∀ v s, Q v s → Q' v s
theorem stopV {Q Q' : Value → Shared → Prop} {v : Value} {s : Shared} (a : ImpV Q Q') (h : Q v s) : KV Q' v s := a.go v s h
section
open LCg
variable {prog : Program} {w : World} {A : Around} {s : Shared} {h₀ : Heap} {L : Addr} {m : Str → Option Value} {env : Env} {elt : Expr} {x : Str} {scope : Scope} {cl : List (Str × Addr)} {S : List (Addr × Obj) → Prop} {P : Nat → Value → Prop} {Fin : List Value → List (Addr × Obj) → Prop}
/-- the turns of a list comprehension, by what holds ahead of each -/
theorem comp_turns (n : Nat) (J : Nat → List Value → List (Addr × Obj) → Prop) (hFin : ∀ ys nw, J n ys nw → Fin ys nw)
    (step : ∀ i v ys nw I oI C oC D m₂ h tk (E' : Value → Shared → Prop), i < n → P i v → J i ys nw → NsObj oC m₂ → m₂ x = some v → Fr h₀ L h m → News h₀ L h ((I, oI) :: (C, oC) :: (D, lst ys) :: nw) → Off3 I C D nw → ((@Ne Nat I C) ∧ (@Ne Nat I D) ∧ (@Ne Nat C D)) →
      ∀ QC, ImpV (CompEnd h₀ L m { s with heap := h, toks := tk } I oI C oC D (lst ys) S (J (i + 1) ∘ (ys ++ [·]))) QC → wpAny (model prog w) A (eval elt (compEnvC scope cl C env)) (KV QC) E' { s with heap := h, toks := tk }) :
    ∀ k i ys nw, k + i = n → J i ys nw → CompRest prog w A h₀ L m env elt x scope cl s S P Fin k i ys nw
  | 0, i, ys, nw, e, hJ => by
    rw [Nat.zero_add] at e; subst e
    exact .zero (hFin ys nw hJ)
  | k + 1, i, ys, nw, e, hJ => by
    refine .succ fun v I oI C oC D m₂ h tk E' hP hC hx F N o1 ne => ?_
    refine wpAny_mono (step i v ys nw I oI C oC D m₂ h tk E' (by lia) hP hJ hC hx F N o1 ne _ ⟨fun _ _ h => h⟩) (fun y s₂ h₂ => ?_) fun _ _ e => e
    obtain ⟨h', tk', nw', rfl, F', N', o', hS, hJ'⟩ := h₂
    exact ⟨h', tk', nw', rfl, F', N', o', hS, comp_turns n J hFin step k (i + 1) (ys ++ [y]) nw' (by lia) hJ'⟩
end
section
open LCg LCt
variable {prog : Program} {w : World} {A : Around} {s : Shared} {h₀ : Heap} {L : Addr} {m : Str → Option Value} {env : Env} {ct elt : Expr} {x : Str} {scope : Scope} {cl : List (Str × Addr)} {S : List (Addr × Obj) → Prop} {P : Nat → Value → Prop} {Fin : List Value → List (Addr × Obj) → Prop}
theorem comp_turnsT (n : Nat) (J : Nat → List Value → List (Addr × Obj) → Prop) (hFin : ∀ ys nw, J n ys nw → Fin ys nw)
    (step : ∀ i v ys nw I oI C oC D m₂ h tk (E' : Value → Shared → Prop), i < n → P i v → J i ys nw → NsObj oC m₂ → m₂ x = some v → Fr h₀ L h m → News h₀ L h ((I, oI) :: (C, oC) :: (D, lst ys) :: nw) → Off3 I C D nw → ((@Ne Nat I C) ∧ (@Ne Nat I D) ∧ (@Ne Nat C D)) →
      ∀ QB, ImpB (fun s' => wpAny (model prog w) A (eval elt (compEnvC scope cl C env)) (CompEnd h₀ L m { s with heap := h, toks := tk } I oI C oC D (lst ys) S (J (i + 1) ∘ (ys ++ [·]))) E' s')
        (fun s' => CompEnd h₀ L m { s with heap := h, toks := tk } I oI C oC D (lst ys) S (fun _ nw' => J (i + 1) ys nw') Value.none s') QB →
      wpAny (model prog w) A (isTrue ct (compEnvC scope cl C env) (eval ct (compEnvC scope cl C env))) (KB QB) E' { s with heap := h, toks := tk }) :
    ∀ k i ys nw, k + i = n → J i ys nw → CompRestT prog w A h₀ L m env ct elt x scope cl s S P Fin k i ys nw
  | 0, i, ys, nw, e, hJ => by
    rw [Nat.zero_add] at e; subst e
    exact .zero (hFin ys nw hJ)
  | k + 1, i, ys, nw, e, hJ => by
    refine .succ fun v I oI C oC D m₂ h tk E' hP hC hx F N o1 ne => ?_
    refine wpAny_mono (step i v ys nw I oI C oC D m₂ h tk E' (by lia) hP hJ hC hx F N o1 ne (fun ok s' => if ok = true then wpAny (model prog w) A (eval elt (compEnvC scope cl C env)) (CompEnd h₀ L m { s with heap := h, toks := tk } I oI C oC D (lst ys) S (J (i + 1) ∘ (ys ++ [·]))) E' s' else CompEnd h₀ L m { s with heap := h, toks := tk } I oI C oC D (lst ys) S (fun _ nw' => J (i + 1) ys nw') Value.none s') ⟨fun _ h => h, fun _ h => h⟩) (fun ok s₂ h₂ => ?_) fun _ _ e => e
    cases ok with
    | true =>
      replace h₂ : wpAny (model prog w) A (eval elt (compEnvC scope cl C env)) (CompEnd h₀ L m { s with heap := h, toks := tk } I oI C oC D (lst ys) S (J (i + 1) ∘ (ys ++ [·]))) E' s₂ := h₂
      rw [if_pos rfl]
      refine wpAny_mono h₂ (fun y s₃ h₃ => ?_) fun _ _ e => e
      obtain ⟨h', tk', nw', rfl, F', N', o', hS, hJ'⟩ := h₃
      exact ⟨h', tk', nw', rfl, F', N', o', hS, comp_turnsT n J hFin step k (i + 1) (ys ++ [y]) nw' (by lia) hJ'⟩
    | false =>
      replace h₂ : CompEnd h₀ L m { s with heap := h, toks := tk } I oI C oC D (lst ys) S (fun _ nw' => J (i + 1) ys nw') Value.none s₂ := h₂
      rw [if_neg Bool.false_ne_true]
      obtain ⟨h', tk', nw', rfl, F', N', o', hS, hJ'⟩ := h₂
      exact ⟨h', tk', nw', rfl, F', N', o', hS, comp_turnsT n J hFin step k (i + 1) ys nw' (by lia) hJ'⟩
end
def Hold (P : Prop) : Prop := P
theorem Hold.mk {P : Prop} (h : Hold P) : P := h
theorem Hold.un {P : Prop} (h : P) : Hold P := h
theorem ldnX {M : Model} {A : Around} {E : Value → Shared → Prop} {s : Shared} {h₀ : Heap} {L a : Addr} {m : Str → Option Value} {cn : Str} {cs : Scope} {ccd : Value} {cl : List (Str × Addr)} {x : Str} {v : Value} {Q : Value → Shared → Prop} (F : Fr h₀ L s.heap m) (hv : m x = some v) (h : Q v s)
    (hk : cs.kind = .function := by rfl) (hl : (envX cn cs L a ccd cl).kindOf x = some .local := by rfl) :
    wpAny M A (loadName (envX cn cs L a ccd cl) x) Q E s := wpAny_loadName_local hk hl F.ns hv h
theorem off3_cons {I C D : Addr} {p : Addr × Obj} {l : List (Addr × Obj)} (h1 : p.1 ≠ I) (h2 : p.1 ≠ C) (h3 : p.1 ≠ D) (h : LCg.Off3 I C D l) : LCg.Off3 I C D (p :: l) := ⟨⟨h1, h2, h3⟩, h⟩
theorem off1_mem {D : Addr} : ∀ {l : List (Addr × Obj)}, LCg.Off1 D l → ∀ p ∈ l, p.1 ≠ D
  | [], _, _, h => nomatch h
  | _ :: _, x, p, h => by
    rcases List.mem_cons.mp h with rfl | h
    · exact x.1
    · exact off1_mem x.2 p h
theorem Sub.rot4 {a b c d : Addr × Obj} {l : List (Addr × Obj)} : Sub (a :: b :: c :: d :: l) (d :: a :: b :: c :: l) := fun p hp => by
  rcases List.mem_cons.mp hp with rfl | hp
  · exact .tail _ (.head _)
  · rcases List.mem_cons.mp hp with rfl | hp
    · exact .tail _ (.tail _ (.head _))
    · rcases List.mem_cons.mp hp with rfl | hp
      · exact .tail _ (.tail _ (.tail _ (.head _)))
      · rcases List.mem_cons.mp hp with rfl | hp
        · exact .head _
        · exact .tail _ (.tail _ (.tail _ (.tail _ hp)))
end
section
theorem kw_Fwit_0 : True := by
  k_with_none
  k_with "vat" => repeat' (first | exact List.forall_mem_nil _ | refine' List.forall_mem_cons.mpr ⟨?_, ?_⟩ | with_unfolding_all rfl)
  k_with "vrest" => first | ((repeat' (first | exact Vars.rest (by assumption) | exact vr_nil | exact vr_base | refine vr_upd ?_ (by with_unfolding_all rfl) | refine vr_set ?_ (by with_unfolding_all rfl))); done) | (intro zzz hzzz; (simp only [List.contains_cons, List.contains_nil, Bool.or_false, Bool.or_eq_false_iff, beq_eq_false_iff_ne, ne_eq] at hzzz); (simp [hzzz, upd, setL, baseOf, List.lookup]))
  k_with "exec For Name Name cons nil" => (refine' wpAny_For ?h ?hs; (case hs => (intro _; with_unfolding_all rfl)))
  k_with "exec For Name Call cons nil" => (refine' wpAny_For ?h ?hs; (case hs => (intro _; with_unfolding_all rfl)))
  k_with "exec For Name Attribute cons nil" => (refine' wpAny_For ?h ?hs; (case hs => (intro _; with_unfolding_all rfl)))
  k_with "sol" => all_goals (try (first | k_is | exact rfl | decide))
  k_with "sz" => first | omega | (simp only [List.length_append, List.length_cons, List.length_nil, List.length_map, List.length_replicate, List.length_reverse, List.length_set]; omega)
  k_with "sub" => first | exact Sub.refl _ | with_reducible assumption | exact Sub.nil | (refine Sub.cons ?_; k_extra "sub") | (refine Sub.trans (by with_reducible assumption) ?_; k_extra "sub") | fail "sub"
  k_with "member" => assumption
  k_with "ite" => first | with_reducible refine ite_tt ?_ | with_reducible refine ite_ff ?_
  k_with "execs nil" => refine wpAny_execs_nil ?_
  k_with "dp" => first | exact dpLe | omega
  k_with "un" => first | exact unLe | omega
  k_with "storeName" => (k_here; k_dflt (first | (refine' storeI ?_; intro q1zz) | (refine' storeS ?_; intro q1zz) | (refine' storeF ?_; intro q1zz) | refine' storeR ?_); k_whole; intro hpzz kpzz mpzz Fpzz Npzz; (try k_sweep))
  k_with "execs cons" => first | refine lastK ?_ | (refine cutK ?_; intro Qzz azz) | (refine enterK ?_; intro Qzz azz)
  k_with "KQ" => first | refine nextK (by assumption) ?_ | refine retK (by assumption) ?_ | refine impK (by assumption) ?_ | refine contK (by assumption) ?_ | refine brkK (by assumption) ?_
  k_with "KS" => refine stopK (by assumption) ?_
  k_with "exec If" => (refine ifK ?_; intro Qzz azz)
  k_with "KB" => refine ifB (by assumption) ?_
  k_with "KV" => refine stopV (by assumption) ?_
  k_with "exec While" => refine wpAny_While ?_
  k_with "exec While Compare" => refine wpAny_While ?_
  k_with "exec While BoolOp" => refine wpAny_While ?_
  k_with "eval ListComp" => (k_here; (with_reducible show wpAny _ _ (eval (PySem.Expr.ListComp _ [PySem.Comprehension.mk _ _ [] 0] _ _) _) _ _ _); k_dflt (refine LCg.ListComp_U (F₀ := by k_asm) (by with_unfolding_all rfl) (by decide) (by rfl) (by decide) (by rfl) ?_))
  k_with "eval ListComp" => (k_here; (with_reducible show wpAny _ _ (eval (PySem.Expr.ListComp _ [PySem.Comprehension.mk _ _ [_] 0] _ _) _) _ _ _); k_dflt (refine LCt.ListComp_T (F₀ := by k_asm) (by with_unfolding_all rfl) (by decide) (by rfl) (by decide) (by rfl) ?_))
  k_with "exec Assign cons ListComp" => (k_here; (with_reducible show wpAny _ _ (exec (PySem.Stmt.Assign [_] (PySem.Expr.ListComp _ [PySem.Comprehension.mk _ _ [] 0] _ _) _) _) _ _ _); k_dflt (refine LCg.Assign_ListComp_U (F₀ := by k_asm) (by rfl) (by with_unfolding_all rfl) (by with_unfolding_all rfl) (by decide) (by rfl) (by decide) (by rfl) (by rfl) (by rfl) ?_))
  k_with "exec Assign cons ListComp" => (k_here; (with_reducible show wpAny _ _ (exec (PySem.Stmt.Assign [_] (PySem.Expr.ListComp _ [PySem.Comprehension.mk _ _ [_] 0] _ _) _) _) _ _ _); k_dflt (refine LCt.Assign_ListComp_T (F₀ := by k_asm) (by rfl) (by with_unfolding_all rfl) (by with_unfolding_all rfl) (by decide) (by rfl) (by decide) (by rfl) (by rfl) (by rfl) ?_))
  k_with "CompSrc" => (k_here; refine Hold.mk ?_)
  k_with "CompSrcT" => (k_here; refine Hold.mk ?_)
  k_with "CompEnd" => (k_here; refine Hold.mk ?_)
  k_with "FinA" => (k_here; refine Hold.mk ?_)
  k_with "FinE" => (k_here; refine Hold.mk ?_)
  k_with "loadName" => (k_here; k_dflt (refine' ldnX ?k1 ?k2 ?_; (case k1 => k_asm); (case k2 => exact rfl); k_whole))
  k_with "newTuple" => (k_here; k_dflt (refine' tupR ?_); intro Dpzz hpzz kpzz Fpzz Npzz l1zz; (try k_lt l1zz); (try k_sweep))
  k_with "mem" => first | exact List.Mem.head _ | with_reducible assumption | (refine' List.mem_cons_of_mem _ ?_; k_extra "mem") | (refine' Sub.mem ?s ?m; (case s => with_reducible assumption); (case m => k_extra "mem")) | fail "mem"
  k_with "member" => k_extra "mem"
  k_with "call ref" => (k_here; refine' Spec.go (C := col_spec (by lia) _) (ret := ?_); rintro r9zz n9zz h9zz tk9zz F9zz N9zz ⟨⟨t9zz, e9zz⟩, d9zz⟩; subst e9zz; subst d9zz)
  exact True.intro
def hasRun (z : Str) (m : Int) : Bool := !(Builtin.Str.occurrences z (Txt.mul (Str.ofString " ") m) 0 z.length 1).isEmpty
def rowsF (up lo : List Nat) (n : Nat) : List (Int × Int × Int) := (List.range n).map fun (j : Nat) => ((1 + j : Int), colF (1 + j) up, colF (1 + j) lo)
def witF (up lo : List Nat) (n : Nat) : List (Int × Int × Int) := (rowsF up lo n).filter fun r => decide (r.2.1 ≥ r.2.2)
def DA (nw : List (Addr × Obj)) (vs : List Value) (ds : List Dat) : Prop := DatAll nw vs ds
theorem row_at {nw : List (Addr × Obj)} {vs : List Value} {rs : List (Int × Int × Int)} {i : Nat} {v : Value} (h : DatAll nw vs (rs.map rowD)) (hv : vs[i]? = some v) :
    ∃ r a t1 t2 t3 k, rs[i]? = some r ∧ v = .ref a ∧ (a, ({ cls := .type "tuple", data := .seq [.int r.1 t1, .int r.2.1 t2, .int r.2.2 t3].toArray k } : Obj)) ∈ nw := by
  have hi : i < vs.length := by
    rcases List.getElem?_eq_some_iff.mp hv with ⟨h, _⟩; exact h
  have hl := h.length
  have hi' : i < (rs.map rowD).length := by lia
  have hobt := h.get hi'
  obtain ⟨v', e, hd⟩ := hobt
  rw [hv] at e
  obtain rfl := Option.some.inj e
  have hr : i < rs.length := by simpa using hi'
  refine ⟨rs[i], ?_⟩
  rw [List.getElem_map] at hd
  unfold rowD at hd
  cases hd with
  | tuple hm hall =>
    cases hall with
    | cons h1 r1 => cases h1 with
      | int _ t1 => cases r1 with
        | cons h2 r2 => cases h2 with
          | int _ t2 => cases r2 with
            | cons h3 r3 => cases h3 with
              | int _ t3 => cases r3 with
                | nil => exact ⟨_, t1, t2, t3, _, by simp [hr], rfl, hm⟩
theorem rowsF_succ (up lo : List Nat) (i : Nat) : rowsF up lo (i + 1) = rowsF up lo i ++ [((1 + i : Int), colF (1 + i) up, colF (1 + i) lo)] := by
  unfold rowsF; rw [List.range_succ, List.map_append]; rfl
theorem rowsF_len (up lo : List Nat) (n : Nat) : (rowsF up lo n).length = n := by unfold rowsF; rw [List.length_map, List.length_range]
set_option maxHeartbeats 8000000 in
theorem wit_spec {prog : Program} {w : World} {up lo : Str} {ut lt : Tok} {news : List (Addr × Obj)} {n : Nat} (hu : up.cps.size < 2 ^ 13) (hl : lo.cps.size < 2 ^ 13) (hn0 : 1 ≤ n) (hn : n < 2 ^ 12)
    (h1 : ∀ m : Nat, 1 ≤ m → m < n → hasRun (up ++ lo) m = true) (h2 : hasRun (up ++ lo) n = false) :
    Spec prog w 2 190 [.str up ut, .str lo lt] news (RowsP (witF up.cps.toList lo.cps.toList n) news) := by
  refine' Spec.ofC [(Str.ofString "upper", .str up ut), (Str.ofString "lower", .str lo lt)] ?_ ?_ ?_ ?_ ?_ ?_ ?_ ?_ ?_
  k_extra "sol"
  intro p loose mean mg mb dp un gd outer A₀ base g L' s cells A1 E1 B F X N Y l0 T hdp hun
  have hobt := CellsAre.two Y
  obtain ⟨o1, o2, hE, d1, d2⟩ := hobt
  subst hE; clear Y
  have e1 : o1.data = .cell (some (.str lo lt)) := d1
  have e2 : o2.data = .cell (some (.str up ut)) := d2
  clear d1 d2
  have F0 : Fr g L' s.heap (setL (fun _ => none) []) := F
  clear F
  k_steps
  rename Fr _ _ _ _ => F1
  rename News _ _ _ _ => N1
  refine whileL (n := n - 1) (D := []) (news := (L' + 1 + 1, o1) :: (L' + 1, o2) :: news) F1 N1
    (fun k m' D' => ∃ (i : Nat) (tk : Tok), D' = [] ∧ 1 ≤ i ∧ i + k = n ∧ Vars m' (fun _ => none) ["most", "rows"] [("most", .int i tk)])
    (fun m' D' => ∃ tk, D' = [] ∧ Vars m' (fun _ => none) ["most", "rows"] [("most", .int n tk)]) ?_ ?_ ?_
  · refine' ⟨1, _, rfl, Nat.le_refl _, by lia, ⟨?_, ?_⟩⟩
    rotate_left
    · k_extra "vat"
    · k_extra "vrest"
  · intro J0 K0 k m₁ D₁ hh tkk Q0 S0 a0 b0 hq1 F2 N2
    obtain ⟨i, tk, rfl, hi, hk, V⟩ := hq1
    refine V.frL F2 ?_
    intro mv F3
    have N3 : News g L' hh ((L' + 1 + 1, o1) :: (L' + 1, o2) :: news) := N2
    clear F2 F1 N2 N1
    k_steps
    · rename ((List.isEmpty _) = true) => ht
      have hin : i = n := by
        rcases Nat.lt_or_ge i n with h | h
        · have h3 := h1 i hi h
          unfold hasRun at h3
          rw [ht] at h3; exact absurd h3 (by decide)
        · lia
      subst hin
      rename Fr _ _ _ _ => F5
      rename News _ _ _ _ => N5
      refine ⟨_, [], _, F5, N5, Sub.refl _, ⟨tk, rfl, ⟨?_, ?_⟩⟩, Same.mk⟩
      · k_extra "vat"
      · k_extra "vrest"
    · rename ((List.isEmpty _) = false) => ht
      have hin : i < n := by
        rcases Nat.lt_or_ge i n with h | h
        · exact h
        · have : i = n := by lia
          subst this
          have h3 := h2
          unfold hasRun at h3
          rw [ht] at h3; exact absurd h3 (by decide)
      refine' WTurn.next (k := k - 1) (by lia) (by assumption) (by assumption) (Sub.refl _) Same.mk ⟨i + 1, _, rfl, by lia, by lia, ⟨?_, ?_⟩⟩
      rotate_left
      · k_extra "vat"
      · k_extra "vrest"
  · intro m' D' hh tkk hq1 F2 N2
    obtain ⟨tk1, rfl, V⟩ := hq1
    refine V.frL F2 ?_
    intro mv F3
    have N3 : News g L' hh ((L' + 1 + 1, o1) :: (L' + 1, o2) :: news) := N2
    clear F2 F1 N2 N1
    k_steps
    rename IsRange _ _ _ _ _ _ _ _ => R1
    rename Fr _ _ _ _ => F4
    rename News _ _ _ _ => N4
    refine Hold.un (LCg.CompSrc.range (n := n) rfl F4 N4 R1 (small_one (by lia) (by lia) (by lia) (by lia)) (by rw [rangeSize_one]; split <;> lia) (by rw [sizeLine_eq]; lia) fun g' => ?_)
    refine comp_turns n (fun i ys nw => ∃ tups, nw = tups ++ ((L' + 1 + 1, o1) :: (L' + 1, o2) :: news) ∧ DA tups ys ((rowsF up.cps.toList lo.cps.toList i).map rowD)) ?_ ?_ n 0 [] _ (by lia) ⟨[], rfl, DatAll.nil⟩
    · rintro ys nw ⟨tups, rfl, hD⟩
      intro D h tk F6 N6 od
      have hDl := hD.length
      rw [List.length_map, rowsF_len] at hDl
      clear F4 N4 R1
      k_steps
      refine Hold.un (LCt.CompSrcT.ledger rfl (by assumption) (by assumption) (.head _) (by rw [sizeLine_eq]; simp; lia) fun g2 => ?_)
      refine comp_turnsT n (fun i zs nw => nw = (D, LCg.lst ys) :: (tups ++ ((L' + 1 + 1, o1) :: (L' + 1, o2) :: news)) ∧ DA tups zs (((rowsF up.cps.toList lo.cps.toList i).filter fun r => decide (r.2.1 ≥ r.2.2)).map rowD)) ?_ ?_ _ 0 [] _ (by simp; lia) ⟨rfl, DatAll.nil⟩
      · rintro zs nw ⟨rfl, hz⟩
        intro D2 h2 tk2 F7 N7 od2
        k_steps
        exact ⟨Same.mk, _, _, F7, N7, D2, zs, _, rfl, .head _, DatAll.mono (fun p hp => .tail _ (.tail _ (List.mem_append_left _ hp))) hz, fun p hp => .tail _ (.tail _ (List.mem_append_right _ (.tail _ (.tail _ hp))))⟩
      · rintro i v zs nw I oI C oC D2 m₂ h2 tk2 E' hi hv ⟨rfl, hz⟩ hC hx F7 N7 o7 ne QC aC
        have hobt := row_at hD (by simpa using hv)
        obtain ⟨r, a, t1, t2, t3, k, hr, rfl, ha⟩ := hobt
        have hr' : r = ((1 + i : Int), colF (1 + i) up.cps.toList, colF (1 + i) lo.cps.toList) := by
          unfold rowsF at hr; simp [List.getElem?_range, hi] at hr; exact hr.symm
        have q0 : (a, ({ cls := .type "tuple", data := .seq [.int r.1 t1, .int r.2.1 t2, .int r.2.2 t3].toArray k } : Obj)) ∈ tups ++ ((L' + 1 + 1, o1) :: (L' + 1, o2) :: news) := List.mem_append_left _ ha
        have hd : DatIn tups (.ref a) (rowD ((1 + i : Int), colF (1 + i) up.cps.toList, colF (1 + i) lo.cps.toList)) := by
          subst hr'
          exact DatIn.tuple ha (.cons (.int _ _) (.cons (.int _ _) (.cons (.int _ _) .nil)))
        k_steps
        · rename (_ ≤ _) => hle
          refine Hold.un ⟨_, _, _, rfl, by assumption, by assumption, o7, .inr ⟨_, .head _, rfl, _, rfl⟩, rfl, ?_⟩
          show DatAll _ _ _
          rw [rowsF_succ, List.filter_append, List.map_append]
          refine DatAll.append hz ?_
          rw [show List.filter (fun r : Int × Int × Int => decide (r.2.1 ≥ r.2.2)) [((1 + i : Int), colF (1 + i) up.cps.toList, colF (1 + i) lo.cps.toList)] = [((1 + i : Int), colF (1 + i) up.cps.toList, colF (1 + i) lo.cps.toList)] from by
            subst hr'; simpa using hle]
          exact DatAll.one hd
        · rename (¬ _ ≤ _) => hle
          refine Hold.un ⟨_, _, _, rfl, by assumption, by assumption, o7, .inr ⟨_, .head _, rfl, _, rfl⟩, rfl, ?_⟩
          show DatAll _ _ _
          rw [rowsF_succ, List.filter_append, show List.filter (fun r : Int × Int × Int => decide (r.2.1 ≥ r.2.2)) [((1 + i : Int), colF (1 + i) up.cps.toList, colF (1 + i) lo.cps.toList)] = [] from by
            subst hr'; simpa using hle, List.append_nil]
          exact hz
    · rintro i v ys nw I oI C oC D m₂ h tk E' hi ⟨t, rfl⟩ ⟨tups, rfl, hD⟩ hC hx F5 N5 o1' ne QC aC
      clear F4 N4 R1
      have q1 : (L' + 1 + 1, o1) ∈ tups ++ ((L' + 1 + 1, o1) :: (L' + 1, o2) :: news) := List.mem_append_right _ (.head _)
      have q2 : (L' + 1, o2) ∈ tups ++ ((L' + 1 + 1, o1) :: (L' + 1, o2) :: news) := List.mem_append_right _ (.tail _ (.head _))
      k_steps
      rename Fr _ _ _ _ => F6
      rename News _ _ _ _ => N6
      rename (_ < _ ∧ _ < _ ∧ _ < _ ∧ AllLt _ _) => lt6
      refine name_it (P := fun b => I < b ∧ C < b ∧ D < b ∧ AllLt b (tups ++ ((L' + 1 + 1, o1) :: (L' + 1, o2) :: news))) lt6 fun d ed => ?_
      subst ed
      have N7 := News.sub N6 Sub.rot4
      refine Hold.un ⟨_, _, _, rfl, F6, N7, off3_cons (Nat.ne_of_gt lt6.1) (Nat.ne_of_gt lt6.2.1) (Nat.ne_of_gt lt6.2.2.1) o1', trivial, (d, _) :: tups, rfl, ?_⟩
      show DatAll _ _ _
      rw [rowsF_succ, List.map_append]
      refine (DatAll.mono (fun p hp => .tail _ hp) hD).append (DatAll.one (DatIn.tuple (.head _) ?_))
      exact .cons (.int _ _) (.cons (.int _ _) (.cons (.int _ _) .nil))
end
section
theorem kw_Kit6_0 : True := by
  k_with_none
  k_with "vat" => repeat' (first | exact List.forall_mem_nil _ | refine' List.forall_mem_cons.mpr ⟨?_, ?_⟩ | with_unfolding_all rfl)
  k_with "vrest" => first | ((repeat' (first | exact Vars.rest (by assumption) | exact vr_nil | exact vr_base | refine vr_upd ?_ (by with_unfolding_all rfl) | refine vr_set ?_ (by with_unfolding_all rfl))); done) | (intro zzz hzzz; (simp only [List.contains_cons, List.contains_nil, Bool.or_false, Bool.or_eq_false_iff, beq_eq_false_iff_ne, ne_eq] at hzzz); (simp [hzzz, upd, setL, baseOf, List.lookup]))
  k_with "exec For Name Name cons nil" => (refine' wpAny_For ?h ?hs; (case hs => (intro _; with_unfolding_all rfl)))
  k_with "exec For Name Call cons nil" => (refine' wpAny_For ?h ?hs; (case hs => (intro _; with_unfolding_all rfl)))
  k_with "exec For Name Attribute cons nil" => (refine' wpAny_For ?h ?hs; (case hs => (intro _; with_unfolding_all rfl)))
  k_with "sol" => all_goals (try (first | k_is | exact rfl | decide))
  k_with "sz" => first | omega | (simp only [List.length_append, List.length_cons, List.length_nil, List.length_map, List.length_replicate, List.length_reverse, List.length_set]; omega)
  k_with "sub" => first | exact Sub.refl _ | with_reducible assumption | exact Sub.nil | (refine Sub.cons ?_; k_extra "sub") | (refine Sub.trans (by with_reducible assumption) ?_; k_extra "sub") | fail "sub"
  k_with "member" => assumption
  k_with "ite" => first | with_reducible refine ite_tt ?_ | with_reducible refine ite_ff ?_
  k_with "execs nil" => refine wpAny_execs_nil ?_
  k_with "dp" => first | exact dpLe | omega
  k_with "un" => first | exact unLe | omega
  k_with "storeName" => (k_here; k_dflt (first | (refine' storeI ?_; intro q1zz) | (refine' storeS ?_; intro q1zz) | (refine' storeF ?_; intro q1zz) | refine' storeR ?_); k_whole; intro hpzz kpzz mpzz Fpzz Npzz; (try k_sweep))
  k_with "execs cons" => first | refine lastK ?_ | (refine cutK ?_; intro Qzz azz) | (refine enterK ?_; intro Qzz azz)
  k_with "KQ" => first | refine nextK (by assumption) ?_ | refine retK (by assumption) ?_ | refine impK (by assumption) ?_ | refine contK (by assumption) ?_ | refine brkK (by assumption) ?_
  k_with "KS" => refine stopK (by assumption) ?_
  k_with "exec If" => (refine ifK ?_; intro Qzz azz)
  k_with "KB" => refine ifB (by assumption) ?_
  k_with "KV" => refine stopV (by assumption) ?_
  exact True.intro
def SpecG (prog : Program) (w : World) (need : Nat) (f : Addr) (vs : List Value) (news : List (Addr × Obj)) (Post : Value → List (Addr × Obj) → Prop) : Prop :=
  ∀ (p : Program) (loose : List Str) (mean : ExcName → Option Value) (mg mb : Str → Option Value) (dp un : Nat) (gd : Option (List Code)) (cn : Str) (cs : Scope) (L a : Addr) (ccd : Value) (cl : List (Str × Addr)) (outer : List Env) (A₀ : Around) (base h₀ : Heap) (m : Str → Option Value) (s : Shared) (Q E : Value → Shared → Prop),
    Below A₀ base outer h₀ → Fr h₀ L s.heap m → (hd.heap_1 w.params).In h₀ → News h₀ L s.heap news → Top p loose mean mg mb h₀ → CodeHd h₀ 93 89 → AllBare s.gens → cs.kind = .function → dp + need < recursionLimit → un + 8 * need + 100 < cLine →
    (∀ r news' s', s'.os = s.os → AllBare s'.gens → Fr h₀ L s'.heap m → News h₀ L s'.heap news' → Post r news' → Q r s') →
    wpAny (model prog w) (ktrTop dp un gd cn cs L a ccd cl outer) (call (.ref f) vs) Q E s
def DoneG (g : Heap) (L' : Addr) (s : Shared) (Post : Value → List (Addr × Obj) → Prop) (fl : Flow) (s' : Shared) : Prop :=
  s'.os = s.os ∧ AllBare s'.gens ∧ ∃ m' news', Fr g L' s'.heap m' ∧ News g L' s'.heap news' ∧ Post (retOf fl) news'
theorem SpecG.of {prog : Program} {w : World} {need : Nat} {f : Addr} {vs : List Value} {news : List (Addr × Obj)} {Post : Value → List (Addr × Obj) → Prop}
    {name qual : Str} {params : Arguments} {body : List Stmt} {scope : Scope} {dV kV doc pm cdv ct oc : Value} {an od : Option Addr} {osl : Array (Option Value)} (binds : List (Str × Value))
    (ho : (hd.heap_1 w.params).lookup f = some ⟨oc, od, .func (fnOf name qual params body scope dV kV doc pm an cdv ct), osl⟩) (hcd : codeIn (hd.heap_1 w.params) cdv qual = true)
    (hbind : bindArgs (fnOf name qual params body scope dV kV doc pm an cdv ct) ⟨vs, []⟩ = pure binds) (hloc : (binds.all fun x => decide (scope.names.lookup x.1 = some .local)) = true)
    (h : ∀ (p : Program) (loose : List Str) (mean : ExcName → Option Value) (mg mb : Str → Option Value) (dp un : Nat) (gd : Option (List Code)) (outer : List Env) (A₀ : Around) (base g : Heap) (L' : Addr) (s : Shared), let A1 := ktrTop dp un gd qual scope L' f cdv [] outer; let m0 := setL (fun _ => none) binds.reverse; let E1 := envOf qual scope L' f cdv;
      Below A₀ base outer g → Fr g L' s.heap m0 → (hd.heap_1 w.params).In g → News g L' s.heap news → Top p loose mean mg mb g → CodeHd g 93 89 → AllBare s.gens → dp + need < recursionLimit → un + 8 * need + 100 < cLine →
      wpAny (model prog w) A1 (execs body E1) (DoneG g L' s Post) (fun _ _ => False) s)
    (hco : scope.isCoroutine = false) (hgen : scope.isGenerator = false) (hk : scope.kind = .function) (hcell : ∀ x ∈ scope.names, x.2 ≠ .cell) :
    SpecG prog w (need + 1) f vs news Post := by
  intro p loose mean mg mb dp un gd cn cs L a ccd cl outer A₀ base h₀ m s Q E B F X N T C0 AB hke hdp hun ret
  refine wpAny_call ?_
  refine code_def (binds := binds) B F X N T rfl rfl hke ho hcd (Nat.lt_of_le_of_lt (Nat.le_add_right _ _) hdp) (BindsTo.of_eq hbind) (locs hloc) (fun g L' h₁ FG F' N' B' X' T' => ?_) hco hgen hk hcell
  refine wpAny_noRaise ?_
  rw [hm_setL] at F'
  refine wpAny_mono (h p loose mean mg mb (dp + 1) (un + 3) gd (envX cn cs L a ccd cl :: outer) _ base g L' { s with heap := h₁, toks := s.toks + binds.length } B' F' X' N' T' (C0.keeps FG.keep) AB (by lia) (by lia)) (fun fl s' hd => ?_) fun _ _ e => e
  obtain ⟨eo, ab, m', news', F₂, N₂, P⟩ := hd
  refine leaveK_ F₂ N₂ fun F₃ N₃ => ?_
  cases fl <;> exact ret _ _ _ eo ab F₃ N₃ P
theorem SpecG.use {prog : Program} {w : World} {n : Nat} {f : Addr} {vs : List Value} {news : List (Addr × Obj)} {Post : Value → List (Addr × Obj) → Prop} (C : SpecG prog w n f vs news Post)
    {p : Program} {loose : List Str} {mean : ExcName → Option Value} {mg mb : Str → Option Value} {dp un : Nat} {gd : Option (List Code)} {cn : Str} {cs : Scope} {L a : Addr} {ccd : Value} {cl : List (Str × Addr)} {outer : List Env} {A₀ : Around} {base h₀ : Heap} {m : Str → Option Value} {s : Shared} {Q E : Value → Shared → Prop}
    (B : Below A₀ base outer h₀) (F : Fr h₀ L s.heap m) (X : (hd.heap_1 w.params).In h₀) (N : News h₀ L s.heap news) (T : Top p loose mean mg mb h₀) (C0 : CodeHd h₀ 93 89) (AB : AllBare s.gens) (hke : cs.kind = .function) (hdp : dp + n < recursionLimit) (hun : un + 8 * n + 100 < cLine)
    (ret : ∀ r news' h' g' tk' d', AllBare g' → Fr h₀ L h' m → News h₀ L h' news' → Post r news' → Q r { s with heap := h', gens := g', toks := tk', drawn := d' }) :
    wpAny (model prog w) (ktrTop dp un gd cn cs L a ccd cl outer) (call (.ref f) vs) Q E s := C p loose mean mg mb dp un gd cn cs L a ccd cl outer A₀ base h₀ m s Q E B F X N T C0 AB hke hdp hun fun r news' s' eo ab F' N' P => by
  obtain ⟨h', g', d', tk', os'⟩ := s'
  cases eo
  exact ret r news' h' g' tk' d' ab F' N' P
def OsB (s s' : Shared) : Prop := s'.os = s.os ∧ AllBare s'.gens
theorem OsB.refl {s : Shared} (h : AllBare s.gens) : OsB s s := ⟨rfl, h⟩
theorem OsB.free (s : Shared) : Free (OsB s) := ⟨fun _ _ _ h => h⟩
theorem ne_same {prog : Program} {w : World} {A : Around} {E : Value → Shared → Prop} {s : Shared} {h₀ : Heap} {L a b : Addr} {news n₁ n₂ : List (Addr × Obj)} {oa ob : Obj} {xs ys : List Value} {ka kb : Nat} {ds es : List Dat} {Q : Value → Shared → Prop}
    (N : News h₀ L s.heap news) (ma : (a, oa) ∈ news) (ca : oa.cls = .type "list") (da : oa.data = .seq xs.toArray ka) (Da : DatAll n₁ xs ds) (sa : ∀ p ∈ n₁, p ∈ news)
    (mb : (b, ob) ∈ news) (cb : ob.cls = .type "list") (db : ob.data = .seq ys.toArray kb) (Db : DatAll n₂ ys es) (sb : ∀ p ∈ n₂, p ∈ news)
    (ha : ∀ d ∈ ds, kqdOk 8 d = true) (hu : A.units + 64 < cLine) (e : ds = es) (h : Q (.bool false) s) : wpAny (model prog w) A (compareOp .NotEq (.ref a) (.ref b)) Q E s := by
  subst e
  refine kqd_ne N ma ca da Da sa mb cb db Db sb ha ha hu ?_
  rw [show ∀ (i : Decidable (ds = ds)), @decide (ds = ds) i = true from fun i => @decide_eq_true _ i rfl]
  exact h
theorem News.uniq {h₀ h : Heap} {L a : Addr} {o1 o2 : Obj} {news : List (Addr × Obj)} (N : News h₀ L h news) (m1 : (a, o1) ∈ news) (m2 : (a, o2) ∈ news) : o1 = o2 := by
  have e := (N _ m1).1.symm.trans (N _ m2).1
  exact Option.some.inj e
mutual
theorem datIn_to {news news' : List (Addr × Obj)} (hs : ∀ p ∈ news, p.2.cls ≠ .none → p ∈ news') : ∀ {v : Value} {d : Dat}, DatIn news v d → DatIn news' v d
  | _, _, .none => .none
  | _, _, .bool b => .bool b
  | _, _, .int i t => .int i t
  | _, _, .str x t => .str x t
  | _, _, .bytes b t => .bytes b t
  | _, _, .tuple h r => .tuple (hs _ h (by nofun)) (datAll_to hs r)
  | _, _, .list h r => .list (hs _ h (by nofun)) (datAll_to hs r)
theorem datAll_to {news news' : List (Addr × Obj)} (hs : ∀ p ∈ news, p.2.cls ≠ .none → p ∈ news') : ∀ {vs : List Value} {ds : List Dat}, DatAll news vs ds → DatAll news' vs ds
  | _, _, .nil => .nil
  | _, _, .cons h r => .cons (datIn_to hs h) (datAll_to hs r)
end
theorem off_tab {h₀ h : Heap} {L : Addr} {ps : Array Value} {news : List (Addr × Obj)} (N : News h₀ L h news) (m : (89, tabObj ps) ∈ news) : ∀ p ∈ news, p.2.cls ≠ .none → p ∈ off 89 news := fun p hp hc => by
  refine off_mem hp fun e => hc ?_
  obtain ⟨a, o⟩ := p
  cases e
  rw [News.uniq N hp m]
abbrev NewsOf {h₀ h : Heap} {L : Addr} {news : List (Addr × Obj)} (_ : News h₀ L h news) : List (Addr × Obj) := news
end
section
theorem kw_Kgen_0 : True := by
  k_with_none
  k_with "vat" => repeat' (first | exact List.forall_mem_nil _ | refine' List.forall_mem_cons.mpr ⟨?_, ?_⟩ | with_unfolding_all rfl)
  k_with "vrest" => first | ((repeat' (first | exact Vars.rest (by assumption) | exact vr_nil | exact vr_base | refine vr_upd ?_ (by with_unfolding_all rfl) | refine vr_set ?_ (by with_unfolding_all rfl))); done) | (intro zzz hzzz; (simp only [List.contains_cons, List.contains_nil, Bool.or_false, Bool.or_eq_false_iff, beq_eq_false_iff_ne, ne_eq] at hzzz); (simp [hzzz, upd, setL, baseOf, List.lookup]))
  k_with "exec For Name Name cons nil" => (refine' wpAny_For ?h ?hs; (case hs => (intro _; with_unfolding_all rfl)))
  k_with "exec For Name Call cons nil" => (refine' wpAny_For ?h ?hs; (case hs => (intro _; with_unfolding_all rfl)))
  k_with "exec For Name Attribute cons nil" => (refine' wpAny_For ?h ?hs; (case hs => (intro _; with_unfolding_all rfl)))
  k_with "sol" => all_goals (try (first | k_is | exact rfl | decide))
  k_with "sz" => first | omega | (simp only [List.length_append, List.length_cons, List.length_nil, List.length_map, List.length_replicate, List.length_reverse, List.length_set]; omega)
  k_with "sub" => first | exact Sub.refl _ | with_reducible assumption | exact Sub.nil | (refine Sub.cons ?_; k_extra "sub") | (refine Sub.trans (by with_reducible assumption) ?_; k_extra "sub") | fail "sub"
  k_with "member" => assumption
  k_with "ite" => first | with_reducible refine ite_tt ?_ | with_reducible refine ite_ff ?_
  k_with "execs nil" => refine wpAny_execs_nil ?_
  k_with "dp" => first | exact dpLe | omega
  k_with "un" => first | exact unLe | omega
  k_with "storeName" => (k_here; k_dflt (first | (refine' storeI ?_; intro q1zz) | (refine' storeS ?_; intro q1zz) | (refine' storeF ?_; intro q1zz) | refine' storeR ?_); k_whole; intro hpzz kpzz mpzz Fpzz Npzz; (try k_sweep))
  k_with "execs cons" => first | refine lastK ?_ | (refine cutK ?_; intro Qzz azz) | (refine enterK ?_; intro Qzz azz)
  k_with "KQ" => first | refine nextK (by assumption) ?_ | refine retK (by assumption) ?_ | refine impK (by assumption) ?_ | refine contK (by assumption) ?_ | refine brkK (by assumption) ?_
  k_with "KS" => refine stopK (by assumption) ?_
  k_with "exec If" => (refine ifK ?_; intro Qzz azz)
  k_with "KB" => refine ifB (by assumption) ?_
  k_with "KV" => refine stopV (by assumption) ?_
  exact True.intro
theorem pass_all (n : Nat) : passing (fun _ => true) n 0 = List.range n := by
  unfold passing; rw [List.drop_zero]; exact List.filter_eq_self.mpr fun _ _ => rfl
theorem gen_K {prog : Program} {w : World} {A : Around} {E : Value → Shared → Prop} {s : Shared} {h₀ : Heap} {L c P l : Addr} {m mg mb : Str → Option Value} {rest : List (Addr × Obj)} {p : Program} {loose : List Str} {mean : ExcName → Option Value} {ps : Array Value} {vs : List Value} {k : Nat} {Fe : Nat → Value → Prop}
    {env : Env} {elt iter : Expr} {x : Str} {px : Pos} {scope : Scope} {pos : Pos} {Q : Value → Shared → Prop}
    (hh : A.handled = none) (hroom : A.depth < recursionLimit) (F : Fr h₀ L s.heap m) (T : Top p loose mean mg mb h₀) (C0 : CodeHd h₀ c P) (N : News h₀ L s.heap ((P, tabObj ps) :: rest)) (hP : ∀ p ∈ rest, p.1 ≠ P) (ht : TriplesOk ps.toList) (G : AllBare s.gens)
    (hl : (l, listOf vs.toArray k) ∈ rest) (hcode : env.code = .ref c) (hgl : env.globals = mainGlobals)
    (hiter : ∀ Q' : Value → Shared → Prop, Q' (.ref l) s → wpAny (model prog w) A (eval iter env) Q' E s)
    (helt : ∀ (C : Addr) (code : Value) (A' : Around) (E' : Value → Shared → Prop) i v (t : Shared) m₂, A'.handled = none → vs[i]? = some v → Fr h₀ C t.heap m₂ → News h₀ C t.heap rest → m₂ x = some v → wpAny (model prog w) A' (eval elt (genEnv scope [] C code builtinsNs env)) (fun y s₃ => Fe i y ∧ Keeps t s₃) E' t)
    (hQ : ∀ (ag C I : Addr) (og oC oI : Obj) (ps' : Array Value) (h₅ : Heap) (g₅ : Array GenState) (tk₅ : Nat), TriplesOk ps'.toList → AllBare g₅ → Fr h₀ L h₅ m → News h₀ L h₅ ((ag, og) :: (C, oC) :: (I, oI) :: (P, tabObj ps') :: rest) →
      (∀ p ∈ (P, tabObj ps') :: rest, p.1 < I) → I < C → C < ag → L < I →
      (∀ s' : Shared, s'.gens = g₅ → s'.os = s.os → s'.drawn = s.drawn → (∀ b o, h₀.get? b = some o → s'.heap.get? b = some o) → News h₀ L s'.heap ((ag, og) :: (C, oC) :: (I, oI) :: rest) → Gen prog w A (I - 1) ag vs.length Fe s') →
      Q (.ref ag) { s with heap := h₅, gens := g₅, toks := tk₅ })
    (hco : scope.isCoroutine = false) (hclos : closureFor scope env = pure []) (hcell : ∀ y ∈ scope.names, y.2 ≠ .cell) (h0 : scope.names.lookup (".0" : Str) = some NameKind.local) (hx : scope.names.lookup x = some .local) (hkind : scope.kind = .function)
    (hs : ∀ x, genFold iter env x = pure x) :
    wpAny (model prog w) A (eval (.GeneratorExp elt [⟨.Name x px, iter, [], 0⟩] scope pos) env) Q E s := by
  have hlist : s.heap.IsList l vs.toArray := ⟨_, (N _ (.tail _ hl)).1, rfl, _, rfl⟩
  obtain ⟨bm, ob, b1, b2, b3, b4, b5, b6⟩ := T.bmain
  have hPm := N (P, tabObj ps) (.head _)
  have hgs : s.heap.Ns mainGlobals mg := T.g.keeps F.keep
  have hgP : mainGlobals ≠ P := fun q => by
    obtain ⟨o, es, ep, e, hd, _⟩ := hgs
    rw [q, hPm.1] at e; cases e; cases hd
  have hbP : bm ≠ P := fun q => by
    have e := F.keep _ _ b3
    rw [q, hPm.1] at e; cases e; cases b4
  have hLs : L < s.heap.objs.size := F.ns.lt
  have hPs : P < s.heap.objs.size := Heap.lt_size hPm.1
  refine wpAny_GeneratorExp_make hco hclos hcell h0 hkind hroom (hiter _ (wpAny_pyIter_list hlist ?_)) hs
  generalize hI : s.heap.objs.size = I at hLs hPs ⊢
  have hIg : (s.heap.push { cls := .type "list_iterator", data := .fields #[.ref l, .int 0 0] }).get? I = some { cls := .type "list_iterator", data := .fields #[.ref l, .int 0 0] } := by rw [← hI]; exact Heap.get?_push_size _ rfl
  generalize hoI : ({ cls := .type "list_iterator", data := .fields #[.ref l, .int 0 0] } : Obj) = oI at hIg ⊢
  have up2 : ∀ b o, s.heap.get? b = some o → (s.heap.push oI).get? b = some o := fun b o e => Heap.get?_push_of_some _ e
  have hlI : l ≠ I := by rw [← hI]; exact Nat.ne_of_lt (Heap.lt_size (N _ (.tail _ hl)).1)
  have ltI : ∀ p ∈ (P, tabObj ps) :: rest, p.1 < I := fun p hp => by rw [← hI]; exact Heap.lt_size (N p hp).1
  have nolim : h₀.NoLimit := T.nolimit
  refine ⟨(nolim.keeps F.keep).keeps up2, ?_⟩
  -- the code object
  have key : ∀ (code : Value) (h₃ : Heap) (tk₃ : Nat) (ps' : Array Value), TriplesOk ps'.toList → Heap.ExtBut P (s.heap.push oI) h₃ → h₃.get? P = some (tabObj ps') → I < h₃.objs.size →
      wpAny (model prog w) A (builtinsFor env.globals env.builtins) (fun bi s₄ => ∀ h', h'.Ns s₄.heap.objs.size (fun y => if y = ".0" then some (.ref I) else none) → Heap.SameBut s₄.heap.objs.size (s₄.heap.push { cls := .type "frame", data := .dict #[] }) h' →
          Q (.ref h'.objs.size) { s₄ with
            gens := s₄.gens.push (.fresh (.compStart (.GeneratorExp elt [⟨.Name x px, iter, [], 0⟩] scope pos) 0 (.ref I) .none (genEnv scope [] s₄.heap.objs.size code bi env))),
            toks := s₄.toks + 1 + 1 + 1,
            heap := h'.push { cls := .type "generator", data := .fields #[.int s₄.gens.size 0, .str "<genexpr>" (s₄.toks + 1), .str (env.qual ++ "<genexpr>") (s₄.toks + 1 + 1)] } }) E { s with heap := h₃, toks := tk₃ } := by
    intro code h₃ tk₃ ps' ht' hx₃ htab hlt
    have old₃ : ∀ b o, h₀.get? b = some o → h₃.get? b = some o := fun b o e => hx₃ b o (fun q => by rw [q, hPm.2.2] at e; cases e) (up2 _ _ (F.keep b o e))
    refine wpAny_builtinsFor (m := mg) (bm := bm) (o := ob) (by rw [hgl]; exact T.g.keeps old₃) b1 b2 (old₃ _ _ b3) b4 b5 b6 ?_
    intro h' hn' hs'
    dsimp only at hn' hs' ⊢
    generalize hC : h₃.objs.size = C at hn' hs' ⊢
    have hIC : I < C := hC ▸ hlt
    have hsz : h'.objs.size = C + 1 := by rw [hs'.1, Heap.size_push, hC]
    have keep' : ∀ b o, h₃.get? b = some o → h'.get? b = some o := fun b o e => hs'.extBut b o (by rw [← hC]; exact Nat.ne_of_lt (Heap.lt_size e)) (Heap.get?_push_of_some _ e)
    generalize hga : h'.objs.size = ag at hsz ⊢
    generalize hog : ({ cls := .type "generator", data := .fields #[.int s.gens.size 0, .str "<genexpr>" (tk₃ + 1), .str (env.qual ++ "<genexpr>") (tk₃ + 1 + 1)] } : Obj) = og
    have keep₅ : ∀ b o, h₃.get? b = some o → (h'.push og).get? b = some o := fun b o e => Heap.get?_push_of_some _ (keep' b o e)
    obtain ⟨oC, hoC, hoCd⟩ := LCg.ns_obj hn'
    have hrest : ∀ p ∈ rest, (h'.push og).get? p.1 = some p.2 ∧ p.1 ≠ L ∧ h₀.get? p.1 = none := fun q hq => ⟨keep₅ _ _ (hx₃ _ _ (hP q hq) (up2 _ _ (N q (.tail _ hq)).1)), (N q (.tail _ hq)).2⟩
    have fresh : ∀ b, L < b → h₀.get? b = none := fun b hb => Heap.get?_none_of_le (Nat.le_trans F.above (Nat.le_of_lt hb))
    have hLC : L < C := Nat.lt_trans hLs hIC
    have hag : C < ag := by lia
    have hogg : (h'.push og).get? ag = some og := by rw [← hga]; exact Heap.get?_push_size _ (by rw [← hog]; rfl)
    have hoC' : (h'.push og).get? C = some oC := Heap.get?_push_of_some _ hoC
    have hI3 : h₃.get? I = some oI := hx₃ _ _ (Nat.ne_of_gt hPs) hIg
    refine hQ ag C I og oC oI ps' _ _ _ ht' (G.push rfl) ⟨(F.ns.keeps up2).extBut hx₃ hPm.2.1.symm |>.keeps keep₅, fun b o e => keep₅ _ _ (old₃ b o e), F.above⟩ ?_ ?_ hIC hag hLs ?_
    · intro q hq
      rcases List.mem_cons.mp hq with rfl | hq
      · exact ⟨hogg, Nat.ne_of_gt (Nat.lt_trans hLC hag), fresh _ (Nat.lt_trans hLC hag)⟩
      · rcases List.mem_cons.mp hq with rfl | hq
        · exact ⟨hoC', Nat.ne_of_gt hLC, fresh _ hLC⟩
        · rcases List.mem_cons.mp hq with rfl | hq
          · exact ⟨keep₅ _ _ hI3, Nat.ne_of_gt hLs, fresh _ hLs⟩
          · rcases List.mem_cons.mp hq with rfl | hq
            · exact ⟨keep₅ _ _ htab, hPm.2⟩
            · exact hrest q hq
    · intro q hq
      rcases List.mem_cons.mp hq with rfl | hq
      · exact hPs
      · exact ltI _ (.tail _ hq)
    · intro s' eg eo ed k1 N2
      -- what the generator leans on
      let fp : List Addr := I :: ((List.range C).filter fun b => (h₀.get? b).isSome) ++ rest.map (·.1)
      have cmem : cStatics ∈ fp := by
        obtain ⟨mc, ⟨o, _, _, e, _⟩, _⟩ := nolim
        refine List.mem_append_left _ (.tail _ (List.mem_filter.mpr ⟨List.mem_range.mpr ?_, by rw [e]; rfl⟩))
        exact Nat.lt_of_lt_of_le (Heap.lt_size e) (Nat.le_trans F.above (Nat.le_of_lt hLC))
      have fplt : ∀ b ∈ fp, b < C := by
        intro b hb
        rcases List.mem_append.mp hb with hb | hb
        · rcases List.mem_cons.mp hb with rfl | hb
          · exact hIC
          · exact List.mem_range.mp (List.mem_filter.mp hb).1
        · obtain ⟨q, hq, rfl⟩ := List.mem_map.mp hb
          exact Nat.lt_trans (ltI q (.tail _ hq)) hIC
      have cI : cStatics ≠ I := by
        obtain ⟨mc, ⟨o, _, _, e, _⟩, _⟩ := nolim
        exact Nat.ne_of_lt (Nat.lt_of_lt_of_le (Heap.lt_size e) (Nat.le_trans F.above (Nat.le_of_lt hLs)))
      have W0 : ∀ A' : Around, A'.handled = none → Walks prog w A' I fp [I] vs.toArray.size _ _ := fun A' hA => (Walks.list (prog := prog) (w := w) hA I l hlI vs.toArray).mono_fp fun b hb => by
        rcases List.mem_cons.mp hb with rfl | hb
        · exact List.mem_append_left _ (.head _)
        · rw [List.mem_singleton.mp hb]; exact List.mem_append_right _ (List.mem_map.mpr ⟨_, hl, rfl⟩)
      have agf : ag ∉ fp := fun hm => Nat.lt_irrefl _ (Nat.lt_trans hag (fplt _ hm))
      have Cf : C ∉ fp := fun hm => Nat.lt_irrefl _ (fplt _ hm)
      have W := WalksS.genexpQ (prog := prog) (w := w) (A := A.in4) hh ag s.gens.size C fp [I] (fun _ => true) vs.toArray.size Fe (Nat.ne_of_gt hag) agf (fun b hb => by rw [List.mem_singleton.mp hb]; exact List.mem_append_left _ (.head _)) hroom cmem
        (fun q => Cf (q ▸ cmem)) (fun q => cI (List.mem_singleton.mp q))
      rw [pass_all, List.length_range] at W
      have hg5 : (s.gens.push (.fresh (.compStart (.GeneratorExp elt [⟨.Name x px, iter, [], 0⟩] scope pos) 0 (.ref I) .none (genEnv scope [] C code builtinsNs env))))[s.gens.size]? = some (.fresh (.compStart (.GeneratorExp elt [⟨.Name x px, iter, [], 0⟩] scope pos) 0 (.ref I) .none (genEnv scope [] C code builtinsNs env))) := Array.getElem?_push_size ..
      have at0 : GenAt prog w A.in4 ag s.gens.size C fp [I] (fun _ => true) vs.toArray.size Fe 0 s' := by
        have nC : s'.heap.get? C = some oC := (N2 (C, oC) (.tail _ (.head _))).1
        have nI : s'.heap.get? I = some oI := (N2 (I, oI) (.tail _ (.tail _ (.head _)))).1
        have nL : s'.heap.get? l = some (listOf vs.toArray k) := (N2 _ (.tail _ (.tail _ (.tail _ hl)))).1
        refine GenAt.fresh (A := A.in4) (cenv := genEnv scope [] C code builtinsNs env) (m := fun y => if y = ".0" then some (.ref I) else none) hh W0 (fun _ => true) Fe hx (by simp [genEnv, hkind]) hco Cf ?_
          ⟨og, _, _, (N2 (ag, og) (.head _)).1, by rw [← hog], by rw [← hog], by rw [← hog]⟩ (by rw [eg]; exact hg5) ⟨⟨oI, nI, by rw [← hoI], by rw [← hoI]; rfl⟩, ⟨_, nL, rfl, _, rfl⟩⟩ (hoCd.ns nC) (nolim.keeps k1)
        have keepFp : ∀ t : Shared, (∀ b ∈ fp, b ∉ [I] → ∀ o, s'.heap.get? b = some o → t.heap.get? b = some o) → (∀ b o, h₀.get? b = some o → t.heap.get? b = some o) ∧ ∀ q ∈ rest, t.heap.get? q.1 = some q.2 := fun t hk =>
          ⟨fun b o e => hk b (List.mem_append_left _ (.tail _ (List.mem_filter.mpr ⟨List.mem_range.mpr (Nat.lt_of_lt_of_le (Heap.lt_size e) (Nat.le_trans F.above (Nat.le_of_lt hLC))), by rw [e]; rfl⟩)))
            (fun q => by rw [List.mem_singleton.mp q, fresh I hLs] at e; cases e) o (k1 b o e),
           fun q hq => hk q.1 (List.mem_append_right _ (List.mem_map.mpr ⟨q, hq, rfl⟩)) (fun z => Nat.ne_of_lt (ltI q (.tail _ hq)) (List.mem_singleton.mp z)) _ (N2 q (.tail _ (.tail _ (.tail _ hq)))).1⟩
        refine ⟨fun A' E' i v t m₂ hA hP1 hn2 hm2 hk => ?_, fun A' E' i v t m₂ hA hP1 _ hn2 hm2 hk => ?_⟩
        · refine wpAny_tests_nil ?_
          exact ⟨rfl, _, _, rfl, fun _ _ e => e⟩
        · obtain ⟨q1, q2⟩ := keepFp t hk
          exact helt C code A' E' i v t m₂ hA (by simpa using hP1) ⟨hn2, q1, Nat.le_trans F.above (Nat.le_of_lt hLC)⟩ (fun q hq => ⟨q2 q hq, Nat.ne_of_lt (Nat.lt_trans (ltI q (.tail _ hq)) hIC), (N q (.tail _ hq)).2.2⟩) hm2
      refine ⟨ag :: C :: fp, C :: [I], s.gens.size, _, ?_, at0, fun i s'' st => st.1.typeIs, .head _, ?_, ?_⟩
      · have hsz : vs.toArray.size = vs.length := by simp
        rw [hsz] at W at0 ⊢
        exact { W with item := fun j s Q E hj st hQ => W.item j s Q E hj st fun v s' hv => hQ v s' (by
          obtain ⟨i, hi, hF⟩ := hv
          rw [List.getElem?_range hj] at hi
          cases hi; exact hF) }
      · intro b hb
        have lt : ∀ q ∈ ((ag, og) :: (C, oC) :: (I, oI) :: rest), q.1 < s'.heap.objs.size := fun q hq => Heap.lt_size (N2 q hq).1
        have ltag := lt (ag, og) (.head _)
        rcases List.mem_cons.mp hb with e | hb
        · rw [e]; exact ltag
        · rcases List.mem_cons.mp hb with e | hb
          · rw [e]; exact Nat.lt_trans hag ltag
          · exact Nat.lt_trans (fplt b hb) (Nat.lt_trans hag ltag)
      · intro b hb
        rcases List.mem_cons.mp hb with e | hb
        · rw [e]; exact Nat.lt_of_le_of_lt (Nat.sub_le I 1) hIC
        · rw [List.mem_singleton.mp hb]; exact Nat.sub_lt (Nat.lt_of_le_of_lt (Nat.zero_le L) hLs) Nat.one_pos
  have hx2 : Heap.ExtBut P s.heap (s.heap.push oI) := fun b o _ e => up2 b o e
  have hok : (s.heap.push oI).IsCode c P ps := ((C0.keeps F.keep).keeps up2).code (up2 _ _ hPm.1) ht
  have htb : (s.heap.push oI).TableAt c P ps := ((C0.keeps F.keep).keeps up2).tab (up2 _ _ hPm.1)
  cases hf : codeAmong pos ps.toList with
  | some cv => exact wpAny_genexprCode_hit hcode hok hf (key cv _ _ ps ht (fun _ _ _ e => e) (up2 _ _ hPm.1) (by rw [Heap.size_push, hI]; exact Nat.lt_succ_self _))
  | none =>
    refine wpAny_genexprCodeX hcode hok htb hf fun c' h₃ tk₃ hx₃ hge hlt hcode₃ _ htab₃ _ => ?_
    obtain ⟨_, _, _, _, _, _, _, _, _, op, _, _, _, _, _, _, _, hop, hpd, htr, _⟩ := hcode₃
    exact key _ _ _ _ htr hx₃ htab₃.2 (by have := hge; simp only [Heap.size_push] at this; lia)
end
section
theorem kw_Ffmt_0 : True := by
  k_with_none
  k_with "vat" => repeat' (first | exact List.forall_mem_nil _ | refine' List.forall_mem_cons.mpr ⟨?_, ?_⟩ | with_unfolding_all rfl)
  k_with "vrest" => first | ((repeat' (first | exact Vars.rest (by assumption) | exact vr_nil | exact vr_base | refine vr_upd ?_ (by with_unfolding_all rfl) | refine vr_set ?_ (by with_unfolding_all rfl))); done) | (intro zzz hzzz; (simp only [List.contains_cons, List.contains_nil, Bool.or_false, Bool.or_eq_false_iff, beq_eq_false_iff_ne, ne_eq] at hzzz); (simp [hzzz, upd, setL, baseOf, List.lookup]))
  k_with "exec For Name Name cons nil" => (refine' wpAny_For ?h ?hs; (case hs => (intro _; with_unfolding_all rfl)))
  k_with "exec For Name Call cons nil" => (refine' wpAny_For ?h ?hs; (case hs => (intro _; with_unfolding_all rfl)))
  k_with "exec For Name Attribute cons nil" => (refine' wpAny_For ?h ?hs; (case hs => (intro _; with_unfolding_all rfl)))
  k_with "sol" => all_goals (try (first | k_is | exact rfl | decide))
  k_with "sz" => first | omega | (simp only [List.length_append, List.length_cons, List.length_nil, List.length_map, List.length_replicate, List.length_reverse, List.length_set]; omega)
  k_with "sub" => first | exact Sub.refl _ | with_reducible assumption | exact Sub.nil | (refine Sub.cons ?_; k_extra "sub") | (refine Sub.trans (by with_reducible assumption) ?_; k_extra "sub") | fail "sub"
  k_with "member" => assumption
  k_with "ite" => first | with_reducible refine ite_tt ?_ | with_reducible refine ite_ff ?_
  k_with "execs nil" => refine wpAny_execs_nil ?_
  k_with "dp" => first | exact dpLe | omega
  k_with "un" => first | exact unLe | omega
  k_with "storeName" => (k_here; k_dflt (first | (refine' storeI ?_; intro q1zz) | (refine' storeS ?_; intro q1zz) | (refine' storeF ?_; intro q1zz) | refine' storeR ?_); k_whole; intro hpzz kpzz mpzz Fpzz Npzz; (try k_sweep))
  k_with "execs cons" => first | refine lastK ?_ | (refine cutK ?_; intro Qzz azz) | (refine enterK ?_; intro Qzz azz)
  k_with "KQ" => first | refine nextK (by assumption) ?_ | refine retK (by assumption) ?_ | refine impK (by assumption) ?_ | refine contK (by assumption) ?_ | refine brkK (by assumption) ?_
  k_with "KS" => refine stopK (by assumption) ?_
  k_with "exec If" => (refine ifK ?_; intro Qzz azz)
  k_with "KB" => refine ifB (by assumption) ?_
  k_with "KV" => refine stopV (by assumption) ?_
  k_with "exec While" => refine wpAny_While ?_
  k_with "exec While Compare" => refine wpAny_While ?_
  k_with "exec While BoolOp" => refine wpAny_While ?_
  k_with "eval ListComp" => (k_here; (with_reducible show wpAny _ _ (eval (PySem.Expr.ListComp _ [PySem.Comprehension.mk _ _ [] 0] _ _) _) _ _ _); k_dflt (refine LCg.ListComp_U (F₀ := by k_asm) (by with_unfolding_all rfl) (by decide) (by rfl) (by decide) (by rfl) ?_))
  k_with "eval ListComp" => (k_here; (with_reducible show wpAny _ _ (eval (PySem.Expr.ListComp _ [PySem.Comprehension.mk _ _ [_] 0] _ _) _) _ _ _); k_dflt (refine LCt.ListComp_T (F₀ := by k_asm) (by with_unfolding_all rfl) (by decide) (by rfl) (by decide) (by rfl) ?_))
  k_with "exec Assign cons ListComp" => (k_here; (with_reducible show wpAny _ _ (exec (PySem.Stmt.Assign [_] (PySem.Expr.ListComp _ [PySem.Comprehension.mk _ _ [] 0] _ _) _) _) _ _ _); k_dflt (refine LCg.Assign_ListComp_U (F₀ := by k_asm) (by rfl) (by with_unfolding_all rfl) (by with_unfolding_all rfl) (by decide) (by rfl) (by decide) (by rfl) (by rfl) (by rfl) ?_))
  k_with "exec Assign cons ListComp" => (k_here; (with_reducible show wpAny _ _ (exec (PySem.Stmt.Assign [_] (PySem.Expr.ListComp _ [PySem.Comprehension.mk _ _ [_] 0] _ _) _) _) _ _ _); k_dflt (refine LCt.Assign_ListComp_T (F₀ := by k_asm) (by rfl) (by with_unfolding_all rfl) (by with_unfolding_all rfl) (by decide) (by rfl) (by decide) (by rfl) (by rfl) (by rfl) ?_))
  k_with "CompSrc" => (k_here; refine Hold.mk ?_)
  k_with "CompSrcT" => (k_here; refine Hold.mk ?_)
  k_with "CompEnd" => (k_here; refine Hold.mk ?_)
  k_with "FinA" => (k_here; refine Hold.mk ?_)
  k_with "FinE" => (k_here; refine Hold.mk ?_)
  k_with "loadName" => (k_here; k_dflt (refine' ldnX ?k1 ?k2 ?_; (case k1 => k_asm); (case k2 => exact rfl); k_whole))
  k_with "newTuple" => (k_here; k_dflt (refine' tupR ?_); intro Dpzz hpzz kpzz Fpzz Npzz l1zz; (try k_lt l1zz); (try k_sweep))
  k_with "mem" => first | exact List.Mem.head _ | with_reducible assumption | (refine' List.mem_cons_of_mem _ ?_; k_extra "mem") | (refine' Sub.mem ?s ?m; (case s => with_reducible assumption); (case m => k_extra "mem")) | fail "mem"
  k_with "member" => k_extra "mem"
  k_with "eval GeneratorExp" => (k_here; refine Hold.mk ?_)
  k_with "call builtin:str.join" => (k_here; refine Hold.mk ?_)
  k_with "call builtin:len" => (k_here; refine' len_lstM (h := ?_))
  exact True.intro
theorem gld_built {M : Model} {A : Around} {E : Value → Shared → Prop} {s : Shared} {K : Frag} {h₀ : Heap} {C : Addr} {m mg mb : Str → Option Value} {scope : Scope} {cl : List (Str × Addr)} {code : Value} {env : Env} {p : Program} {loose : List Str} {mean : ExcName → Option Value} {x : Str} {pos : Pos} {v : Value} {Q : Value → Shared → Prop}
    (F : Fr h₀ C s.heap m) (X : K.In h₀) (T : Top p loose mean mg mb h₀) (e : nsIn K mainGlobals x = some none) (hv : bootBuiltins x = some v) (hn : x ≠ "__name__") (h : Q v s) (hg : env.globals = mainGlobals := by rfl)
    (hk : (genEnv scope cl C code builtinsNs env).scope.kind = .function := by rfl) (hx : (genEnv scope cl C code builtinsNs env).kindOf x = some .globalImplicit := by rfl) (hd : (x == ("__debug__" : Str)) = false := by decide) :
    wpAny M A (eval (.Name x pos) (genEnv scope cl C code builtinsNs env)) Q E s :=
  Name_function_global hk hx (loadGlobal_builtin (env := genEnv scope cl C code builtinsNs env) (show s.heap.Ns env.globals mg from hg ▸ (T.keeps F.keep).g) (mg_none_of X T.g e) (T.keeps F.keep).b ((T.builtins x hn).trans hv) h) hd
theorem kw_Ffmt_1 : True := by
  k_with "eval Name" => (k_here; (with_reducible refine inGen ?_); k_dflt (first | refine ldVarG (by k_asm) (by assumption) ?_ | refine gld_built (by k_asm) (by k_asm) (by k_asm) (by k_is) (by boot_by_name) (by decide) ?_))
  k_with "call type:str" => (k_here; refine str_of_int_fit (N := 2 ^ 40) (by split <;> lia) (by decide) ?_; intro _)
  exact True.intro
abbrev rowT (r : Int × Int × Int) : Str := Str.ofString (toString r.1)
def joinF (rows : List (Int × Int × Int)) : Str := Txt.join (Str.ofString ", ") (rows.map rowT)
def fmtF (rows : List (Int × Int × Int)) : Str := Str.ofString (if 1 < (rows.length : Int) then "at tab sizes" else "at tab size") ++ Str.ofString " " ++ joinF rows
structure FmtOk (rows : List (Int × Int × Int)) : Prop where
  n : rows.length < 2 ^ 12
  b : ∀ r ∈ rows, 0 ≤ r.1 ∧ r.1 < 2 ^ 20
  j : JoinOk (Str.ofString ", ") (rows.map rowT) = true
  l : (joinF rows).length < 2 ^ 20
  w : ((rows.map rowT).map (·.length)).sum + (rows.map rowT).length * (Str.ofString ", ").length ≤ 16777216
def FmtP (rows : List (Int × Int × Int)) (rest : List (Addr × Obj)) (r : Value) (news' : List (Addr × Obj)) : Prop :=
  ∃ t ps', r = .str (fmtF rows) t ∧ TriplesOk ps'.toList ∧ news' = (89, tabObj ps') :: rest
theorem rowT_map (rows : List (Int × Int × Int)) : (List.range rows.length).map (fun j => Str.ofString (toString (rows.getD j (0, 0, 0)).1)) = rows.map rowT := by
  apply List.ext_getElem
  · simp
  · intro i h1 h2
    have : i < rows.length := by simpa using h1
    simp [List.getD_eq_getElem?_getD, this]
    rfl
theorem low_news {h₀ h h' : Heap} {L K : Addr} {a b c : Addr × Obj} {l : List (Addr × Obj)} (N : News h₀ L h (a :: b :: c :: l)) (hk : ∀ b o, b ≤ K → h.get? b = some o → h'.get? b = some o) (lt : ∀ p ∈ l, p.1 ≤ K) : News h₀ L h' l :=
  fun q hq => ⟨hk _ _ (lt q hq) (N q (.tail _ (.tail _ (.tail _ hq)))).1, (N q (.tail _ (.tail _ (.tail _ hq)))).2⟩
set_option maxHeartbeats 8000000 in
theorem fmt_spec {prog : Program} {w : World} {l : Addr} {vs : List Value} {k : Nat} {rows : List (Int × Int × Int)} {ps : Array Value} {rest : List (Addr × Obj)} (hl : (l, listOf vs.toArray k) ∈ rest) (hD : DA rest vs (rows.map rowD)) (ht : TriplesOk ps.toList) (hP : ∀ p ∈ rest, p.1 ≠ 89) (ok : FmtOk rows) :
    SpecG prog w 4 94 [.ref l] ((89, tabObj ps) :: rest) (FmtP rows rest) := by
  refine' SpecG.of [(Str.ofString "w", .ref l)] ?_ ?_ ?_ ?_ ?_ ?_ ?_ ?_ ?_
  k_extra "sol"
  intro p loose mean mg mb dp un gd outer A₀ base g L' s A1 m0 E1 B F X N T C0 AB hdp hun
  obtain ⟨hr, hb, hok, hjl, _⟩ := ok
  have hlen : vs.length = rows.length := by have := hD.length; simpa using this
  k_steps
  refine Hold.un (gen_K (l := l) (vs := vs) (k := k) (Fe := fun i y => ∃ t, y = .str (Str.ofString (toString (rows.getD i (0, 0, 0)).1)) t) rfl (by show dp < _; lia) (by assumption) T C0 (by assumption) hP ht AB hl rfl rfl ?_ ?_ ?_ rfl rfl (by decide) rfl rfl rfl (by intro _; with_unfolding_all rfl))
  · intro Q' h
    k_steps
    exact h
  · intro C code A' E' i v t m₂ hA hv F2 N2 hx
    have hobt := row_at hD hv
    obtain ⟨r, a, t1, t2, t3, k, hr1, rfl, ha⟩ := hobt
    have hobt := hb r (List.mem_of_getElem? hr1)
    obtain ⟨hb1, hb2⟩ := hobt
    k_steps
    · rw [List.getD_eq_getElem?_getD, hr1]; rfl
    · exact ⟨_, _, rfl, fun _ _ e => e⟩
  · intro ag C I og oC oI ps' h₅ g₅ tk₅ ht' AB' F5 N5 lt1 lt2 lt3 lt4 GF
    k_steps
    all_goals
      rename Fr _ _ _ _ => F6
      rename News _ _ _ _ => N6
      have lt5 : ∀ p ∈ (89, tabObj ps') :: rest, p.1 ≤ I - 1 := fun p hp => Nat.le_sub_one_of_lt (lt1 p hp)
      have hX : L' ≤ I - 1 := Nat.le_sub_one_of_lt lt4
      refine Hold.un (join_rowsK F6 AB' (GF _ rfl rfl rfl F6.keep (News.sub N6 (fun p hp => by
        rcases List.mem_cons.mp hp with rfl | hp
        · exact .head _
        · rcases List.mem_cons.mp hp with rfl | hp
          · exact .tail _ (.head _)
          · rcases List.mem_cons.mp hp with rfl | hp
            · exact .tail _ (.tail _ (.head _))
            · exact .tail _ (.tail _ (.tail _ (.tail _ hp)))))) hX (fun j => Str.ofString (toString (rows.getD j (0, 0, 0)).1)) (fun j v h => h) (by rw [hlen, rowT_map]; exact hok) ?_ (by rw [sizeLine_eq]; lia))
      intro s' t' F7 AB7 eo hk
      have N7 := low_news N6 hk lt5
      clear F6 N6
      rw [hlen, rowT_map]
      have e9 : Txt.join (Str.ofString ", ") (rows.map rowT) = joinF rows := rfl
      rw [e9]
      clear e9
      k_steps
    · rename (1 < _) => hc
      exact ⟨eo, AB7, _, _, by assumption, N7, _, ps', by unfold fmtF; rw [if_pos hc]; rfl, ht', rfl⟩
    · rename (¬ 1 < _) => hc
      exact ⟨eo, AB7, _, _, by assumption, N7, _, ps', by unfold fmtF; rw [if_neg hc]; rfl, ht', rfl⟩
theorem fmt_call {prog : Program} {w : World} {l : Addr} {vs : List Value} {k : Nat} {rows : List (Int × Int × Int)} {ps : Array Value} {news nX : List (Addr × Obj)}
    {p : Program} {loose : List Str} {mean : ExcName → Option Value} {mg mb : Str → Option Value} {dp un : Nat} {gd : Option (List Code)} {cn : Str} {cs : Scope} {L a : Addr} {ccd : Value} {cl : List (Str × Addr)} {outer : List Env} {A₀ : Around} {base h₀ : Heap} {m : Str → Option Value} {s : Shared} {Q E : Value → Shared → Prop}
    (N : News h₀ L s.heap news) (hl : (l, listOf vs.toArray k) ∈ news) (m89 : (89, tabObj ps) ∈ news) (hD : DA nX vs (rows.map rowD)) (hX : Sub nX news) (ht : TriplesOk ps.toList) (ok : FmtOk rows)
    (B : Below A₀ base outer h₀) (F : Fr h₀ L s.heap m) (X : (hd.heap_1 w.params).In h₀) (T : Top p loose mean mg mb h₀) (C0 : CodeHd h₀ 93 89) (AB : AllBare s.gens) (hke : cs.kind = .function) (hdp : dp + 4 < recursionLimit) (hun : un + 8 * 4 + 100 < cLine)
    (ret : ∀ t ps' h' g' tk' d', TriplesOk (Array.toList ps') → AllBare g' → Fr h₀ L h' m → News h₀ L h' ((89, tabObj ps') :: off 89 news) → Q (.str (fmtF rows) t) { s with heap := h', gens := g', toks := tk', drawn := d' }) :
    wpAny (model prog w) (ktrTop dp un gd cn cs L a ccd cl outer) (call (.ref 94) [.ref l]) Q E s := by
  have hto := off_tab N m89
  refine SpecG.use (fmt_spec (hto _ hl (by nofun)) (datAll_to hto (DatAll.mono hX hD)) ht (fun p hp => off_ne p hp) ok) B F X (News.pull N m89) T C0 AB hke hdp hun fun r news' h' g' tk' d' ab F' N' P => ?_
  obtain ⟨t, ps', rfl, ht', rfl⟩ := P
  exact ret t ps' h' g' tk' d' ht' ab F' N'
end
section
theorem kw_Fnag_0 : True := by
  k_with_none
  k_with "vat" => repeat' (first | exact List.forall_mem_nil _ | refine' List.forall_mem_cons.mpr ⟨?_, ?_⟩ | with_unfolding_all rfl)
  k_with "vrest" => first | ((repeat' (first | exact Vars.rest (by assumption) | exact vr_nil | exact vr_base | refine vr_upd ?_ (by with_unfolding_all rfl) | refine vr_set ?_ (by with_unfolding_all rfl))); done) | (intro zzz hzzz; (simp only [List.contains_cons, List.contains_nil, Bool.or_false, Bool.or_eq_false_iff, beq_eq_false_iff_ne, ne_eq] at hzzz); (simp [hzzz, upd, setL, baseOf, List.lookup]))
  k_with "exec For Name Name cons nil" => (refine' wpAny_For ?h ?hs; (case hs => (intro _; with_unfolding_all rfl)))
  k_with "exec For Name Call cons nil" => (refine' wpAny_For ?h ?hs; (case hs => (intro _; with_unfolding_all rfl)))
  k_with "exec For Name Attribute cons nil" => (refine' wpAny_For ?h ?hs; (case hs => (intro _; with_unfolding_all rfl)))
  k_with "sol" => all_goals (try (first | k_is | exact rfl | decide))
  k_with "sz" => first | omega | (simp only [List.length_append, List.length_cons, List.length_nil, List.length_map, List.length_replicate, List.length_reverse, List.length_set]; omega)
  k_with "sub" => first | exact Sub.refl _ | with_reducible assumption | exact Sub.nil | (refine Sub.cons ?_; k_extra "sub") | (refine Sub.trans (by with_reducible assumption) ?_; k_extra "sub") | fail "sub"
  k_with "member" => assumption
  k_with "ite" => first | with_reducible refine ite_tt ?_ | with_reducible refine ite_ff ?_
  k_with "execs nil" => refine wpAny_execs_nil ?_
  k_with "dp" => first | exact dpLe | omega
  k_with "un" => first | exact unLe | omega
  k_with "storeName" => (k_here; k_dflt (first | (refine' storeI ?_; intro q1zz) | (refine' storeS ?_; intro q1zz) | (refine' storeF ?_; intro q1zz) | refine' storeR ?_); k_whole; intro hpzz kpzz mpzz Fpzz Npzz; (try k_sweep))
  k_with "execs cons" => first | refine lastK ?_ | (refine cutK ?_; intro Qzz azz) | (refine enterK ?_; intro Qzz azz)
  k_with "KQ" => first | refine nextK (by assumption) ?_ | refine retK (by assumption) ?_ | refine impK (by assumption) ?_ | refine contK (by assumption) ?_ | refine brkK (by assumption) ?_
  k_with "KS" => refine stopK (by assumption) ?_
  k_with "exec If" => (refine ifK ?_; intro Qzz azz)
  k_with "KB" => refine ifB (by assumption) ?_
  k_with "KV" => refine stopV (by assumption) ?_
  k_with "exec While" => refine wpAny_While ?_
  k_with "exec While Compare" => refine wpAny_While ?_
  k_with "exec While BoolOp" => refine wpAny_While ?_
  k_with "eval ListComp" => (k_here; (with_reducible show wpAny _ _ (eval (PySem.Expr.ListComp _ [PySem.Comprehension.mk _ _ [] 0] _ _) _) _ _ _); k_dflt (refine LCg.ListComp_U (F₀ := by k_asm) (by with_unfolding_all rfl) (by decide) (by rfl) (by decide) (by rfl) ?_))
  k_with "eval ListComp" => (k_here; (with_reducible show wpAny _ _ (eval (PySem.Expr.ListComp _ [PySem.Comprehension.mk _ _ [_] 0] _ _) _) _ _ _); k_dflt (refine LCt.ListComp_T (F₀ := by k_asm) (by with_unfolding_all rfl) (by decide) (by rfl) (by decide) (by rfl) ?_))
  k_with "exec Assign cons ListComp" => (k_here; (with_reducible show wpAny _ _ (exec (PySem.Stmt.Assign [_] (PySem.Expr.ListComp _ [PySem.Comprehension.mk _ _ [] 0] _ _) _) _) _ _ _); k_dflt (refine LCg.Assign_ListComp_U (F₀ := by k_asm) (by rfl) (by with_unfolding_all rfl) (by with_unfolding_all rfl) (by decide) (by rfl) (by decide) (by rfl) (by rfl) (by rfl) ?_))
  k_with "exec Assign cons ListComp" => (k_here; (with_reducible show wpAny _ _ (exec (PySem.Stmt.Assign [_] (PySem.Expr.ListComp _ [PySem.Comprehension.mk _ _ [_] 0] _ _) _) _) _ _ _); k_dflt (refine LCt.Assign_ListComp_T (F₀ := by k_asm) (by rfl) (by with_unfolding_all rfl) (by with_unfolding_all rfl) (by decide) (by rfl) (by decide) (by rfl) (by rfl) (by rfl) ?_))
  k_with "CompSrc" => (k_here; refine Hold.mk ?_)
  k_with "CompSrcT" => (k_here; refine Hold.mk ?_)
  k_with "CompEnd" => (k_here; refine Hold.mk ?_)
  k_with "FinA" => (k_here; refine Hold.mk ?_)
  k_with "FinE" => (k_here; refine Hold.mk ?_)
  k_with "loadName" => (k_here; k_dflt (refine' ldnX ?k1 ?k2 ?_; (case k1 => k_asm); (case k2 => exact rfl); k_whole))
  k_with "newTuple" => (k_here; k_dflt (refine' tupR ?_); intro Dpzz hpzz kpzz Fpzz Npzz l1zz; (try k_lt l1zz); (try k_sweep))
  k_with "mem" => first | exact List.Mem.head _ | with_reducible assumption | (refine' List.mem_cons_of_mem _ ?_; k_extra "mem") | (refine' Sub.mem ?s ?m; (case s => with_reducible assumption); (case m => k_extra "mem")) | fail "mem"
  k_with "member" => k_extra "mem"
  k_with "call builtin:str.join" => (k_here; refine Hold.mk ?_)
  k_with "compareOp NotEq ref ref" => (k_here; refine Hold.mk ?_)
  k_with "call builtin:len" => (k_here; refine' len_lstM (h := ?_))
  k_with "wsin" => first | with_reducible assumption | exact WsIn.mono (by with_reducible assumption) (by k_extra "sub")
  k_with "call ref" => (k_here; refine' Spec.go (C := ws_spec (by assumption)) (ret := ?_); rintro r9zz n9zz h9zz tk9zz F9zz N9zz ⟨x9zz, e9zz, w9zz, s9zz⟩; subst e9zz; (have hobt := w9zz; rcases hobt with ⟨a1, a2, a3, a4, a5⟩))
  k_with "call ref" => (k_here; refine' Spec.go (C := nlw_spec (by k_extra "wsin") (by k_extra "wsin") (by assumption) (by assumption)) (ret := ?_); rintro r9zz n9zz h9zz tk9zz F9zz N9zz ⟨l9zz, v9zz, k9zz, e9zz, m9zz, (d9zz : DA _ _ _), s9zz⟩; subst e9zz)
  k_with "call ref" => (k_here; refine' Spec.go (C := wit_spec (by assumption) (by assumption) (by assumption) (by assumption) (by with_reducible assumption) (by assumption)) (ret := ?_); rintro r9zz n9zz h9zz tk9zz F9zz N9zz ⟨l9zz, v9zz, k9zz, e9zz, m9zz, (d9zz : DA _ _ _), s9zz⟩; subst e9zz)
  exact True.intro
theorem lst_strs {prog : Program} {w : World} {A : Around} {E : Value → Shared → Prop} {s : Shared} {h₀ : Heap} {L c : Addr} {news : List (Addr × Obj)} {vs : List Value} {kc : Nat} {Q : Value → Shared → Prop} {value slice : Expr} {k : Int} {u : Tok} {ts : List Str} {j : Nat} (N : News h₀ L s.heap news := by k_asm) (hm : (c, listOf vs.toArray kc) ∈ news := by k_mem) (hi : StrsAre vs ts := by with_reducible assumption) (hk : k = (j : Int) := by with_reducible assumption) (hj : j < ts.length := by assumption) (hz : ts.length < 2 ^ 62 := by lia) (h : ∀ t, Q (.str (ts.getD j "") t) s)
    (hs : subscripted slice false (.ref c) (.int k u) = operate [.ref c, .int k u] (getItem (.ref c) (.int k u)) := by with_unfolding_all rfl) (hg : ∀ r, letTemporaryGo value (.ref c) r = pure () := by intro _; with_unfolding_all rfl) :
    wpAny (model prog w) A (subscriptTail value slice (.ref c) (.int k u)) Q E s := by
  have hobt := hi.get j (ts[j]) (by simp [hj])
  obtain ⟨t, ht⟩ := hobt
  have hl := hi.length
  refine kim_list N hm rfl rfl (by lia) (by lia) (x := .str ts[j] t) ?_ ?_ hs hg
  · subst hk; simpa using ht
  · have := h t
    rwa [show ts.getD j "" = ts[j] from by simp [List.getD, hj]] at this
theorem kw_Fnag_1 : True := by
  k_with "subscriptTail" => (k_here; refine' lst_strs (h := ?_); intro _)
  exact True.intro
theorem rows_ok (rows : List (Int × Int × Int)) : ∀ d ∈ rows.map rowD, kqdOk 8 d = true := by
  intro d hd
  have hobt := List.mem_map.mp hd
  obtain ⟨r, _, rfl⟩ := hobt
  rfl
theorem kw_Fnag_2 : True := by
  k_with "call type:str" => (k_here; refine str_of_int_fit (N := 2 ^ 40) (by split <;> lia) (by decide) ?_; intro _)
  k_with "call ref" => (k_here; (with_reducible show wpAny _ _ (call (Value.ref 94) _) _ _ _); refine Hold.mk ?_)
  exact True.intro
theorem fmt_many {R : List (Int × Int × Int)} (h : 1 < (R.length : Int)) : (fmtF R != Str.ofString "at tab sizes " ++ joinF R) = false := by
  unfold fmtF
  rw [if_pos h, show Str.ofString "at tab sizes" ++ Str.ofString " " = Str.ofString "at tab sizes " from by decide +kernel]
  simp
theorem fmt_few {R : List (Int × Int × Int)} (h : ¬ 1 < (R.length : Int)) : (fmtF R != Str.ofString "at tab size " ++ joinF R) = false := by
  unfold fmtF
  rw [if_neg h, show Str.ofString "at tab size" ++ Str.ofString " " = Str.ofString "at tab size " from by decide +kernel]
  simp
structure NagOk (up lo : Str) (n : Nat) : Prop where
  u : up.cps.size < 2 ^ 13
  l : lo.cps.size < 2 ^ 13
  n0 : 1 ≤ n
  n1 : n < 2 ^ 12
  h1 : ∀ m : Nat, 1 ≤ m → m < n → hasRun (up ++ lo) m = true
  h2 : hasRun (up ++ lo) n = false
  e : nlw (wsOf up) (wsOf lo) = witF up.cps.toList lo.cps.toList n
  f : FmtOk (nlw (wsOf up) (wsOf lo))
def TabP (rest : List (Addr × Obj)) (v : Value) (r : Value) (news' : List (Addr × Obj)) : Prop := ∃ ps', r = v ∧ TriplesOk ps'.toList ∧ news' = (89, tabObj ps') :: rest
def wordsF (R : List (Int × Int × Int)) : Str := if 1 < (R.length : Int) then Str.ofString "at tab sizes " else Str.ofString "at tab size "
theorem fmt_words (R : List (Int × Int × Int)) : (fmtF R != wordsF R ++ joinF R) = false := by
  unfold wordsF
  split
  · exact fmt_many (by assumption)
  · exact fmt_few (by assumption)
theorem words_len (R : List (Int × Int × Int)) : (wordsF R).length ≤ 13 := by
  unfold wordsF
  split
  · exact (by decide +kernel : (Str.ofString "at tab sizes ").length ≤ 13)
  · exact (by decide +kernel : (Str.ofString "at tab size ").length ≤ 13)
theorem kw_Fnag_3 : True := by
  k_with "exec Assign cons IfExp" => (k_here; refine Hold.mk ?_)
  exact True.intro
set_option maxHeartbeats 8000000 in
theorem nag_spec {prog : Program} {w : World} {pg : Addr} {vs : List Value} {k0 : Nat} {lines : List Str} {ps : Array Value} {rest : List (Addr × Obj)} (hl : (pg, listOf vs.toArray k0) ∈ rest) (hS : StrsAre vs lines) (h10 : lines.length = 10) (ht : TriplesOk ps.toList) (hP : ∀ p ∈ rest, p.1 ≠ 89)
    (ns : Nat → Nat) (ok : ∀ i < 3, NagOk (lines.getD (3 + i * 3 - 2) "") (lines.getD (3 + i * 3) "") (ns i)) :
    SpecG prog w 6 195 [.ref pg] ((89, tabObj ps) :: rest) (TabP rest (.bool true)) := by
  refine' SpecG.of [(Str.ofString "page", .ref pg)] ?_ ?_ ?_ ?_ ?_ ?_ ?_ ?_ ?_
  k_extra "sol"
  intro p loose mean mg mb dp un gd outer A₀ base g L' s A1 m0 E1 B F X N T C0 AB hdp hun
  have hlen : vs.length = 10 := by rw [hS.length, h10]
  k_steps
  rename Fr _ _ _ _ => F1
  rename News _ _ _ _ => N1
  rename IsRange _ _ _ _ _ _ _ _ => R1
  refine forRG (k := 3) (D := [(89, tabObj ps)]) (news := rest) (G := OsB s) R1 (by decide) (by decide) F1 N1 (OsB.free _) (OsB.refl AB)
    (fun j m' D' => ∃ ps', TriplesOk ps'.toList ∧ D' = [(89, tabObj ps')] ∧ Vars m' (fun _ => none) ["page", "k", "told", "sizes", "words"] [("page", .ref pg)]) ?_ ?_ ?_
  · refine' ⟨ps, ht, rfl, ⟨?_, ?_⟩⟩
    · k_extra "vat"
    · k_extra "vrest"
  · intro J0 i tk m₁ D₁ rest2 s₁ I Q0 a0 hi hq1 hs hr hI hoI hoff hq2 F2 N2
    obtain ⟨ps', ht', rfl, V⟩ := hq1
    obtain ⟨eo, ab⟩ := hq2
    refine V.frxL F2 ?_
    intro mv mw F3
    have N3 : News g L' s₁.heap ((89, tabObj ps') :: rest2) := N2
    clear F2 F1 N2 N1 R1
    have hobt := ok i hi
    obtain ⟨ou, ol, on0, on1, oh1, oh2, oe, of⟩ := hobt
    have hl2 := hs _ hl
    have hj1 : 3 + i * 3 - 2 < lines.length := by lia
    have hj2 : 3 + i * 3 < lines.length := by lia
    have hk1 : 3 + (i : Int) * 3 - 2 = ((3 + i * 3 - 2 : Nat) : Int) := by lia
    have hk2 : 3 + (i : Int) * 3 = ((3 + i * 3 : Nat) : Int) := by lia
    have ok1 := wsOk_of ou
    have ok2 := wsOk_of ol
    k_steps
    rename (DA _ _ ((nlw _ _).map _)) => dA
    rename (DA _ _ ((witF _ _ _).map _)) => dB
    refine Hold.un ?_
    refine' ne_same ?N ?ma ?ca ?da dA ?sa ?mb ?cb ?db dB ?sb (rows_ok _) ?hu (congrArg (List.map rowD) oe) ?_
    case N => k_asm
    case ma => k_mem
    case mb => k_mem
    case ca => exact rfl
    case da => exact rfl
    case cb => exact rfl
    case db => exact rfl
    case sa => k_extra "sub"
    case sb => k_extra "sub"
    case hu => show un + 64 < cLine; lia
    have hobt : ∃ R, (nlw (wsOf (lines.getD (3 + i * 3 - 2) (Str.ofString ""))) (wsOf (lines.getD (3 + i * 3) (Str.ofString "")))) = R := ⟨_, rfl⟩
    obtain ⟨R, hR⟩ := hobt
    rw [hR] at dA of
    have hlt := dA.length
    rw [List.length_map] at hlt
    clear dB
    k_steps
    rename Fr _ _ _ _ => F4
    rename News _ _ _ _ => N4
    refine Hold.un ?_
    refine' LCg.CompSrc.ledger ?hh F4 N4 ?hm ?hsz ?_
    case hm => k_mem
    case hh => rfl
    case hsz => have := of.n; rw [sizeLine_eq]; simp; lia
    intro g'
    refine comp_turns _ (fun j ys nw => nw = NewsOf N4 ∧ StrsAre ys ((R.take j).map rowT)) ?_ ?_ _ 0 [] _ (Nat.add_zero _) ⟨rfl, .nil⟩
    · rintro ys nw ⟨rfl, hys⟩
      intro D h tk F6 N6 od
      rw [List.take_of_length_le (by simp; lia)] at hys
      have hyl : ys.length = R.length := by simpa using hys.length
      have hRn := of.n
      have m2 : (89, tabObj ps') ∈ (D, LCg.lst ys) :: NewsOf N4 := by k_extra "mem"
      have s2 : ∀ p, p ∈ rest2 → p ∈ (D, LCg.lst ys) :: NewsOf N4 := fun p hp => by
        have hp2 : p ∈ (89, tabObj ps') :: rest2 := .tail _ hp
        k_extra "mem"
      have hD89 : D ≠ 89 := by
        rcases List.mem_cons.mp m2 with e | e
        · cases congrArg (fun p => p.2.cls) e
        · exact fun q => off1_mem od _ e q.symm
      have ne89 : ∀ p ∈ rest2, p.1 ≠ 89 := fun p hp => by
        rcases hr p hp with h | h
        · exact hP p h
        · rw [h]; exact fun e => hoff _ (.head _) e.symm
      k_steps
      rename Fr _ _ _ _ => F5
      rename News _ _ _ _ => N5
      refine Hold.un (cutF (nw := NewsOf N5) F5 (Str.ofString "words") (Value.str (wordsF R)) ?_ ?_)
      · refine wpAny_Assign_Name ?_ ?_
        rotate_left
        · with_unfolding_all rfl
        k_steps
        all_goals
          rename Fr _ _ _ _ => F6
          rename News _ _ _ _ => N6
        · have hw : wordsF R = Str.ofString "at tab sizes " := if_pos (by assumption)
          rw [hw]; exact CutQ.mk F6 N6
        · have hw : wordsF R = Str.ofString "at tab size " := if_neg (by assumption)
          rw [hw]; exact CutQ.mk F6 N6
      intro tok h' tk' mc F6 N6
      clear F5
      have hwl := words_len R
      k_steps
      rename Fr _ _ _ _ => F8
      rename News _ _ _ _ => N8
      refine Hold.un ?_
      refine' fmt_call N8 ?hl m2 dA ?hX ht' of B F8 X T C0 ab rfl (by k_extra "dp") (by k_extra "un") ?_
      case hl => k_extra "mem"
      case hX => k_extra "sub"
      intro t9 ps9 h9 g9 tk9 d9 ht9 ab9 F9 N9
      clear F8 N8
      have mD : (D, LCg.lst ys) ∈ off 89 ((D, LCg.lst ys) :: NewsOf N4) := off_mem (.head _) hD89
      k_steps
      refine Hold.un (join_list (items := ys.toArray) ⟨_, (N9 _ (.tail _ mD)).1, rfl, _, rfl⟩ (by simpa using hys) of.w ?_)
      intro t8 k8
      have hjl := of.l
      rw [show Txt.join (Str.ofString ", ") (R.map rowT) = joinF R from rfl]
      k_steps
      all_goals
        first
        | (exfalso; rename ((_ != _) = true) => hb; rw [fmt_words] at hb; cases hb)
        | skip
      all_goals
        rename Fr _ _ _ _ => F10
        have hd : ∀ p ∈ [((89, tabObj ps9) : Addr × Obj)], p.1 ≠ I := fun p hp => by rw [List.mem_singleton.mp hp]; exact hoff (89, tabObj ps') (.head _)
        refine' MTurn.next (D' := [(89, tabObj ps9)]) F10 N9 ?_ hd ⟨eo, ab9⟩ ⟨ps9, ht9, rfl, ⟨?_, ?_⟩⟩
        · intro p hp
          rcases List.mem_cons.mp hp with rfl | hp
          · exact .head _
          · have hp' : p ∈ rest2 := hp
            exact .tail _ (off_mem (s2 p hp') (ne89 p hp'))
        · k_extra "vat"
        · k_extra "vrest"
    · rintro j v ys nw I2 oI2 C2 oC2 D2 m₂ h2 tk2 E' hj hv ⟨rfl, hys⟩ hC hx F7 N7 o7 ne QC aC
      have hobt := row_at dA (by simpa using hv)
      obtain ⟨r, a, t1, t2, t3, k, hr, rfl, ha⟩ := hobt
      have hobt := of.b r (List.mem_of_getElem? hr)
      obtain ⟨hb1, hb2⟩ := hobt
      k_steps
      refine Hold.un ⟨_, _, _, rfl, by assumption, by assumption, o7, .inr ⟨_, by k_extra "mem", rfl, _, rfl⟩, rfl, ?_⟩
      show StrsAre (ys ++ [_]) _
      rw [List.take_add_one, hr, List.map_append]
      exact StrsAre.append' hys (.cons _ _ .nil)
  · intro m' D' s' hq1 hq2 F2 N2
    obtain ⟨ps', ht', rfl, V⟩ := hq1
    obtain ⟨eo, ab⟩ := hq2
    refine V.frL F2 ?_
    intro mv F3
    have N3 : News g L' s'.heap ((89, tabObj ps') :: rest) := N2
    clear F2 F1 N2 N1
    k_steps
    exact ⟨eo, ab, _, _, by assumption, N3, ps', rfl, ht', rfl⟩
end
section
theorem kw_Kit7_0 : True := by
  k_with_none
  k_with "vat" => repeat' (first | exact List.forall_mem_nil _ | refine' List.forall_mem_cons.mpr ⟨?_, ?_⟩ | with_unfolding_all rfl)
  k_with "vrest" => first | ((repeat' (first | exact Vars.rest (by assumption) | exact vr_nil | exact vr_base | refine vr_upd ?_ (by with_unfolding_all rfl) | refine vr_set ?_ (by with_unfolding_all rfl))); done) | (intro zzz hzzz; (simp only [List.contains_cons, List.contains_nil, Bool.or_false, Bool.or_eq_false_iff, beq_eq_false_iff_ne, ne_eq] at hzzz); (simp [hzzz, upd, setL, baseOf, List.lookup]))
  k_with "exec For Name Name cons nil" => (refine' wpAny_For ?h ?hs; (case hs => (intro _; with_unfolding_all rfl)))
  k_with "exec For Name Call cons nil" => (refine' wpAny_For ?h ?hs; (case hs => (intro _; with_unfolding_all rfl)))
  k_with "exec For Name Attribute cons nil" => (refine' wpAny_For ?h ?hs; (case hs => (intro _; with_unfolding_all rfl)))
  k_with "sol" => all_goals (try (first | k_is | exact rfl | decide))
  k_with "sz" => first | omega | (simp only [List.length_append, List.length_cons, List.length_nil, List.length_map, List.length_replicate, List.length_reverse, List.length_set]; omega)
  k_with "sub" => first | exact Sub.refl _ | with_reducible assumption | exact Sub.nil | (refine Sub.cons ?_; k_extra "sub") | (refine Sub.trans (by with_reducible assumption) ?_; k_extra "sub") | fail "sub"
  k_with "member" => assumption
  k_with "ite" => first | with_reducible refine ite_tt ?_ | with_reducible refine ite_ff ?_
  k_with "execs nil" => refine wpAny_execs_nil ?_
  k_with "dp" => first | exact dpLe | omega
  k_with "un" => first | exact unLe | omega
  k_with "storeName" => (k_here; k_dflt (first | (refine' storeI ?_; intro q1zz) | (refine' storeS ?_; intro q1zz) | (refine' storeF ?_; intro q1zz) | refine' storeR ?_); k_whole; intro hpzz kpzz mpzz Fpzz Npzz; (try k_sweep))
  k_with "execs cons" => first | refine lastK ?_ | (refine cutK ?_; intro Qzz azz) | (refine enterK ?_; intro Qzz azz)
  k_with "KQ" => first | refine nextK (by assumption) ?_ | refine retK (by assumption) ?_ | refine impK (by assumption) ?_ | refine contK (by assumption) ?_ | refine brkK (by assumption) ?_
  k_with "KS" => refine stopK (by assumption) ?_
  k_with "exec If" => (refine ifK ?_; intro Qzz azz)
  k_with "KB" => refine ifB (by assumption) ?_
  k_with "KV" => refine stopV (by assumption) ?_
  exact True.intro
/-- a tree of leaves and three-part gates, with the addresses of its nodes (a) and of their lists of parts (b) -/
inductive AT where
  | leaf (a b : Addr) (d : Nat)
  | gate (a b : Addr) (k : Nat) (x y z : AT)
def AT.addr : AT → Addr
  | .leaf a _ _ => a
  | .gate a _ _ _ _ _ => a
inductive Tr where
  | leaf (d : Nat)
  | gate (k : Nat) (x y z : Tr)
def AT.tr : AT → Tr
  | .leaf _ _ d => .leaf d
  | .gate _ _ k x y z => .gate k x.tr y.tr z.tr
def AT.In (fl fg : Nat → Tok → Value) (news : List (Addr × Obj)) : AT → Prop
  | .leaf a b d => ∃ t k k', (a, listOf [fl d t, .ref b].toArray k) ∈ news ∧ (b, listOf ([] : List Value).toArray k') ∈ news
  | .gate a b d x y z => ∃ t k k', (a, listOf [fg d t, .ref b].toArray k) ∈ news ∧ (b, listOf [.ref x.addr, .ref y.addr, .ref z.addr].toArray k') ∈ news ∧ x.In fl fg news ∧ y.In fl fg news ∧ z.In fl fg news
theorem AT.In.toL {fl fg : Nat → Tok → Value} {n n' : List (Addr × Obj)} (s : ∀ a its k, (a, listOf its k) ∈ n → (a, listOf its k) ∈ n') {t : AT} (h : t.In fl fg n) : t.In fl fg n' := by
  induction t with
  | leaf a b d => obtain ⟨t, k, k', h1, h2⟩ := h; exact ⟨t, k, k', s _ _ _ h1, s _ _ _ h2⟩
  | gate a b d x y z ix iy iz => obtain ⟨t, k, k', h1, h2, hx, hy, hz⟩ := h; exact ⟨t, k, k', s _ _ _ h1, s _ _ _ h2, ix hx, iy hy, iz hz⟩
theorem AT.In.mono {fl fg : Nat → Tok → Value} {n n' : List (Addr × Obj)} (s : Sub n n') {t : AT} (h : t.In fl fg n) : t.In fl fg n' := h.toL fun _ _ _ h => s _ h
theorem AT.In.toN {fl fg : Nat → Tok → Value} {n n' : List (Addr × Obj)} (s : ∀ p ∈ n, p.2.cls ≠ .none → p ∈ n') {t : AT} (h : t.In fl fg n) : t.In fl fg n' := h.toL fun _ _ _ h => s _ h (by nofun)
def Tr.ok : Tr → Prop
  | .leaf d => d < 9
  | .gate k x y z => k < 3 ∧ x.ok ∧ y.ok ∧ z.ok
def Tr.dep : Tr → Nat
  | .leaf _ => 0
  | .gate _ x y z => max x.dep (max y.dep z.dep) + 1
def digitS (d : Nat) : Str := if d < 9 then Str.ofString (toString (d : Int)) else Str.ofString ""
def kindS (k : Nat) : Str := if k = 0 then Str.ofString "|" else if k = 1 then Str.ofString "&" else Str.ofString "^"
def lS (d : Nat) (t : Tok) : Value := .str (digitS d) t
def gS (k : Nat) (t : Tok) : Value := .str (kindS k) t
def kindI (k : Nat) : Int := if k = 0 then 18 else if k = 1 then 19 else 32
abbrev lI (d : Nat) (t : Tok) : Value := .int (256 + d) t
abbrev gI (k : Nat) (t : Tok) : Value := .int (kindI k) t
def med3 (k : Nat) (a b c : Int) : Int := if k = 0 then max a (max b c) else if k = 1 then min a (min b c) else max (min a b) (min (max a b) c)
def Tr.due : Tr → Int
  | .leaf d => d
  | .gate k x y z => med3 k x.due y.due z.due
theorem d3 {a b c n : Nat} (h : max a (max b c) + 1 ≤ n + 1) : a ≤ n ∧ b ≤ n ∧ c ≤ n :=
  have h := Nat.le_of_succ_le_succ h
  ⟨Nat.le_trans (Nat.le_max_left _ _) h, Nat.le_trans (Nat.le_trans (Nat.le_max_left _ _) (Nat.le_max_right a _)) h, Nat.le_trans (Nat.le_trans (Nat.le_max_right _ _) (Nat.le_max_right a _)) h⟩
theorem m3 (a b c : Nat) : a ≤ max a (max b c) ∧ b ≤ max a (max b c) ∧ c ≤ max a (max b c) := d3 (Nat.le_refl _)
theorem maxO (a b : Int) : max a b = a ∨ max a b = b := (Int.le_total a b).elim (fun h => .inr (Int.max_eq_right h)) fun h => .inl (Int.max_eq_left h)
theorem minO (a b : Int) : min a b = a ∨ min a b = b := (Int.le_total a b).elim (fun h => .inl (Int.min_eq_left h)) fun h => .inr (Int.min_eq_right h)
theorem le_maxI {l a b : Int} : l ≤ max a b ↔ l ≤ a ∨ l ≤ b := ⟨fun h => (maxO a b).elim (fun e => .inl (e ▸ h)) fun e => .inr (e ▸ h), fun h => h.elim (fun h => Int.le_trans h (Int.le_max_left a b)) fun h => Int.le_trans h (Int.le_max_right a b)⟩
theorem med3_or {k : Nat} {a b c : Int} {P : Int → Prop} (ha : P a) (hb : P b) (hc : P c) : P (med3 k a b c) := by
  unfold med3
  have M : ∀ {a b : Int}, P a → P b → P (max a b) := fun {a b} h1 h2 => by rcases maxO a b with e | e <;> rw [e] <;> assumption
  have m : ∀ {a b : Int}, P a → P b → P (min a b) := fun {a b} h1 h2 => by rcases minO a b with e | e <;> rw [e] <;> assumption
  split
  · exact M ha (M hb hc)
  · split
    · exact m ha (m hb hc)
    · exact M (m ha hb) (m (M ha hb) hc)
theorem Tr.due_rng : ∀ {t : Tr}, t.ok → 0 ≤ t.due ∧ t.due ≤ 8
  | .leaf d, h => ⟨Int.natCast_nonneg d, Int.ofNat_le.2 (Nat.le_of_lt_succ h)⟩
  | .gate k x y z, h => med3_or (P := fun v => 0 ≤ v ∧ v ≤ 8) (Tr.due_rng h.2.1) (Tr.due_rng h.2.2.1) (Tr.due_rng h.2.2.2)
theorem kid3 {x y z : AT} {i : Nat} {v : Value} (h : ([Value.ref x.addr, Value.ref y.addr, Value.ref z.addr].toArray)[i]? = some v) : ∃ c, [x, y, z][i]? = some c ∧ v = .ref c.addr := by
  match i, h with
  | 0, h => exact ⟨x, rfl, by simpa using h.symm⟩
  | 1, h => exact ⟨y, rfl, by simpa using h.symm⟩
  | 2, h => exact ⟨z, rfl, by simpa using h.symm⟩
  | n + 3, h => simp at h
theorem lst_at {prog : Program} {w : World} {A : Around} {E : Value → Shared → Prop} {s : Shared} {h₀ : Heap} {L c : Addr} {news : List (Addr × Obj)} {vs : List Value} {kc : Nat} {Q : Value → Shared → Prop} {value slice : Expr} {k : Int} {u : Tok} {x : Value} (N : News h₀ L s.heap news := by k_asm) (hm : (c, listOf vs.toArray kc) ∈ news := by k_extra "mem") (hk : 0 ≤ k := by decide) (hx : vs[k.toNat]? = some x := by exact rfl) (hz : vs.length < 2 ^ 62 := by k_extra "sz") (h : Q x s)
    (hs : subscripted slice false (.ref c) (.int k u) = operate [.ref c, .int k u] (getItem (.ref c) (.int k u)) := by with_unfolding_all rfl) (hg : ∀ r, letTemporaryGo value (.ref c) r = pure () := by intro _; with_unfolding_all rfl) :
    wpAny (model prog w) A (subscriptTail value slice (.ref c) (.int k u)) Q E s := by
  have hj : k.toNat < vs.length := by rcases List.getElem?_eq_some_iff.mp hx with ⟨h, _⟩; exact h
  exact kim_list N hm rfl rfl (by omega) (by omega) (x := x) (by simpa using hx) h hs hg
theorem int_digit {prog : Program} {w : World} {A : Around} {E : Value → Shared → Prop} {s : Shared} {Q : Value → Shared → Prop} {t : Tok} {d : Nat} (hd : d < 9) (h : Q (.int d s.toks) { s with toks := s.toks + 1 }) : wpAny (model prog w) A (call (.type "int") [lS d t]) Q E s := by
  unfold lS digitS
  rw [if_pos hd]
  exact KIN.call_num (by omega) (by omega) h
theorem kind3 {k : Nat} (h : k < 3) : k = 0 ∨ k = 1 ∨ k = 2 := by omega
def Tr.dat (fd gd : Nat → Dat) : Tr → Dat
  | .leaf d => .list [fd d, .list []]
  | .gate k x y z => .list [gd k, .list [x.dat fd gd, y.dat fd gd, z.dat fd gd]]
theorem AT.In.dat {fl fg : Nat → Tok → Value} {fd gd : Nat → Dat} (hf : ∀ d t nw, DatIn nw (fl d t) (fd d)) (hg : ∀ d t nw, DatIn nw (fg d t) (gd d)) {news : List (Addr × Obj)} {t : AT} (h : t.In fl fg news) : DatIn news (.ref t.addr) (t.tr.dat fd gd) := by
  induction t with
  | leaf a b d => obtain ⟨t, k, k', h1, h2⟩ := h; exact .list h1 (.cons (hf _ _ _) (.cons (.list h2 .nil) .nil))
  | gate a b d x y z ix iy iz => obtain ⟨t, k, k', h1, h2, hx, hy, hz⟩ := h; exact .list h1 (.cons (hg _ _ _) (.cons (.list h2 (.cons (ix hx) (.cons (iy hy) (.cons (iz hz) .nil)))) .nil))
theorem Tr.dat_ok {fd gd : Nat → Dat} (hf : ∀ d n, kqdOk (n + 1) (fd d) = true) (hg : ∀ d n, kqdOk (n + 1) (gd d) = true) : ∀ (t : Tr) (n : Nat), 2 * t.dep + 2 ≤ n → kqdOk n (t.dat fd gd) = true
  | .leaf d, n, h => by
    obtain ⟨m, rfl⟩ : ∃ m, n = m + 2 := ⟨n - 2, (Nat.sub_add_cancel (Nat.le_trans (Nat.le_add_left 2 _) h)).symm⟩
    simp [Tr.dat, kqdOk, hf d m]
  | .gate k x y z, n, h => by
    have h' : 2 * (max x.dep (max y.dep z.dep) + 1) + 2 ≤ n := h
    obtain ⟨m, rfl⟩ : ∃ m, n = m + 2 := ⟨n - 2, (Nat.sub_add_cancel (Nat.le_trans (Nat.le_add_left 2 _) h)).symm⟩
    have M : ∀ {c : Nat}, c ≤ max x.dep (max y.dep z.dep) → 2 * c + 2 ≤ m := fun {c} hc => Nat.le_trans (Nat.mul_le_mul_left 2 (Nat.succ_le_succ hc)) (Nat.le_of_add_le_add_right h')
    have m := m3 x.dep y.dep z.dep
    simp [Tr.dat, kqdOk, hg k _, Tr.dat_ok hf hg x _ (M m.1), Tr.dat_ok hf hg y _ (M m.2.1), Tr.dat_ok hf hg z _ (M m.2.2)]
def dS (d : Nat) : Dat := .str (digitS d)
def eS (k : Nat) : Dat := .str (kindS k)
def dI (d : Nat) : Dat := .int (256 + d)
def eI (k : Nat) : Dat := .int (kindI k)
theorem dS_ok (d n : Nat) : kqdOk (n + 1) (dS d) = true := by
  show PyData.strOk (digitS d) = true
  rcases Nat.lt_or_ge d 9 with h | h
  · have : ∀ d < 9, PyData.strOk (digitS d) = true := by decide +kernel
    exact this d h
  · unfold digitS; rw [if_neg (by omega)]; decide +kernel
theorem eS_ok (d n : Nat) : kqdOk (n + 1) (eS d) = true := by
  show PyData.strOk (kindS d) = true
  unfold kindS
  split
  · decide +kernel
  · split <;> decide +kernel
theorem datS {news : List (Addr × Obj)} {t : AT} (h : t.In lS gS news) : DatIn news (.ref t.addr) (t.tr.dat dS eS) := h.dat (fd := dS) (gd := eS) (fun d t _ => DatIn.str (digitS d) t) (fun d t _ => DatIn.str (kindS d) t)
theorem datI {news : List (Addr × Obj)} {t : AT} (h : t.In lI gI news) : DatIn news (.ref t.addr) (t.tr.dat dI eI) := h.dat (fd := dI) (gd := eI) (fun d t _ => DatIn.int (256 + (d : Int)) t) (fun d t _ => DatIn.int (kindI d) t)
section
variable {prog : Program} {w : World} {dp un : Nat} {gd : Option (List Code)} {cn : Str} {cs : Scope} {L' a : Addr} {ccd : Value} {cl : List (Str × Addr)} {outer : List Env} {E : Value → Shared → Prop} {s : Shared} {h₀ : Heap} {L b l : Addr} {news : List (Addr × Obj)} {k k' : Nat} {x y z : AT} {Q : Value → Shared → Prop}
theorem eq_nn (N : News h₀ L s.heap news := by k_asm) (hb : (b, listOf ([] : List Value).toArray k) ∈ news := by k_extra "mem") (hl : (l, listOf ([] : List Value).toArray k') ∈ news := by k_extra "mem") (hu : un + 64 < cLine := by omega) (h : Q (.bool true) s) : wpAny (model prog w) (ktrTop dp un gd cn cs L' a ccd cl outer) (compareOp .Eq (.ref b) (.ref l)) Q E s :=
  ke_eq_ints (News.isList N hb) (News.isList N hl) .nil .nil hu h
theorem ne_nn (N : News h₀ L s.heap news := by k_asm) (hb : (b, listOf ([] : List Value).toArray k) ∈ news := by k_extra "mem") (hl : (l, listOf ([] : List Value).toArray k') ∈ news := by k_extra "mem") (hu : un + 64 < cLine := by omega) (h : Q (.bool false) s) : wpAny (model prog w) (ktrTop dp un gd cn cs L' a ccd cl outer) (compareOp .NotEq (.ref b) (.ref l)) Q E s :=
  ke_ne_ints (News.isList N hb) (News.isList N hl) .nil .nil hu h
theorem eq_gn (N : News h₀ L s.heap news := by k_asm) (hb : (b, listOf [Value.ref x.addr, .ref y.addr, .ref z.addr].toArray k) ∈ news := by k_extra "mem") (hx : x.In lS gS news := by k_extra "in") (hy : y.In lS gS news := by k_extra "in") (hz : z.In lS gS news := by k_extra "in") (dx : x.tr.dep ≤ 2 := by assumption) (dy : y.tr.dep ≤ 2 := by assumption) (dz : z.tr.dep ≤ 2 := by assumption)
    (hl : (l, listOf ([] : List Value).toArray k') ∈ news := by k_extra "mem") (hu : un + 64 < cLine := by omega) (h : Q (.bool false) s) : wpAny (model prog w) (ktrTop dp un gd cn cs L' a ccd cl outer) (compareOp .Eq (.ref b) (.ref l)) Q E s := by
  refine kqd_eq N hb rfl rfl (.cons (datS hx) (.cons (datS hy) (.cons (datS hz) .nil))) (fun _ h => h) hl rfl rfl .nil (fun _ h => h) ?_ (fun _ h => nomatch h) hu ?_
  · intro d hd
    simp only [List.mem_cons, List.not_mem_nil, or_false] at hd
    rcases hd with rfl | rfl | rfl <;> exact Tr.dat_ok dS_ok eS_ok _ _ (by omega)
  · rw [decide_eq_false (by simp)]; exact h
theorem ne_gn (N : News h₀ L s.heap news := by k_asm) (hb : (b, listOf [Value.ref x.addr, .ref y.addr, .ref z.addr].toArray k) ∈ news := by k_extra "mem") (hx : x.In lS gS news := by k_extra "in") (hy : y.In lS gS news := by k_extra "in") (hz : z.In lS gS news := by k_extra "in") (dx : x.tr.dep ≤ 2 := by assumption) (dy : y.tr.dep ≤ 2 := by assumption) (dz : z.tr.dep ≤ 2 := by assumption)
    (hl : (l, listOf ([] : List Value).toArray k') ∈ news := by k_extra "mem") (hu : un + 64 < cLine := by omega) (h : Q (.bool true) s) : wpAny (model prog w) (ktrTop dp un gd cn cs L' a ccd cl outer) (compareOp .NotEq (.ref b) (.ref l)) Q E s := by
  refine kqd_ne N hb rfl rfl (.cons (datS hx) (.cons (datS hy) (.cons (datS hz) .nil))) (fun _ h => h) hl rfl rfl .nil (fun _ h => h) ?_ (fun _ h => nomatch h) hu ?_
  · intro d hd
    simp only [List.mem_cons, List.not_mem_nil, or_false] at hd
    rcases hd with rfl | rfl | rfl <;> exact Tr.dat_ok dS_ok eS_ok _ _ (by omega)
  · rw [decide_eq_false (by simp)]; exact h
end
def wantF (k : Nat) : Int := if k = 0 then 2 else if k = 1 then 0 else 1
theorem srt3 {k : Nat} {a b c : Int} (hk : k < 3) : ∃ s : List Int, s.Perm [a, b, c] ∧ s.Pairwise (· ≤ ·) ∧ s.getD (wantF k).toNat 0 = med3 k a b c := by
  have go : ∀ {p q r : Int}, [p, q, r].Perm [a, b, c] → p ≤ q → q ≤ r → max a (max b c) = r → min a (min b c) = p → max (min a b) (min (max a b) c) = q → ∃ s : List Int, s.Perm [a, b, c] ∧ s.Pairwise (· ≤ ·) ∧ s.getD (wantF k).toNat 0 = med3 k a b c := fun {p q r} hp h1 h2 e1 e2 e3 => by
    refine ⟨[p, q, r], hp, ?_, ?_⟩
    · refine .cons (fun x hx => ?_) (.cons (fun x hx => ?_) (.cons (fun x hx => nomatch hx) .nil))
      · rcases List.mem_cons.mp hx with rfl | hx
        · exact h1
        · rw [List.mem_singleton.mp hx]; exact Int.le_trans h1 h2
      · rw [List.mem_singleton.mp hx]; exact h2
    · rcases kind3 hk with rfl | rfl | rfl
      · exact e1.symm
      · exact e2.symm
      · exact e3.symm
  rcases Int.le_total a b with ab | ab
  · rcases Int.le_total b c with bc | bc
    · exact go (.refl _) ab bc (by rw [Int.max_eq_right bc, Int.max_eq_right (Int.le_trans ab bc)]) (by rw [Int.min_eq_left bc, Int.min_eq_left ab]) (by rw [Int.min_eq_left ab, Int.max_eq_right ab, Int.min_eq_left bc, Int.max_eq_right ab])
    · rcases Int.le_total a c with ac | ac
      · exact go (.cons a (.swap b c [])) ac bc (by rw [Int.max_eq_left bc, Int.max_eq_right ab]) (by rw [Int.min_eq_right bc, Int.min_eq_left ac]) (by rw [Int.min_eq_left ab, Int.max_eq_right ab, Int.min_eq_right bc, Int.max_eq_right ac])
      · exact go ((List.Perm.swap a c [b]).trans (.cons a (.swap b c []))) ac ab (by rw [Int.max_eq_left bc, Int.max_eq_right ab]) (by rw [Int.min_eq_right bc, Int.min_eq_right ac]) (by rw [Int.min_eq_left ab, Int.max_eq_right ab, Int.min_eq_right bc, Int.max_eq_left ac])
  · rcases Int.le_total a c with ac | ac
    · exact go (.swap a b [c]) ab ac (by rw [Int.max_eq_right (Int.le_trans ab ac), Int.max_eq_right ac]) (by rw [Int.min_eq_left (Int.le_trans ab ac), Int.min_eq_right ab]) (by rw [Int.min_eq_right ab, Int.max_eq_left ab, Int.min_eq_left ac, Int.max_eq_right ab])
    · rcases Int.le_total b c with bc | bc
      · exact go ((List.Perm.cons b (.swap a c [])).trans (.swap a b [c])) bc ac (by rw [Int.max_eq_right bc, Int.max_eq_left ac]) (by rw [Int.min_eq_left bc, Int.min_eq_right ab]) (by rw [Int.min_eq_right ab, Int.max_eq_left ab, Int.min_eq_right ac, Int.max_eq_right bc])
      · exact go ((List.Perm.swap b c [a]).trans ((List.Perm.cons b (.swap a c [])).trans (.swap a b [c]))) bc ab (by rw [Int.max_eq_left bc, Int.max_eq_left ab]) (by rw [Int.min_eq_right bc, Int.min_eq_right ac]) (by rw [Int.min_eq_right ab, Int.max_eq_left ab, Int.min_eq_right ac, Int.max_eq_left bc])
theorem sort_med {k : Nat} {ns : List Int} {a b c : Int} (hk : k < 3) (hl : ns.length = 3) (hp : ns.Perm [a, b, c]) (ho : ns.Pairwise (· ≤ ·)) : ns.getD (wantF k).toNat 0 = med3 k a b c := by
  obtain ⟨s, h1, h2, h3⟩ := srt3 (a := a) (b := b) (c := c) hk
  rw [List.Perm.eq_of_pairwise (fun _ _ _ _ h k => Int.le_antisymm h k) ho h2 (hp.trans h1.symm)]
  exact h3
theorem want_rng (k : Nat) : 0 ≤ wantF k ∧ wantF k < 3 := by unfold wantF; split; omega; split <;> omega
end
section
theorem kw_Fdue_0 : True := by
  k_with_none
  k_with "vat" => repeat' (first | exact List.forall_mem_nil _ | refine' List.forall_mem_cons.mpr ⟨?_, ?_⟩ | with_unfolding_all rfl)
  k_with "vrest" => first | ((repeat' (first | exact Vars.rest (by assumption) | exact vr_nil | exact vr_base | refine vr_upd ?_ (by with_unfolding_all rfl) | refine vr_set ?_ (by with_unfolding_all rfl))); done) | (intro zzz hzzz; (simp only [List.contains_cons, List.contains_nil, Bool.or_false, Bool.or_eq_false_iff, beq_eq_false_iff_ne, ne_eq] at hzzz); (simp [hzzz, upd, setL, baseOf, List.lookup]))
  k_with "exec For Name Name cons nil" => (refine' wpAny_For ?h ?hs; (case hs => (intro _; with_unfolding_all rfl)))
  k_with "exec For Name Call cons nil" => (refine' wpAny_For ?h ?hs; (case hs => (intro _; with_unfolding_all rfl)))
  k_with "exec For Name Attribute cons nil" => (refine' wpAny_For ?h ?hs; (case hs => (intro _; with_unfolding_all rfl)))
  k_with "sol" => all_goals (try (first | k_is | exact rfl | decide))
  k_with "sz" => first | omega | (simp only [List.length_append, List.length_cons, List.length_nil, List.length_map, List.length_replicate, List.length_reverse, List.length_set]; omega)
  k_with "sub" => first | exact Sub.refl _ | with_reducible assumption | exact Sub.nil | (refine Sub.cons ?_; k_extra "sub") | (refine Sub.trans (by with_reducible assumption) ?_; k_extra "sub") | fail "sub"
  k_with "member" => assumption
  k_with "ite" => first | with_reducible refine ite_tt ?_ | with_reducible refine ite_ff ?_
  k_with "execs nil" => refine wpAny_execs_nil ?_
  k_with "dp" => first | exact dpLe | omega
  k_with "un" => first | exact unLe | omega
  k_with "storeName" => (k_here; k_dflt (first | (refine' storeI ?_; intro q1zz) | (refine' storeS ?_; intro q1zz) | (refine' storeF ?_; intro q1zz) | refine' storeR ?_); k_whole; intro hpzz kpzz mpzz Fpzz Npzz; (try k_sweep))
  k_with "execs cons" => first | refine lastK ?_ | (refine cutK ?_; intro Qzz azz) | (refine enterK ?_; intro Qzz azz)
  k_with "KQ" => first | refine nextK (by assumption) ?_ | refine retK (by assumption) ?_ | refine impK (by assumption) ?_ | refine contK (by assumption) ?_ | refine brkK (by assumption) ?_
  k_with "KS" => refine stopK (by assumption) ?_
  k_with "exec If" => (refine ifK ?_; intro Qzz azz)
  k_with "KB" => refine ifB (by assumption) ?_
  k_with "KV" => refine stopV (by assumption) ?_
  k_with "exec While" => refine wpAny_While ?_
  k_with "exec While Compare" => refine wpAny_While ?_
  k_with "exec While BoolOp" => refine wpAny_While ?_
  k_with "eval ListComp" => (k_here; (with_reducible show wpAny _ _ (eval (PySem.Expr.ListComp _ [PySem.Comprehension.mk _ _ [] 0] _ _) _) _ _ _); k_dflt (refine LCg.ListComp_U (F₀ := by k_asm) (by with_unfolding_all rfl) (by decide) (by rfl) (by decide) (by rfl) ?_))
  k_with "eval ListComp" => (k_here; (with_reducible show wpAny _ _ (eval (PySem.Expr.ListComp _ [PySem.Comprehension.mk _ _ [_] 0] _ _) _) _ _ _); k_dflt (refine LCt.ListComp_T (F₀ := by k_asm) (by with_unfolding_all rfl) (by decide) (by rfl) (by decide) (by rfl) ?_))
  k_with "exec Assign cons ListComp" => (k_here; (with_reducible show wpAny _ _ (exec (PySem.Stmt.Assign [_] (PySem.Expr.ListComp _ [PySem.Comprehension.mk _ _ [] 0] _ _) _) _) _ _ _); k_dflt (refine LCg.Assign_ListComp_U (F₀ := by k_asm) (by rfl) (by with_unfolding_all rfl) (by with_unfolding_all rfl) (by decide) (by rfl) (by decide) (by rfl) (by rfl) (by rfl) ?_))
  k_with "exec Assign cons ListComp" => (k_here; (with_reducible show wpAny _ _ (exec (PySem.Stmt.Assign [_] (PySem.Expr.ListComp _ [PySem.Comprehension.mk _ _ [_] 0] _ _) _) _) _ _ _); k_dflt (refine LCt.Assign_ListComp_T (F₀ := by k_asm) (by rfl) (by with_unfolding_all rfl) (by with_unfolding_all rfl) (by decide) (by rfl) (by decide) (by rfl) (by rfl) (by rfl) ?_))
  k_with "CompSrc" => (k_here; refine Hold.mk ?_)
  k_with "CompSrcT" => (k_here; refine Hold.mk ?_)
  k_with "CompEnd" => (k_here; refine Hold.mk ?_)
  k_with "FinA" => (k_here; refine Hold.mk ?_)
  k_with "FinE" => (k_here; refine Hold.mk ?_)
  k_with "loadName" => (k_here; k_dflt (refine' ldnX ?k1 ?k2 ?_; (case k1 => k_asm); (case k2 => exact rfl); k_whole))
  k_with "newTuple" => (k_here; k_dflt (refine' tupR ?_); intro Dpzz hpzz kpzz Fpzz Npzz l1zz; (try k_lt l1zz); (try k_sweep))
  k_with "mem" => first | exact List.Mem.head _ | with_reducible assumption | (refine' List.mem_cons_of_mem _ ?_; k_extra "mem") | (refine' Sub.mem ?s ?m; (case s => with_reducible assumption); (case m => k_extra "mem")) | fail "mem"
  k_with "member" => k_extra "mem"
  k_with "subscriptTail" => (k_here; (with_reducible show wpAny _ _ (subscriptTail _ _ (Value.ref _) (gS _ _)) _ _ _); refine Hold.mk ?_)
  k_with "subscriptTail" => (k_here; (with_reducible show wpAny _ _ (subscriptTail _ _ (Value.ref _) (Value.int _ _)) _ _ _); refine' lst_at (h := ?_))
  k_with "call type:int" => (k_here; (with_reducible refine int_digit (by with_reducible assumption) ?_))
  k_with "in" => first | with_reducible assumption | (refine' AT.In.mono ?s ?h; (case h => with_reducible assumption); (case s => first | with_reducible assumption | exact fun p hp => List.mem_cons_of_mem _ hp))
  k_with "compareOp Eq ref ref" => (k_here; first | refine' eq_nn (h := ?_) | refine' eq_gn (h := ?_))
  k_with "compareOp NotEq ref ref" => (k_here; first | refine' ne_nn (h := ?_) | refine' ne_gn (h := ?_))
  k_with "call ref" => (k_here; refine' Spec.go (Post := IntP _ _) (C := by first | with_reducible assumption | assumption) (ret := ?_); rintro r9zz n9zz h9zz tk9zz F9zz N9zz ⟨⟨t9zz, e9zz⟩, d9zz⟩; subst e9zz; subst d9zz)
  k_with "Exists" => (k_here; refine kda_made_str (by k_asm) (by k_asm) (Top.nolimit (by k_asm)) (by rfl) (of_decide_eq_true (by rfl)) (by rfl) ?_; intro hpzz opzz Fpzz Npzz l1zz lopzz hdpzz; (try k_lt l1zz))
  k_with "eval Dict" => (k_here; (with_reducible refine Dict_made_str (by with_unfolding_all rfl) (by k_asm) (by with_unfolding_all rfl) (by with_unfolding_all rfl) (List.cons_ne_nil _ _) (by with_unfolding_all decide) ?_; intro _))
  k_with "exec Assign cons Dict" => (with_reducible refine wpAny_Assign_Name ?_ ?_; rotate_left; with_unfolding_all rfl)
  k_with "call builtin:sorted" => (k_here; refine Hold.mk ?_)
  exact True.intro
set_option maxHeartbeats 8000000 in
theorem due_leaf {prog : Program} {w : World} {a b : Addr} {d : Nat} {news : List (Addr × Obj)} (h : AT.In lS gS news (.leaf a b d)) (hd : d < 9) : Spec prog w 1 212 [.ref a] news (IntP d news) := by
  obtain ⟨t, k, k', h1, h2⟩ := h
  refine' Spec.of [(Str.ofString "node", .ref a)] ?_ ?_ ?_ ?_ ?_ ?_ ?_ ?_ ?_
  k_extra "sol"
  intro p loose mean mg mb dp un gd outer A₀ base g L' s A1 m0 E1 B F X N T hdp hun
  k_steps
  exact doneI (by assumption) (by assumption) (fun p hp => .tail _ hp) rfl
set_option maxHeartbeats 8000000 in
theorem due_gate {prog : Program} {w : World} {a b : Addr} {k : Nat} {x y z : AT} {n : Nat} {news : List (Addr × Obj)} (h : AT.In lS gS news (.gate a b k x y z)) (hk : k < 3) (dx : x.tr.dep ≤ 2) (dy : y.tr.dep ≤ 2) (dz : z.tr.dep ≤ 2)
    (ih : ∀ c ∈ [x, y, z], ∀ nw, c.In lS gS nw → Spec prog w n 212 [.ref c.addr] nw (IntP c.tr.due nw)) (rx : ∀ c ∈ [x, y, z], 0 ≤ c.tr.due ∧ c.tr.due ≤ 8) :
    Spec prog w (n + 2) 212 [.ref a] news (IntP (med3 k x.tr.due y.tr.due z.tr.due) news) := by
  obtain ⟨t, kc, kc', h1, h2, hx, hy, hz⟩ := h
  refine' Spec.of [(Str.ofString "node", .ref a)] ?_ ?_ ?_ ?_ ?_ ?_ ?_ ?_ ?_
  k_extra "sol"
  intro p loose mean mg mb dp un gd outer A₀ base g L' s A1 m0 E1 B F X N T hdp hun
  k_steps
  (try dsimp only)
  rename Fr _ _ _ _ => F4
  rename News _ _ _ _ => N4
  (try dsimp only at N4 F4)
  refine Hold.un ?_
  refine' LCg.CompSrc.ledger ?hh F4 N4 ?hm ?hsz ?_
  case hm => k_extra "mem"
  case hh => rfl
  case hsz => rw [sizeLine_eq]; exact (by decide : 3 ≤ 16777216)
  intro g'
  refine comp_turns 3 (fun j ys nw => nw = NewsOf N4 ∧ IntsAre ys ((([x, y, z].map fun c => c.tr.due)).take j)) ?_ ?_ _ 0 [] _ rfl ⟨rfl, .nil⟩
  · rintro ys nw ⟨rfl, hys⟩
    intro D h tk F6 N6 od
    clear F4
    have hys3 : IntsAre ys [x.tr.due, y.tr.due, z.tr.due] := hys
    clear hys
    k_steps
    rename Fr _ _ _ _ => F8
    rename News _ _ _ _ => N8
    refine Hold.un ?_
    have hl8 := News.isList N8 (.head _)
    refine kso_sorted F8 N8 hl8 hys3 (by simp) ?_
    intro D8 v8 n8 c8 h8 F9 N9 l9 i9 e9 p9 o9 b9
    k_steps
    rename Obj.IsDictOf _ _ _ => hdd
    rename Fr _ _ _ _ => F10
    rename News _ _ _ _ => N10
    have hw := want_rng k
    have hsm := sort_med hk e9 p9 o9
    rename Imp _ _ => aI
    rcases kind3 hk with rfl | rfl | rfl
    all_goals
      refine Hold.un ?_
      refine' kda_item (knd := strKind prog w) N10 ?hp hdd (strKind_is _ _ _ _) ?hl ?_
      case hp => k_extra "mem"
      case hl => exact rfl
      clear hdd
      have e3 : n8.length = 3 := e9
    · exact kba_turn (value' := PySem.Expr.Name (Str.ofString "_") ⟨0, 0, 0, 0⟩) (fun _ => rfl) <| lst_ints (j := 2) N10 (.head _) i9 rfl (by lia) (by lia) fun t => impK aI (doneI F10 N10 (fun p hp => by k_extra "mem") hsm)
    · exact kba_turn (value' := PySem.Expr.Name (Str.ofString "_") ⟨0, 0, 0, 0⟩) (fun _ => rfl) <| lst_ints (j := 0) N10 (.head _) i9 rfl (by lia) (by lia) fun t => impK aI (doneI F10 N10 (fun p hp => by k_extra "mem") hsm)
    · exact kba_turn (value' := PySem.Expr.Name (Str.ofString "_") ⟨0, 0, 0, 0⟩) (fun _ => rfl) <| lst_ints (j := 1) N10 (.head _) i9 rfl (by lia) (by lia) fun t => impK aI (doneI F10 N10 (fun p hp => by k_extra "mem") hsm)
  · rintro j v ys nw I2 oI2 C2 oC2 D2 m₂ h2 tk2 E' hj hv ⟨rfl, hys⟩ hC hx2 F7 N7 o7 ne QC aC
    have hobt := kid3 hv
    obtain ⟨c, hc, rfl⟩ := hobt
    have cm := List.mem_of_getElem? hc
    have cin : c.In lS gS (NewsOf N7) := by
      refine AT.In.mono (n := news) (fun p hp => ?_) ?_
      · k_extra "mem"
      · simp only [List.mem_cons, List.not_mem_nil, or_false] at cm
        rcases cm with rfl | rfl | rfl <;> assumption
    have S7 := ih c cm _ cin
    clear F4 ih
    k_steps
    refine Hold.un ⟨_, _, _, rfl, by assumption, by assumption, o7, .inr ⟨_, by k_extra "mem", rfl, _, rfl⟩, rfl, ?_⟩
    show IntsAre (ys ++ [_]) _
    rw [List.take_add_one, List.getElem?_map, hc]
    exact IntsAre.append hys (.cons _ _ .nil)

theorem due_spec {prog : Program} {w : World} : ∀ (t : AT), t.tr.ok → t.tr.dep ≤ 3 → ∀ nw, t.In lS gS nw → Spec prog w (2 * t.tr.dep + 1) 212 [.ref t.addr] nw (IntP t.tr.due nw)
  | .leaf a b d, ok, _, nw, h => due_leaf h ok
  | .gate a b k x y z, ok, hd, nw, h => by
    have hd' := d3 (a := x.tr.dep) (b := y.tr.dep) (c := z.tr.dep) (n := 2) hd
    have hx := due_spec (prog := prog) (w := w) x ok.2.1 (Nat.le_succ_of_le hd'.1)
    have hy := due_spec (prog := prog) (w := w) y ok.2.2.1 (Nat.le_succ_of_le hd'.2.1)
    have hz := due_spec (prog := prog) (w := w) z ok.2.2.2 (Nat.le_succ_of_le hd'.2.2)
    refine due_gate (n := 2 * max x.tr.dep (max y.tr.dep z.tr.dep) + 1) h ok.1 hd'.1 hd'.2.1 hd'.2.2 (fun c hc nw hin => ?_) (fun c hc => ?_)
    · simp only [List.mem_cons, List.not_mem_nil, or_false] at hc
      rcases hc with rfl | rfl | rfl
      · exact (hx nw hin).more (Nat.succ_le_succ (Nat.mul_le_mul_left 2 (m3 _ _ _).1))
      · exact (hy nw hin).more (Nat.succ_le_succ (Nat.mul_le_mul_left 2 (m3 _ _ _).2.1))
      · exact (hz nw hin).more (Nat.succ_le_succ (Nat.mul_le_mul_left 2 (m3 _ _ _).2.2))
    · simp only [List.mem_cons, List.not_mem_nil, or_false] at hc
      rcases hc with rfl | rfl | rfl
      · exact Tr.due_rng ok.2.1
      · exact Tr.due_rng ok.2.2.1
      · exact Tr.due_rng ok.2.2.2
end
section
theorem kw_Fmea_0 : True := by
  k_with_none
  k_with "vat" => repeat' (first | exact List.forall_mem_nil _ | refine' List.forall_mem_cons.mpr ⟨?_, ?_⟩ | with_unfolding_all rfl)
  k_with "vrest" => first | ((repeat' (first | exact Vars.rest (by assumption) | exact vr_nil | exact vr_base | refine vr_upd ?_ (by with_unfolding_all rfl) | refine vr_set ?_ (by with_unfolding_all rfl))); done) | (intro zzz hzzz; (simp only [List.contains_cons, List.contains_nil, Bool.or_false, Bool.or_eq_false_iff, beq_eq_false_iff_ne, ne_eq] at hzzz); (simp [hzzz, upd, setL, baseOf, List.lookup]))
  k_with "exec For Name Name cons nil" => (refine' wpAny_For ?h ?hs; (case hs => (intro _; with_unfolding_all rfl)))
  k_with "exec For Name Call cons nil" => (refine' wpAny_For ?h ?hs; (case hs => (intro _; with_unfolding_all rfl)))
  k_with "exec For Name Attribute cons nil" => (refine' wpAny_For ?h ?hs; (case hs => (intro _; with_unfolding_all rfl)))
  k_with "sol" => all_goals (try (first | k_is | exact rfl | decide))
  k_with "sz" => first | omega | (simp only [List.length_append, List.length_cons, List.length_nil, List.length_map, List.length_replicate, List.length_reverse, List.length_set]; omega)
  k_with "sub" => first | exact Sub.refl _ | with_reducible assumption | exact Sub.nil | (refine Sub.cons ?_; k_extra "sub") | (refine Sub.trans (by with_reducible assumption) ?_; k_extra "sub") | fail "sub"
  k_with "member" => assumption
  k_with "ite" => first | with_reducible refine ite_tt ?_ | with_reducible refine ite_ff ?_
  k_with "execs nil" => refine wpAny_execs_nil ?_
  k_with "dp" => first | exact dpLe | omega
  k_with "un" => first | exact unLe | omega
  k_with "storeName" => (k_here; k_dflt (first | (refine' storeI ?_; intro q1zz) | (refine' storeS ?_; intro q1zz) | (refine' storeF ?_; intro q1zz) | refine' storeR ?_); k_whole; intro hpzz kpzz mpzz Fpzz Npzz; (try k_sweep))
  k_with "execs cons" => first | refine lastK ?_ | (refine cutK ?_; intro Qzz azz) | (refine enterK ?_; intro Qzz azz)
  k_with "KQ" => first | refine nextK (by assumption) ?_ | refine retK (by assumption) ?_ | refine impK (by assumption) ?_ | refine contK (by assumption) ?_ | refine brkK (by assumption) ?_
  k_with "KS" => refine stopK (by assumption) ?_
  k_with "exec If" => (refine ifK ?_; intro Qzz azz)
  k_with "KB" => refine ifB (by assumption) ?_
  k_with "KV" => refine stopV (by assumption) ?_
  k_with "exec While" => refine wpAny_While ?_
  k_with "exec While Compare" => refine wpAny_While ?_
  k_with "exec While BoolOp" => refine wpAny_While ?_
  k_with "eval ListComp" => (k_here; (with_reducible show wpAny _ _ (eval (PySem.Expr.ListComp _ [PySem.Comprehension.mk _ _ [] 0] _ _) _) _ _ _); k_dflt (refine LCg.ListComp_U (F₀ := by k_asm) (by with_unfolding_all rfl) (by decide) (by rfl) (by decide) (by rfl) ?_))
  k_with "eval ListComp" => (k_here; (with_reducible show wpAny _ _ (eval (PySem.Expr.ListComp _ [PySem.Comprehension.mk _ _ [_] 0] _ _) _) _ _ _); k_dflt (refine LCt.ListComp_T (F₀ := by k_asm) (by with_unfolding_all rfl) (by decide) (by rfl) (by decide) (by rfl) ?_))
  k_with "exec Assign cons ListComp" => (k_here; (with_reducible show wpAny _ _ (exec (PySem.Stmt.Assign [_] (PySem.Expr.ListComp _ [PySem.Comprehension.mk _ _ [] 0] _ _) _) _) _ _ _); k_dflt (refine LCg.Assign_ListComp_U (F₀ := by k_asm) (by rfl) (by with_unfolding_all rfl) (by with_unfolding_all rfl) (by decide) (by rfl) (by decide) (by rfl) (by rfl) (by rfl) ?_))
  k_with "exec Assign cons ListComp" => (k_here; (with_reducible show wpAny _ _ (exec (PySem.Stmt.Assign [_] (PySem.Expr.ListComp _ [PySem.Comprehension.mk _ _ [_] 0] _ _) _) _) _ _ _); k_dflt (refine LCt.Assign_ListComp_T (F₀ := by k_asm) (by rfl) (by with_unfolding_all rfl) (by with_unfolding_all rfl) (by decide) (by rfl) (by decide) (by rfl) (by rfl) (by rfl) ?_))
  k_with "CompSrc" => (k_here; refine Hold.mk ?_)
  k_with "CompSrcT" => (k_here; refine Hold.mk ?_)
  k_with "CompEnd" => (k_here; refine Hold.mk ?_)
  k_with "FinA" => (k_here; refine Hold.mk ?_)
  k_with "FinE" => (k_here; refine Hold.mk ?_)
  k_with "loadName" => (k_here; k_dflt (refine' ldnX ?k1 ?k2 ?_; (case k1 => k_asm); (case k2 => exact rfl); k_whole))
  k_with "newTuple" => (k_here; k_dflt (refine' tupR ?_); intro Dpzz hpzz kpzz Fpzz Npzz l1zz; (try k_lt l1zz); (try k_sweep))
  k_with "mem" => first | exact List.Mem.head _ | with_reducible assumption | (refine' List.mem_cons_of_mem _ ?_; k_extra "mem") | (refine' Sub.mem ?s ?m; (case s => with_reducible assumption); (case m => k_extra "mem")) | fail "mem"
  k_with "member" => k_extra "mem"
  k_with "subscriptTail" => (k_here; (with_reducible show wpAny _ _ (subscriptTail _ _ (Value.ref _) (gS _ _)) _ _ _); refine Hold.mk ?_)
  k_with "subscriptTail" => (k_here; (with_reducible show wpAny _ _ (subscriptTail _ _ (Value.ref _) (Value.int _ _)) _ _ _); refine' lst_at (h := ?_))
  k_with "call type:int" => (k_here; (with_reducible refine int_digit (by with_reducible assumption) ?_))
  k_with "in" => first | with_reducible assumption | (refine' AT.In.mono ?s ?h; (case h => with_reducible assumption); (case s => first | with_reducible assumption | exact fun p hp => List.mem_cons_of_mem _ hp))
  k_with "compareOp Eq ref ref" => (k_here; first | refine' eq_nn (h := ?_) | refine' eq_gn (h := ?_))
  k_with "compareOp NotEq ref ref" => (k_here; first | refine' ne_nn (h := ?_) | refine' ne_gn (h := ?_))
  k_with "call ref" => (k_here; refine' Spec.go (Post := IntP _ _) (C := by first | with_reducible assumption | assumption) (ret := ?_); rintro r9zz n9zz h9zz tk9zz F9zz N9zz ⟨⟨t9zz, e9zz⟩, d9zz⟩; subst e9zz; subst d9zz)
  k_with "Exists" => (k_here; refine kda_made_str (by k_asm) (by k_asm) (Top.nolimit (by k_asm)) (by rfl) (of_decide_eq_true (by rfl)) (by rfl) ?_; intro hpzz opzz Fpzz Npzz l1zz lopzz hdpzz; (try k_lt l1zz))
  k_with "eval Dict" => (k_here; (with_reducible refine Dict_made_str (by with_unfolding_all rfl) (by k_asm) (by with_unfolding_all rfl) (by with_unfolding_all rfl) (List.cons_ne_nil _ _) (by with_unfolding_all decide) ?_; intro _))
  k_with "exec Assign cons Dict" => (with_reducible refine wpAny_Assign_Name ?_ ?_; rotate_left; with_unfolding_all rfl)
  k_with "call builtin:sorted" => (k_here; refine Hold.mk ?_)
  exact True.intro
def DI (nw : List (Addr × Obj)) (v : Value) (d : Dat) : Prop := DatIn nw v d
def DB (nw : List (Addr × Obj)) (vs : List Value) (ds : List Dat) : Prop := DatAll nw vs ds
def MeantP (t : Tr) (full : List (Addr × Obj)) (r : Value) (news' : List (Addr × Obj)) : Prop :=
  ∃ fresh, Sub (fresh ++ full) news' ∧ (∀ q ∈ fresh, ∀ p ∈ full, p.1 ≠ q.1) ∧ DI fresh r (t.dat dI eI)
theorem kw_Fmea_1 : True := by
  k_with "call ref" => (k_here; refine' Spec.go (Post := MeantP _ _) (C := by first | with_reducible assumption | assumption) (ret := ?_); rintro r9zz n9zz h9zz tk9zz F9zz N9zz ⟨f9zz, s9zz, ne9zz, d9zz⟩)
  exact True.intro
theorem kv_item {prog : Program} {w : World} {A : Around} {E : Value → Shared → Prop} {s : Shared} {h₀ : Heap} {L d : Addr} {news : List (Addr × Obj)} {o : Obj} {kvs : List (Str × Value)} {value slice : Expr} {k : Nat} {c : Int} {u : Tok} {Q : Value → Shared → Prop} (N : News h₀ L s.heap news) (hp : (d, o) ∈ news) (hd : o.IsDictOf (strKind prog w) kvs) (hv : ∃ t, valueAt kvs (kindS k) = some (.int c t)) (h : ∀ t, Q (.int c t) { s with toks := s.toks + 1 })
    (hs : subscripted slice false (.ref d) (gS k u) = operate [.ref d, gS k u] (getItem (.ref d) (gS k u)) := by with_unfolding_all rfl) (hg : ∀ r, letTemporaryGo value (.ref d) r = pure () := by intro _; with_unfolding_all rfl) :
    wpAny (model prog w) A (subscriptTail value slice (.ref d) (gS k u)) Q E s := by
  obtain ⟨t, e⟩ := hv
  exact kda_item (knd := strKind prog w) N hp hd (strKind_is _ _ _ _) e (h t) hs hg
set_option maxHeartbeats 8000000 in
theorem mea_leaf {prog : Program} {w : World} {a b : Addr} {d : Nat} {news : List (Addr × Obj)} (h : AT.In lS gS news (.leaf a b d)) (hd : d < 9) : Spec prog w 1 207 [.ref a] news (MeantP (.leaf d) news) := by
  obtain ⟨t, k, k', h1, h2⟩ := h
  refine' Spec.of [(Str.ofString "node", .ref a)] ?_ ?_ ?_ ?_ ?_ ?_ ?_ ?_ ?_
  k_extra "sol"
  intro p loose mean mg mb dp un gd outer A₀ base g L' s A1 m0 E1 B F X N T hdp hun
  k_steps
  rename Fr _ _ _ _ => F4
  rename News _ _ _ _ => N4
  rename (_ < _ ∧ AllLt _ news) => lt1
  rename (_ < _ ∧ _ < _ ∧ AllLt _ news) => lt2
  exact ⟨Same.mk, _, _, F4, N4, [(_, _), (_, _)], fun p hp => by
    rcases List.mem_cons.mp hp with rfl | hp
    · exact .head _
    · rcases List.mem_cons.mp hp with rfl | hp
      · exact .tail _ (.head _)
      · exact .tail _ (.tail _ (.tail _ hp)), fun q hq p hp => by
    rcases List.mem_cons.mp hq with rfl | hq
    · exact Nat.ne_of_lt (tb_ltOf lt2.2.2 p hp)
    · rw [List.mem_singleton.mp hq]; exact Nat.ne_of_lt (tb_ltOf lt1.2 p hp), DatIn.list (.head _) (.cons (.int _ _) (.cons (DatIn.list (vs := []) (.tail _ (.head _)) .nil) .nil))⟩
set_option maxHeartbeats 8000000 in
theorem mea_gate {prog : Program} {w : World} {a b : Addr} {k : Nat} {x y z : AT} {n : Nat} {news : List (Addr × Obj)} (h : AT.In lS gS news (.gate a b k x y z)) (hk : k < 3) (dx : x.tr.dep ≤ 2) (dy : y.tr.dep ≤ 2) (dz : z.tr.dep ≤ 2)
    (ih : ∀ c ∈ [x, y, z], ∀ nw, c.In lS gS nw → Spec prog w n 207 [.ref c.addr] nw (MeantP c.tr nw)) :
    Spec prog w (n + 2) 207 [.ref a] news (MeantP (.gate k x.tr y.tr z.tr) news) := by
  obtain ⟨t, kc, kc', h1, h2, hx, hy, hz⟩ := h
  refine' Spec.of [(Str.ofString "node", .ref a)] ?_ ?_ ?_ ?_ ?_ ?_ ?_ ?_ ?_
  k_extra "sol"
  intro p loose mean mg mb dp un gd outer A₀ base g L' s A1 m0 E1 B F X N T hdp hun
  k_steps
  rename Obj.IsDictOf _ _ _ => hdd
  rename News _ _ _ _ => N3
  refine Hold.un ?_
  refine' kv_item (c := kindI k) N3 ?hp hdd ?hv ?_
  case hp => k_extra "mem"
  case hv =>
    rcases kind3 hk with rfl | rfl | rfl
    · exact ⟨_, rfl⟩
    · exact ⟨_, rfl⟩
    · exact ⟨_, rfl⟩
  intro tk9
  clear hdd
  k_steps
  (try dsimp only)
  rename Fr _ _ _ _ => F4
  rename News _ _ _ _ => N4
  (try dsimp only at N4 F4)
  refine Hold.un ?_
  refine' LCg.CompSrc.ledger ?hh F4 N4 ?hm ?hsz ?_
  case hm => k_extra "mem"
  case hh => rfl
  case hsz => rw [sizeLine_eq]; exact (by decide : 3 ≤ 16777216)
  intro g'
  refine comp_turns 3 (fun j ys nw => ∃ fresh, nw = fresh ++ NewsOf N4 ∧ (∀ q ∈ fresh, ∀ p ∈ NewsOf N4, p.1 ≠ q.1) ∧ DB fresh ys ((([x, y, z].map fun c => c.tr.dat dI eI)).take j)) ?_ ?_ _ 0 [] _ rfl ⟨[], rfl, (fun _ h => nomatch h), DatAll.nil⟩
  · rintro ys nw ⟨fresh, rfl, nf, hys⟩
    intro D h tk F6 N6 od
    clear F4
    k_steps
    rename Fr _ _ _ _ => F8
    rename News _ _ _ _ => N8
    rename (D < _ ∧ AllLt _ _) => lt8
    refine name_it (P := fun b => D < b ∧ AllLt b _) lt8 fun lR eR => ?_
    subst eR
    have hys3 : DatAll fresh ys [x.tr.dat dI eI, y.tr.dat dI eI, z.tr.dat dI eI] := hys
    have hsub : Sub news (NewsOf N4) := fun p hp => by k_extra "mem"
    refine ⟨Same.mk, _, _, F8, N8, (lR, listOf [.int (kindI k) tk9, .ref D].toArray 0) :: (D, LCg.lst ys) :: fresh, fun p hp => ?_, fun q hq p hp => ?_, DatIn.list (.head _) (.cons (.int _ _) (.cons (DatIn.list (.tail _ (.head _)) (hys3.mono fun p hp => .tail _ (.tail _ hp))) .nil))⟩
    · rcases List.mem_cons.mp hp with rfl | hp
      · exact .head _
      · rcases List.mem_cons.mp hp with rfl | hp
        · exact .tail _ (.head _)
        · rcases List.mem_append.mp hp with hp | hp
          · exact .tail _ (.tail _ (List.mem_append_left _ hp))
          · exact .tail _ (.tail _ (List.mem_append_right _ (hsub p hp)))
    · rcases List.mem_cons.mp hq with rfl | hq
      · exact Nat.ne_of_lt (tb_ltOf lt8.2 p (List.mem_append_right _ (hsub p hp)))
      · rcases List.mem_cons.mp hq with rfl | hq
        · exact off1_mem od p (List.mem_append_right _ (hsub p hp))
        · exact nf q hq p (hsub p hp)
  · rintro j v ys nw I2 oI2 C2 oC2 D2 m₂ h2 tk2 E' hj hv ⟨fresh, rfl, nf, hys⟩ hC hx2 F7 N7 o7 ne QC aC
    have hobt := kid3 hv
    obtain ⟨c, hc, rfl⟩ := hobt
    have cm := List.mem_of_getElem? hc
    have cin : c.In lS gS (NewsOf N7) := by
      refine AT.In.mono (n := news) (fun p hp => ?_) ?_
      · exact .tail _ (.tail _ (.tail _ (List.mem_append_right _ (by k_extra "mem"))))
      · simp only [List.mem_cons, List.not_mem_nil, or_false] at cm
        rcases cm with rfl | rfl | rfl <;> assumption
    have S7 := ih c cm _ cin
    clear F4 ih
    k_steps
    rename Fr _ _ _ _ => F9
    rename News _ _ _ _ => N9
    rename (DI _ _ _) => d9
    refine name_it (P := fun f => DI f _ _) d9 fun f9 ef => ?_
    subst ef
    rename (Sub (_ ++ _) _) => s9
    rename (∀ q ∈ _, ∀ p ∈ NewsOf N7, _) => ne9
    refine Hold.un ⟨_, _, (f9 ++ fresh) ++ NewsOf N4, rfl, F9, News.sub N9 (Sub.trans ?_ s9), ?_, .inr ⟨_, List.mem_append_right _ (by k_extra "mem"), rfl, _, rfl⟩, f9 ++ fresh, rfl, ?_, ?_⟩
    · intro p hp
      rcases List.mem_cons.mp hp with rfl | hp
      · exact List.mem_append_right _ (.head _)
      · rcases List.mem_cons.mp hp with rfl | hp
        · exact List.mem_append_right _ (.tail _ (.head _))
        · rcases List.mem_cons.mp hp with rfl | hp
          · exact List.mem_append_right _ (.tail _ (.tail _ (.head _)))
          · rw [List.append_assoc] at hp
            rcases List.mem_append.mp hp with hp | hp
            · exact List.mem_append_left _ hp
            · exact List.mem_append_right _ (.tail _ (.tail _ (.tail _ hp)))
    · refine LCg.Off3.of fun p hp => ?_
      rw [List.append_assoc] at hp
      rcases List.mem_append.mp hp with hp | hp
      · exact ⟨fun e => ne9 p hp _ (.head _) e.symm, fun e => ne9 p hp _ (.tail _ (.head _)) e.symm, fun e => ne9 p hp _ (.tail _ (.tail _ (.head _))) e.symm⟩
      · exact o7.mem p hp
    · intro q hq p hp
      rcases List.mem_append.mp hq with hq | hq
      · exact ne9 q hq p (.tail _ (.tail _ (.tail _ (List.mem_append_right _ hp))))
      · exact nf q hq p hp
    · show DatAll _ (ys ++ [_]) _
      rw [List.take_add_one, List.getElem?_map, hc]
      exact DatAll.append (DatAll.mono (fun p hp => List.mem_append_right _ hp) hys) (DatAll.one (DatIn.mono (fun p hp => List.mem_append_left _ hp) d9))
theorem mea_spec {prog : Program} {w : World} : ∀ (t : AT), t.tr.ok → t.tr.dep ≤ 3 → ∀ nw, t.In lS gS nw → Spec prog w (2 * t.tr.dep + 1) 207 [.ref t.addr] nw (MeantP t.tr nw)
  | .leaf a b d, ok, _, nw, h => mea_leaf h ok
  | .gate a b k x y z, ok, hd, nw, h => by
    have hd' := d3 (a := x.tr.dep) (b := y.tr.dep) (c := z.tr.dep) (n := 2) hd
    have hx := mea_spec (prog := prog) (w := w) x ok.2.1 (Nat.le_succ_of_le hd'.1)
    have hy := mea_spec (prog := prog) (w := w) y ok.2.2.1 (Nat.le_succ_of_le hd'.2.1)
    have hz := mea_spec (prog := prog) (w := w) z ok.2.2.2 (Nat.le_succ_of_le hd'.2.2)
    refine mea_gate (n := 2 * max x.tr.dep (max y.tr.dep z.tr.dep) + 1) h ok.1 hd'.1 hd'.2.1 hd'.2.2 (fun c hc nw hin => ?_)
    simp only [List.mem_cons, List.not_mem_nil, or_false] at hc
    rcases hc with rfl | rfl | rfl
    · exact (hx nw hin).more (Nat.succ_le_succ (Nat.mul_le_mul_left 2 (m3 _ _ _).1))
    · exact (hy nw hin).more (Nat.succ_le_succ (Nat.mul_le_mul_left 2 (m3 _ _ _).2.1))
    · exact (hz nw hin).more (Nat.succ_le_succ (Nat.mul_le_mul_left 2 (m3 _ _ _).2.2))
end
section
theorem kw_Flea_0 : True := by
  k_with_none
  k_with "vat" => repeat' (first | exact List.forall_mem_nil _ | refine' List.forall_mem_cons.mpr ⟨?_, ?_⟩ | with_unfolding_all rfl)
  k_with "vrest" => first | ((repeat' (first | exact Vars.rest (by assumption) | exact vr_nil | exact vr_base | refine vr_upd ?_ (by with_unfolding_all rfl) | refine vr_set ?_ (by with_unfolding_all rfl))); done) | (intro zzz hzzz; (simp only [List.contains_cons, List.contains_nil, Bool.or_false, Bool.or_eq_false_iff, beq_eq_false_iff_ne, ne_eq] at hzzz); (simp [hzzz, upd, setL, baseOf, List.lookup]))
  k_with "exec For Name Name cons nil" => (refine' wpAny_For ?h ?hs; (case hs => (intro _; with_unfolding_all rfl)))
  k_with "exec For Name Call cons nil" => (refine' wpAny_For ?h ?hs; (case hs => (intro _; with_unfolding_all rfl)))
  k_with "exec For Name Attribute cons nil" => (refine' wpAny_For ?h ?hs; (case hs => (intro _; with_unfolding_all rfl)))
  k_with "sol" => all_goals (try (first | k_is | exact rfl | decide))
  k_with "sz" => first | omega | (simp only [List.length_append, List.length_cons, List.length_nil, List.length_map, List.length_replicate, List.length_reverse, List.length_set]; omega)
  k_with "sub" => first | exact Sub.refl _ | with_reducible assumption | exact Sub.nil | (refine Sub.cons ?_; k_extra "sub") | (refine Sub.trans (by with_reducible assumption) ?_; k_extra "sub") | fail "sub"
  k_with "member" => assumption
  k_with "ite" => first | with_reducible refine ite_tt ?_ | with_reducible refine ite_ff ?_
  k_with "execs nil" => refine wpAny_execs_nil ?_
  k_with "dp" => first | exact dpLe | omega
  k_with "un" => first | exact unLe | omega
  k_with "storeName" => (k_here; k_dflt (first | (refine' storeI ?_; intro q1zz) | (refine' storeS ?_; intro q1zz) | (refine' storeF ?_; intro q1zz) | refine' storeR ?_); k_whole; intro hpzz kpzz mpzz Fpzz Npzz; (try k_sweep))
  k_with "execs cons" => first | refine lastK ?_ | (refine cutK ?_; intro Qzz azz) | (refine enterK ?_; intro Qzz azz)
  k_with "KQ" => first | refine nextK (by assumption) ?_ | refine retK (by assumption) ?_ | refine impK (by assumption) ?_ | refine contK (by assumption) ?_ | refine brkK (by assumption) ?_
  k_with "KS" => refine stopK (by assumption) ?_
  k_with "exec If" => (refine ifK ?_; intro Qzz azz)
  k_with "KB" => refine ifB (by assumption) ?_
  k_with "KV" => refine stopV (by assumption) ?_
  k_with "exec While" => refine wpAny_While ?_
  k_with "exec While Compare" => refine wpAny_While ?_
  k_with "exec While BoolOp" => refine wpAny_While ?_
  k_with "eval ListComp" => (k_here; (with_reducible show wpAny _ _ (eval (PySem.Expr.ListComp _ [PySem.Comprehension.mk _ _ [] 0] _ _) _) _ _ _); k_dflt (refine LCg.ListComp_U (F₀ := by k_asm) (by with_unfolding_all rfl) (by decide) (by rfl) (by decide) (by rfl) ?_))
  k_with "eval ListComp" => (k_here; (with_reducible show wpAny _ _ (eval (PySem.Expr.ListComp _ [PySem.Comprehension.mk _ _ [_] 0] _ _) _) _ _ _); k_dflt (refine LCt.ListComp_T (F₀ := by k_asm) (by with_unfolding_all rfl) (by decide) (by rfl) (by decide) (by rfl) ?_))
  k_with "exec Assign cons ListComp" => (k_here; (with_reducible show wpAny _ _ (exec (PySem.Stmt.Assign [_] (PySem.Expr.ListComp _ [PySem.Comprehension.mk _ _ [] 0] _ _) _) _) _ _ _); k_dflt (refine LCg.Assign_ListComp_U (F₀ := by k_asm) (by rfl) (by with_unfolding_all rfl) (by with_unfolding_all rfl) (by decide) (by rfl) (by decide) (by rfl) (by rfl) (by rfl) ?_))
  k_with "exec Assign cons ListComp" => (k_here; (with_reducible show wpAny _ _ (exec (PySem.Stmt.Assign [_] (PySem.Expr.ListComp _ [PySem.Comprehension.mk _ _ [_] 0] _ _) _) _) _ _ _); k_dflt (refine LCt.Assign_ListComp_T (F₀ := by k_asm) (by rfl) (by with_unfolding_all rfl) (by with_unfolding_all rfl) (by decide) (by rfl) (by decide) (by rfl) (by rfl) (by rfl) ?_))
  k_with "CompSrc" => (k_here; refine Hold.mk ?_)
  k_with "CompSrcT" => (k_here; refine Hold.mk ?_)
  k_with "CompEnd" => (k_here; refine Hold.mk ?_)
  k_with "FinA" => (k_here; refine Hold.mk ?_)
  k_with "FinE" => (k_here; refine Hold.mk ?_)
  k_with "loadName" => (k_here; k_dflt (refine' ldnX ?k1 ?k2 ?_; (case k1 => k_asm); (case k2 => exact rfl); k_whole))
  k_with "newTuple" => (k_here; k_dflt (refine' tupR ?_); intro Dpzz hpzz kpzz Fpzz Npzz l1zz; (try k_lt l1zz); (try k_sweep))
  k_with "mem" => first | exact List.Mem.head _ | with_reducible assumption | (refine' List.mem_cons_of_mem _ ?_; k_extra "mem") | (refine' Sub.mem ?s ?m; (case s => with_reducible assumption); (case m => k_extra "mem")) | fail "mem"
  k_with "member" => k_extra "mem"
  k_with "subscriptTail" => (k_here; (with_reducible show wpAny _ _ (subscriptTail _ _ (Value.ref _) (gS _ _)) _ _ _); refine Hold.mk ?_)
  k_with "subscriptTail" => (k_here; (with_reducible show wpAny _ _ (subscriptTail _ _ (Value.ref _) (Value.int _ _)) _ _ _); refine' lst_at (h := ?_))
  k_with "call type:int" => (k_here; (with_reducible refine int_digit (by with_reducible assumption) ?_))
  k_with "in" => first | with_reducible assumption | (refine' AT.In.mono ?s ?h; (case h => with_reducible assumption); (case s => first | with_reducible assumption | exact fun p hp => List.mem_cons_of_mem _ hp))
  k_with "compareOp Eq ref ref" => (k_here; first | refine' eq_nn (h := ?_) | refine' eq_gn (h := ?_))
  k_with "compareOp NotEq ref ref" => (k_here; first | refine' ne_nn (h := ?_) | refine' ne_gn (h := ?_))
  k_with "call ref" => (k_here; refine' Spec.go (Post := IntP _ _) (C := by first | with_reducible assumption | assumption) (ret := ?_); rintro r9zz n9zz h9zz tk9zz F9zz N9zz ⟨⟨t9zz, e9zz⟩, d9zz⟩; subst e9zz; subst d9zz)
  k_with "Exists" => (k_here; refine kda_made_str (by k_asm) (by k_asm) (Top.nolimit (by k_asm)) (by rfl) (of_decide_eq_true (by rfl)) (by rfl) ?_; intro hpzz opzz Fpzz Npzz l1zz lopzz hdpzz; (try k_lt l1zz))
  k_with "eval Dict" => (k_here; (with_reducible refine Dict_made_str (by with_unfolding_all rfl) (by k_asm) (by with_unfolding_all rfl) (by with_unfolding_all rfl) (List.cons_ne_nil _ _) (by with_unfolding_all decide) ?_; intro _))
  k_with "exec Assign cons Dict" => (with_reducible refine wpAny_Assign_Name ?_ ?_; rotate_left; with_unfolding_all rfl)
  k_with "call builtin:sorted" => (k_here; refine Hold.mk ?_)
  exact True.intro
theorem nt_leaf {prog : Program} {w : World} {d : Nat} {t : Tok} (news : List (Addr × Obj)) : Spec prog w 1 152 [lI d t] news (BoolP true news) := by
  have h := nonterm_spec (prog := prog) (w := w) (x := 256 + d) (t := t) news
  rwa [decide_eq_true (by lia)] at h
theorem nt_gate {prog : Program} {w : World} {k : Nat} {t : Tok} (news : List (Addr × Obj)) : Spec prog w 1 152 [gI k t] news (BoolP false news) := by
  have h := nonterm_spec (prog := prog) (w := w) (x := kindI k) (t := t) news
  rwa [decide_eq_false (by unfold kindI; split; lia; split <;> lia)] at h
theorem tm_leaf {prog : Program} {w : World} {d : Nat} {t : Tok} (news : List (Addr × Obj)) : Spec prog w 1 145 [lI d t] news (BoolP false news) := by
  have h := term_spec (prog := prog) (w := w) (x := 256 + d) (t := t) news
  rwa [decide_eq_false (by lia)] at h
theorem tm_gate {prog : Program} {w : World} {k : Nat} {t : Tok} (news : List (Addr × Obj)) : Spec prog w 1 145 [gI k t] news (BoolP true news) := by
  have h := term_spec (prog := prog) (w := w) (x := kindI k) (t := t) news
  rwa [decide_eq_true (by unfold kindI; split; lia; split <;> lia)] at h
theorem kw_Flea_1 : True := by
  k_with "call ref" => (k_here; refine' Spec.go (Post := BoolP _ _) (C := by with_reducible first | exact nt_leaf _ | exact nt_gate _ | exact tm_leaf _ | exact tm_gate _) (ret := ?_); rintro r9zz n9zz h9zz tk9zz F9zz N9zz ⟨e9zz, d9zz⟩; subst e9zz; subst d9zz)
  exact True.intro
/-- the leaves of a tree from the left: addresses of their nodes -/
def AT.lvs : AT → List (Addr × Addr × Nat)
  | .leaf a b d => [(a, b, d)]
  | .gate _ _ _ x y z => x.lvs ++ (y.lvs ++ z.lvs)
theorem AT.In.lvsF {fl fg : Nat → Tok → Value} {news : List (Addr × Obj)} {t : AT} (h : t.In fl fg news) : ∀ q ∈ t.lvs, ∃ t k, (q.1, listOf [fl q.2.2 t, .ref q.2.1].toArray k) ∈ news := by
  induction t with
  | leaf a b d => obtain ⟨t, k, k', h1, h2⟩ := h; intro q hq; rw [List.mem_singleton.mp hq]; exact ⟨t, k, h1⟩
  | gate a b k x y z ix iy iz =>
    obtain ⟨t, kc, kc', h1, h2, hx, hy, hz⟩ := h
    intro q hq
    exact (List.mem_append.mp hq).elim (ix hx q) fun hq => (List.mem_append.mp hq).elim (iy hy q) (iz hz q)
theorem lvs_pre {x y z : AT} (lx : ∀ c ∈ [x, y, z], c.lvs.length < 2 ^ 10) (j : Nat) : ((([x, y, z].take j).map AT.lvs).flatten).length ≤ 3 * 2 ^ 10 := by
  have e := congrArg (fun l => ((l.map AT.lvs).flatten).length) (List.take_append_drop j [x, y, z])
  have f : (([x, y, z].map AT.lvs).flatten).length = x.lvs.length + (y.lvs.length + (z.lvs.length + 0)) := by
    show (x.lvs ++ (y.lvs ++ (z.lvs ++ []))).length = _
    rw [List.length_append, List.length_append, List.length_append]; rfl
  have h1 := lx x (.head _)
  have h2 := lx y (.tail _ (.head _))
  have h3 := lx z (.tail _ (.tail _ (.head _)))
  simp only [List.map_append, List.flatten_append, List.length_append] at e
  lia
def LeaP (t : AT) (news : List (Addr × Obj)) (r : Value) (news' : List (Addr × Obj)) : Prop :=
  ∃ l k, r = .ref l ∧ Sub ((l, listOf (t.lvs.map fun q => Value.ref q.1).toArray k) :: news) news' ∧ ∀ p ∈ news, p.1 ≠ l
set_option maxHeartbeats 8000000 in
theorem lea_leaf {prog : Program} {w : World} {a b : Addr} {d : Nat} {news : List (Addr × Obj)} (h : AT.In lI gI news (.leaf a b d)) (hd : d < 9) : Spec prog w 2 236 [.ref a] news (LeaP (.leaf a b d) news) := by
  obtain ⟨t, k, k', h1, h2⟩ := h
  refine' Spec.of [(Str.ofString "node", .ref a)] ?_ ?_ ?_ ?_ ?_ ?_ ?_ ?_ ?_
  k_extra "sol"
  intro p loose mean mg mb dp un gd outer A₀ base g L' s A1 m0 E1 B F X N T hdp hun
  k_steps
  first
  | rename (∀ p ∈ news, p.1 < _) => lt
  | (rename AllLt _ news => lt0
     have lt := tb_ltOf lt0)
  | (rename (_ ∧ AllLt _ news) => lt0
     have lt := tb_ltOf lt0.2)
  | trace_state
  exact ⟨Same.mk, _, _, by assumption, by assumption, _, _, rfl, Sub.refl _, fun p hp => Nat.ne_of_lt (lt p hp)⟩
theorem kw_Flea_2 : True := by
  k_with "binaryOp Add ref ref" => (k_here; refine Hold.mk ?_)
  k_with "exec For Name Subscript cons nil" => (refine' wpAny_For ?h ?hs; (case hs => (intro _; with_unfolding_all rfl)))
  k_with "call ref" => (k_here; refine' Spec.go (Post := LeaP _ _) (C := by first | with_reducible assumption | assumption) (ret := ?_); rintro r9zz n9zz h9zz tk9zz F9zz N9zz ⟨l9zz, k9zz, e9zz, s9zz, ne9zz⟩; subst e9zz)
  exact True.intro
set_option maxHeartbeats 8000000 in
theorem lea_gate {prog : Program} {w : World} {a b : Addr} {k : Nat} {x y z : AT} {n : Nat} {news : List (Addr × Obj)} (h : AT.In lI gI news (.gate a b k x y z)) (lx : ∀ c ∈ [x, y, z], c.lvs.length < 2 ^ 10)
    (ih : ∀ c ∈ [x, y, z], ∀ nw, c.In lI gI nw → Spec prog w (n + 1) 236 [.ref c.addr] nw (LeaP c nw)) : Spec prog w (n + 2) 236 [.ref a] news (LeaP (.gate a b k x y z) news) := by
  obtain ⟨t, kc, kc', h1, h2, hx, hy, hz⟩ := h
  refine' Spec.of [(Str.ofString "node", .ref a)] ?_ ?_ ?_ ?_ ?_ ?_ ?_ ?_ ?_
  k_extra "sol"
  intro p loose mean mg mb dp un gd outer A₀ base g L' s A1 m0 E1 B F X N T hdp hun
  k_steps
  rename Fr _ _ _ _ => F1
  rename News _ _ _ _ => N1
  rename (∀ p ∈ news, p.1 < _) => lA
  refine name_it (P := fun b => ∀ p ∈ news, p.1 < b) lA fun la ela => ?_
  subst ela
  have hlb : Heap.IsList _ b [Value.ref x.addr, .ref y.addr, .ref z.addr].toArray := News.isList N1 (.tail _ h2)
  refine forL (vs := [Value.ref x.addr, .ref y.addr, .ref z.addr]) (D := [(la, listOf #[] 0)]) (news := news) hlb (N1 _ (.tail _ h2)).2.1 F1 N1
    (fun j m' D' => ∃ l k, D' = [(l, listOf (((([x, y, z].take j).map AT.lvs).flatten).map fun q => Value.ref q.1).toArray k)] ∧ (∀ p ∈ news, p.1 ≠ l) ∧ Vars m' (fun _ => none) ["node", "leaves", "part"] [("node", .ref a), ("leaves", .ref l)]) ?_ ?_ ?_
  · refine' ⟨la, 0, rfl, fun p hp => Nat.ne_of_lt (lA p hp), ⟨?_, ?_⟩⟩
    · k_extra "vat"
    · k_extra "vrest"
  · intro J0 j v m₁ D₁ rest hh tkk I Q0 a0 hj hq1 hs hr hI hoI hoff F2 N2
    obtain ⟨l, k0, rfl, ln, V⟩ := hq1
    refine V.frxL F2 ?_
    intro mv mw F3
    have N3 : News g L' hh ((l, _) :: rest) := N2
    clear F2 F1 N2 N1 hlb
    have hobt := kid3 (x := x) (y := y) (z := z) (i := j) (by simpa using hj)
    obtain ⟨c, hc, rfl⟩ := hobt
    have cm := List.mem_of_getElem? hc
    have cin : c.In lI gI (NewsOf N3) := by
      refine AT.In.mono (n := news) (fun p hp => .tail _ (hs p hp)) ?_
      simp only [List.mem_cons, List.not_mem_nil, or_false] at cm
      rcases cm with rfl | rfl | rfl <;> assumption
    have S7 := ih c cm _ cin
    clear ih
    k_steps
    rename Fr _ _ _ _ => F8
    rename News _ _ _ _ => N8
    rename (Sub ((_, _) :: _) _) => s9
    refine Hold.un ?_
    have hpre := lvs_pre lx j
    have hcl := lx c cm
    refine' kmk_add_lit F8 N8 (its := _) (its2 := _) (News.isList N8 (s9 _ (.tail _ (.head _)))) (News.isList N8 (s9 _ (.head _))) rfl ?_ ?_
    · intro D h' F9 N9 l9
      obtain ⟨oI, hoI⟩ := hoI
      k_steps
      have hd : ∀ o, ∀ p ∈ [((D, o) : Addr × Obj)], p.1 ≠ I := fun o p hp => by rw [List.mem_singleton.mp hp]; exact Nat.ne_of_gt (l9 _ (s9 _ (.tail _ (.tail _ hoI))))
      rename News _ _ _ _ => N10
      refine' MTurn.next (D' := [(D, listOf (((([x, y, z].take j).map AT.lvs).flatten).map (fun q => Value.ref q.1) ++ c.lvs.map fun q => Value.ref q.1).toArray 0)]) (by assumption) N10 ?_ (hd _) Same.mk ⟨D, 0, ?_, fun p hp => Nat.ne_of_lt (l9 p (s9 _ (.tail _ (.tail _ (hs p hp))))), ⟨?_, ?_⟩⟩
      · intro p hp
        rcases List.mem_cons.mp hp with rfl | hp
        · exact .head _
        · exact .tail _ (s9 _ (.tail _ (.tail _ hp)))
      · rw [List.take_add_one, hc]; simp
      · k_extra "vat"
      · k_extra "vrest"
    · rw [sizeLine_eq]; show (List.map _ _).length + (List.map _ _).length ≤ _; rw [List.length_map, List.length_map]; lia
  · intro m' D' hh tkk hq1 F2 N2
    obtain ⟨l, k0, rfl, ln, V⟩ := hq1
    refine V.frL F2 ?_
    intro mv F3
    have N3 : News g L' hh ((l, _) :: news) := N2
    clear F2 F1 N2 N1
    k_steps
    have e : ((([x, y, z].take 3).map AT.lvs).flatten) = (AT.gate a b k x y z).lvs := by simp [AT.lvs]
    exact ⟨Same.mk, _, _, by assumption, N3, l, k0, rfl, by rw [← e]; exact Sub.refl _, ln⟩
theorem lvs_le : ∀ (t : AT), t.lvs.length ≤ 3 ^ t.tr.dep
  | .leaf .. => by simp [AT.lvs, AT.tr, Tr.dep]
  | .gate a b k x y z => by
    have h1 := lvs_le x
    have h2 := lvs_le y
    have h3 := lvs_le z
    have m1 := Nat.pow_le_pow_right (n := 3) (by decide) (m3 x.tr.dep y.tr.dep z.tr.dep).1
    have m2 := Nat.pow_le_pow_right (n := 3) (by decide) (m3 x.tr.dep y.tr.dep z.tr.dep).2.1
    have m3 := Nat.pow_le_pow_right (n := 3) (by decide) (m3 x.tr.dep y.tr.dep z.tr.dep).2.2
    show (x.lvs ++ (y.lvs ++ z.lvs)).length ≤ 3 ^ (max x.tr.dep (max y.tr.dep z.tr.dep) + 1)
    rw [List.length_append, List.length_append, Nat.pow_succ]
    exact Nat.le_trans (Nat.add_le_add (Nat.le_trans h1 m1) (Nat.add_le_add (Nat.le_trans h2 m2) (Nat.le_trans h3 m3))) ((show ∀ m, m + (m + m) ≤ m * 3 from fun m => by lia) _)
theorem lea_spec {prog : Program} {w : World} : ∀ (t : AT), t.tr.ok → t.tr.dep ≤ 3 → ∀ nw, t.In lI gI nw → Spec prog w (t.tr.dep + 2) 236 [.ref t.addr] nw (LeaP t nw)
  | .leaf a b d, ok, _, nw, h => lea_leaf h ok
  | .gate a b k x y z, ok, hd, nw, h => by
    have hd' := d3 (a := x.tr.dep) (b := y.tr.dep) (c := z.tr.dep) (n := 2) hd
    have hx := lea_spec (prog := prog) (w := w) x ok.2.1 (Nat.le_succ_of_le hd'.1)
    have hy := lea_spec (prog := prog) (w := w) y ok.2.2.1 (Nat.le_succ_of_le hd'.2.1)
    have hz := lea_spec (prog := prog) (w := w) z ok.2.2.2 (Nat.le_succ_of_le hd'.2.2)
    have lt : ∀ c : AT, c.tr.dep ≤ 2 → c.lvs.length < 2 ^ 10 := fun c hc => Nat.lt_of_le_of_lt (Nat.le_trans (lvs_le c) (Nat.pow_le_pow_right (by decide) hc)) (by decide)
    refine lea_gate (n := max x.tr.dep (max y.tr.dep z.tr.dep) + 1) h (fun c hc => ?_) (fun c hc nw hin => ?_)
    · simp only [List.mem_cons, List.not_mem_nil, or_false] at hc
      rcases hc with rfl | rfl | rfl
      · exact lt _ hd'.1
      · exact lt _ hd'.2.1
      · exact lt _ hd'.2.2
    · simp only [List.mem_cons, List.not_mem_nil, or_false] at hc
      rcases hc with rfl | rfl | rfl
      · exact (hx nw hin).more (Nat.add_le_add_right (m3 _ _ _).1 2)
      · exact (hy nw hin).more (Nat.add_le_add_right (m3 _ _ _).2.1 2)
      · exact (hz nw hin).more (Nat.add_le_add_right (m3 _ _ _).2.2 2)
end
section
theorem kw_Fhol_0 : True := by
  k_with_none
  k_with "vat" => repeat' (first | exact List.forall_mem_nil _ | refine' List.forall_mem_cons.mpr ⟨?_, ?_⟩ | with_unfolding_all rfl)
  k_with "vrest" => first | ((repeat' (first | exact Vars.rest (by assumption) | exact vr_nil | exact vr_base | refine vr_upd ?_ (by with_unfolding_all rfl) | refine vr_set ?_ (by with_unfolding_all rfl))); done) | (intro zzz hzzz; (simp only [List.contains_cons, List.contains_nil, Bool.or_false, Bool.or_eq_false_iff, beq_eq_false_iff_ne, ne_eq] at hzzz); (simp [hzzz, upd, setL, baseOf, List.lookup]))
  k_with "exec For Name Name cons nil" => (refine' wpAny_For ?h ?hs; (case hs => (intro _; with_unfolding_all rfl)))
  k_with "exec For Name Call cons nil" => (refine' wpAny_For ?h ?hs; (case hs => (intro _; with_unfolding_all rfl)))
  k_with "exec For Name Attribute cons nil" => (refine' wpAny_For ?h ?hs; (case hs => (intro _; with_unfolding_all rfl)))
  k_with "sol" => all_goals (try (first | k_is | exact rfl | decide))
  k_with "sz" => first | omega | (simp only [List.length_append, List.length_cons, List.length_nil, List.length_map, List.length_replicate, List.length_reverse, List.length_set]; omega)
  k_with "sub" => first | exact Sub.refl _ | with_reducible assumption | exact Sub.nil | (refine Sub.cons ?_; k_extra "sub") | (refine Sub.trans (by with_reducible assumption) ?_; k_extra "sub") | fail "sub"
  k_with "member" => assumption
  k_with "ite" => first | with_reducible refine ite_tt ?_ | with_reducible refine ite_ff ?_
  k_with "execs nil" => refine wpAny_execs_nil ?_
  k_with "dp" => first | exact dpLe | omega
  k_with "un" => first | exact unLe | omega
  k_with "storeName" => (k_here; k_dflt (first | (refine' storeI ?_; intro q1zz) | (refine' storeS ?_; intro q1zz) | (refine' storeF ?_; intro q1zz) | refine' storeR ?_); k_whole; intro hpzz kpzz mpzz Fpzz Npzz; (try k_sweep))
  k_with "execs cons" => first | refine lastK ?_ | (refine cutK ?_; intro Qzz azz) | (refine enterK ?_; intro Qzz azz)
  k_with "KQ" => first | refine nextK (by assumption) ?_ | refine retK (by assumption) ?_ | refine impK (by assumption) ?_ | refine contK (by assumption) ?_ | refine brkK (by assumption) ?_
  k_with "KS" => refine stopK (by assumption) ?_
  k_with "exec If" => (refine ifK ?_; intro Qzz azz)
  k_with "KB" => refine ifB (by assumption) ?_
  k_with "KV" => refine stopV (by assumption) ?_
  k_with "exec While" => refine wpAny_While ?_
  k_with "exec While Compare" => refine wpAny_While ?_
  k_with "exec While BoolOp" => refine wpAny_While ?_
  k_with "eval ListComp" => (k_here; (with_reducible show wpAny _ _ (eval (PySem.Expr.ListComp _ [PySem.Comprehension.mk _ _ [] 0] _ _) _) _ _ _); k_dflt (refine LCg.ListComp_U (F₀ := by k_asm) (by with_unfolding_all rfl) (by decide) (by rfl) (by decide) (by rfl) ?_))
  k_with "eval ListComp" => (k_here; (with_reducible show wpAny _ _ (eval (PySem.Expr.ListComp _ [PySem.Comprehension.mk _ _ [_] 0] _ _) _) _ _ _); k_dflt (refine LCt.ListComp_T (F₀ := by k_asm) (by with_unfolding_all rfl) (by decide) (by rfl) (by decide) (by rfl) ?_))
  k_with "exec Assign cons ListComp" => (k_here; (with_reducible show wpAny _ _ (exec (PySem.Stmt.Assign [_] (PySem.Expr.ListComp _ [PySem.Comprehension.mk _ _ [] 0] _ _) _) _) _ _ _); k_dflt (refine LCg.Assign_ListComp_U (F₀ := by k_asm) (by rfl) (by with_unfolding_all rfl) (by with_unfolding_all rfl) (by decide) (by rfl) (by decide) (by rfl) (by rfl) (by rfl) ?_))
  k_with "exec Assign cons ListComp" => (k_here; (with_reducible show wpAny _ _ (exec (PySem.Stmt.Assign [_] (PySem.Expr.ListComp _ [PySem.Comprehension.mk _ _ [_] 0] _ _) _) _) _ _ _); k_dflt (refine LCt.Assign_ListComp_T (F₀ := by k_asm) (by rfl) (by with_unfolding_all rfl) (by with_unfolding_all rfl) (by decide) (by rfl) (by decide) (by rfl) (by rfl) (by rfl) ?_))
  k_with "CompSrc" => (k_here; refine Hold.mk ?_)
  k_with "CompSrcT" => (k_here; refine Hold.mk ?_)
  k_with "CompEnd" => (k_here; refine Hold.mk ?_)
  k_with "FinA" => (k_here; refine Hold.mk ?_)
  k_with "FinE" => (k_here; refine Hold.mk ?_)
  k_with "loadName" => (k_here; k_dflt (refine' ldnX ?k1 ?k2 ?_; (case k1 => k_asm); (case k2 => exact rfl); k_whole))
  k_with "newTuple" => (k_here; k_dflt (refine' tupR ?_); intro Dpzz hpzz kpzz Fpzz Npzz l1zz; (try k_lt l1zz); (try k_sweep))
  k_with "mem" => first | exact List.Mem.head _ | with_reducible assumption | (refine' List.mem_cons_of_mem _ ?_; k_extra "mem") | (refine' Sub.mem ?s ?m; (case s => with_reducible assumption); (case m => k_extra "mem")) | fail "mem"
  k_with "member" => k_extra "mem"
  k_with "subscriptTail" => (k_here; (with_reducible show wpAny _ _ (subscriptTail _ _ (Value.ref _) (gS _ _)) _ _ _); refine Hold.mk ?_)
  k_with "subscriptTail" => (k_here; (with_reducible show wpAny _ _ (subscriptTail _ _ (Value.ref _) (Value.int _ _)) _ _ _); refine' lst_at (h := ?_))
  k_with "call type:int" => (k_here; (with_reducible refine int_digit (by with_reducible assumption) ?_))
  k_with "in" => first | with_reducible assumption | (refine' AT.In.mono ?s ?h; (case h => with_reducible assumption); (case s => first | with_reducible assumption | exact fun p hp => List.mem_cons_of_mem _ hp))
  k_with "compareOp Eq ref ref" => (k_here; first | refine' eq_nn (h := ?_) | refine' eq_gn (h := ?_))
  k_with "compareOp NotEq ref ref" => (k_here; first | refine' ne_nn (h := ?_) | refine' ne_gn (h := ?_))
  k_with "call ref" => (k_here; refine' Spec.go (Post := IntP _ _) (C := by first | with_reducible assumption | assumption) (ret := ?_); rintro r9zz n9zz h9zz tk9zz F9zz N9zz ⟨⟨t9zz, e9zz⟩, d9zz⟩; subst e9zz; subst d9zz)
  k_with "Exists" => (k_here; refine kda_made_str (by k_asm) (by k_asm) (Top.nolimit (by k_asm)) (by rfl) (of_decide_eq_true (by rfl)) (by rfl) ?_; intro hpzz opzz Fpzz Npzz l1zz lopzz hdpzz; (try k_lt l1zz))
  k_with "eval Dict" => (k_here; (with_reducible refine Dict_made_str (by with_unfolding_all rfl) (by k_asm) (by with_unfolding_all rfl) (by with_unfolding_all rfl) (List.cons_ne_nil _ _) (by with_unfolding_all decide) ?_; intro _))
  k_with "exec Assign cons Dict" => (with_reducible refine wpAny_Assign_Name ?_ ?_; rotate_left; with_unfolding_all rfl)
  k_with "call builtin:sorted" => (k_here; refine Hold.mk ?_)
  k_with "call ref" => (k_here; refine' Spec.go (Post := BoolP _ _) (C := by with_reducible first | exact nt_leaf _ | exact nt_gate _ | exact tm_leaf _ | exact tm_gate _) (ret := ?_); rintro r9zz n9zz h9zz tk9zz F9zz N9zz ⟨e9zz, d9zz⟩; subst e9zz; subst d9zz)
  k_with "call ref" => (k_here; refine' Spec.go (Post := BoolP _ _) (C := by with_reducible assumption) (ret := ?_); rintro r9zz n9zz h9zz tk9zz F9zz N9zz ⟨e9zz, d9zz⟩; subst e9zz; subst d9zz)
  k_with "call builtin:len" => (k_here; refine' len_lstM (h := ?_))
  exact True.intro
def Tr.cnt (l : Int) : Tr → Bool
  | .leaf d => decide (l ≤ d)
  | .gate k x y z => decide ((if k = 0 then 1 else if k = 1 then 3 else 2) ≤ (x.cnt l).toNat + (y.cnt l).toNat + (z.cnt l).toNat)
theorem filt3 (x y z : AT) (l : Int) : (([x, y, z].take 3).filter fun c => c.tr.cnt l).length = (x.tr.cnt l).toNat + (y.tr.cnt l).toNat + (z.tr.cnt l).toNat := by
  cases h1 : x.tr.cnt l <;> cases h2 : y.tr.cnt l <;> cases h3 : z.tr.cnt l <;> simp [h1, h2, h3]
theorem kindI_of {k : Nat} (hk : k < 3) : (kindI k = 18 ∧ k = 0) ∨ (kindI k = 19 ∧ k = 1) ∨ (kindI k = 32 ∧ k = 2) := by
  rcases kind3 hk with rfl | rfl | rfl
  · exact .inl ⟨rfl, rfl⟩
  · exact .inr (.inl ⟨rfl, rfl⟩)
  · exact .inr (.inr ⟨rfl, rfl⟩)
set_option maxHeartbeats 8000000 in
theorem hol_leaf {prog : Program} {w : World} {a b : Addr} {d : Nat} {l : Int} {tl : Tok} {news : List (Addr × Obj)} (h : AT.In lI gI news (.leaf a b d)) (hd : d < 9) : Spec prog w 2 229 [.ref a, .int l tl] news (BoolP (Tr.cnt l (.leaf d)) news) := by
  obtain ⟨t, k, k', h1, h2⟩ := h
  refine' Spec.ofC [(Str.ofString "node", .ref a), (Str.ofString "level", .int l tl)] ?_ ?_ ?_ ?_ ?_ ?_ ?_ ?_ ?_
  k_extra "sol"
  intro p loose mean mg mb dp un gd outer A₀ base g L' s cells A1 E1 B F X N Y l0 T hdp hun
  have hobt := CellsAre.one Y
  obtain ⟨o1, hE, d1⟩ := hobt
  subst hE; clear Y
  have e1 : o1.data = .cell (some (.int l tl)) := d1
  clear d1
  have F0 : Fr g L' s.heap (setL (fun _ => none) [(Str.ofString "node", .ref a)]) := F
  have N0 : News g L' s.heap ((L' + 1, o1) :: news) := N
  clear F N
  k_steps
  refine doneB (by assumption) (by assumption) (fun p hp => .tail _ hp) ?_
  show decide _ = decide (l ≤ (d : Int))
  congr 1
  simp only [eq_iff_iff]; lia
set_option maxHeartbeats 8000000 in
theorem hol_gate {prog : Program} {w : World} {a b : Addr} {k : Nat} {x y z : AT} {n : Nat} {l : Int} {tl : Tok} {news : List (Addr × Obj)} (h : AT.In lI gI news (.gate a b k x y z)) (hk : k < 3)
    (ih : ∀ c ∈ [x, y, z], ∀ nw, c.In lI gI nw → Spec prog w (n + 1) 229 [.ref c.addr, .int l tl] nw (BoolP (c.tr.cnt l) nw)) : Spec prog w (n + 2) 229 [.ref a, .int l tl] news (BoolP (Tr.cnt l (.gate k x.tr y.tr z.tr)) news) := by
  obtain ⟨t, kc, kc', h1, h2, hx, hy, hz⟩ := h
  refine' Spec.ofC [(Str.ofString "node", .ref a), (Str.ofString "level", .int l tl)] ?_ ?_ ?_ ?_ ?_ ?_ ?_ ?_ ?_
  k_extra "sol"
  intro p loose mean mg mb dp un gd outer A₀ base g L' s cells A1 E1 B F X N Y l0 T hdp hun
  have hobt := CellsAre.one Y
  obtain ⟨o1, hE, d1⟩ := hobt
  subst hE; clear Y
  have e1 : o1.data = .cell (some (.int l tl)) := d1
  clear d1
  have F0 : Fr g L' s.heap (setL (fun _ => none) [(Str.ofString "node", .ref a)]) := F
  have N0 : News g L' s.heap ((L' + 1, o1) :: news) := N
  clear F N
  k_steps
  (try dsimp only)
  rename Fr _ _ _ _ => F4
  rename News _ _ _ _ => N4
  (try dsimp only at N4 F4)
  refine Hold.un ?_
  refine' LCt.CompSrcT.ledger ?hh F4 N4 ?hm ?hsz ?_
  case hm => k_extra "mem"
  case hh => rfl
  case hsz => rw [sizeLine_eq]; exact (by decide : 3 ≤ 16777216)
  intro g'
  refine comp_turnsT 3 (fun j ys nw => nw = NewsOf N4 ∧ ys.length = ((([x, y, z].take j).filter fun c => c.tr.cnt l).length)) ?_ ?_ _ 0 [] _ rfl ⟨rfl, rfl⟩
  · rintro ys nw ⟨rfl, hys⟩
    intro D h tk F6 N6 od
    clear F4
    have hle : ((([x, y, z].take 3).filter fun c => c.tr.cnt l).length) ≤ 3 := Nat.le_trans (List.length_filter_le _ _) (by simp)
    have hkk := kindI_of hk
    k_steps
    all_goals
      first
      | (exfalso; rcases hkk with h | h | h <;> exact absurd h.1 (by assumption))
      | (refine doneB (by assumption) (by assumption) (fun p hp => by k_extra "mem") ?_
         rw [filt3]
         show _ = decide _
         congr 1
         simp only [eq_iff_iff]
         rcases kind3 hk with rfl | rfl | rfl <;> first
           | exact Int.ofNat_le (m := 1)
           | exact Int.ofNat_le (m := 3)
           | exact Int.ofNat_le (m := 2)
           | exact absurd ‹kindI 0 = 19› (by decide)
           | exact absurd ‹kindI 1 = 18› (by decide)
           | exact absurd ‹kindI 2 = 18› (by decide)
           | exact absurd ‹kindI 2 = 19› (by decide)
           | exact absurd rfl ‹¬ kindI 0 = 18›
           | exact absurd rfl ‹¬ kindI 1 = 19›)
  · rintro j v ys nw I2 oI2 C2 oC2 D2 m₂ h2 tk2 E' hj hv ⟨rfl, hys⟩ hC hx2 F7 N7 o7 ne QC aC
    have hobt := kid3 hv
    obtain ⟨c, hc, rfl⟩ := hobt
    have cm := List.mem_of_getElem? hc
    have cin : c.In lI gI (NewsOf N7) := by
      refine AT.In.mono (n := news) (fun p hp => ?_) ?_
      · k_extra "mem"
      · simp only [List.mem_cons, List.not_mem_nil, or_false] at cm
        rcases cm with rfl | rfl | rfl <;> assumption
    have S7 := ih c cm _ cin
    clear F4 ih
    have ht : ((([x, y, z].take (j + 1)).filter fun c => c.tr.cnt l).length) = ((([x, y, z].take j).filter fun c => c.tr.cnt l).length) + (c.tr.cnt l).toNat := by
      rw [List.take_add_one, hc, List.filter_append, List.length_append]
      congr 1
      cases h1 : c.tr.cnt l <;> simp [h1]
    k_steps
    · rename (c.tr.cnt l = true) => hb
      refine Hold.un ⟨_, _, _, rfl, by assumption, by assumption, o7, .inr ⟨_, by k_extra "mem", rfl, _, rfl⟩, rfl, ?_⟩
      show (ys ++ [_]).length = _
      rw [ht, hb, List.length_append, hys]; rfl
    · rename (c.tr.cnt l = false) => hb
      refine Hold.un ⟨_, _, _, rfl, by assumption, by assumption, o7, .inr ⟨_, by k_extra "mem", rfl, _, rfl⟩, rfl, ?_⟩
      rw [ht, hb, hys]; rfl
theorem hol_spec {prog : Program} {w : World} {l : Int} {tl : Tok} : ∀ (t : AT), t.tr.ok → ∀ nw, t.In lI gI nw → Spec prog w (t.tr.dep + 2) 229 [.ref t.addr, .int l tl] nw (BoolP (t.tr.cnt l) nw)
  | .leaf a b d, ok, nw, h => hol_leaf h ok
  | .gate a b k x y z, ok, nw, h => by
    have hx := hol_spec (prog := prog) (w := w) (l := l) (tl := tl) x ok.2.1
    have hy := hol_spec (prog := prog) (w := w) (l := l) (tl := tl) y ok.2.2.1
    have hz := hol_spec (prog := prog) (w := w) (l := l) (tl := tl) z ok.2.2.2
    refine hol_gate (n := max x.tr.dep (max y.tr.dep z.tr.dep) + 1) h ok.1 (fun c hc nw hin => ?_)
    simp only [List.mem_cons, List.not_mem_nil, or_false] at hc
    rcases hc with rfl | rfl | rfl
    · exact (hx nw hin).more (Nat.add_le_add_right (m3 _ _ _).1 2)
    · exact (hy nw hin).more (Nat.add_le_add_right (m3 _ _ _).2.1 2)
    · exact (hz nw hin).more (Nat.add_le_add_right (m3 _ _ _).2.2 2)
end
section
theorem kw_Kfl_0 : True := by
  k_with_none
  k_with "vat" => repeat' (first | exact List.forall_mem_nil _ | refine' List.forall_mem_cons.mpr ⟨?_, ?_⟩ | with_unfolding_all rfl)
  k_with "vrest" => first | ((repeat' (first | exact Vars.rest (by assumption) | exact vr_nil | exact vr_base | refine vr_upd ?_ (by with_unfolding_all rfl) | refine vr_set ?_ (by with_unfolding_all rfl))); done) | (intro zzz hzzz; (simp only [List.contains_cons, List.contains_nil, Bool.or_false, Bool.or_eq_false_iff, beq_eq_false_iff_ne, ne_eq] at hzzz); (simp [hzzz, upd, setL, baseOf, List.lookup]))
  k_with "exec For Name Name cons nil" => (refine' wpAny_For ?h ?hs; (case hs => (intro _; with_unfolding_all rfl)))
  k_with "exec For Name Call cons nil" => (refine' wpAny_For ?h ?hs; (case hs => (intro _; with_unfolding_all rfl)))
  k_with "exec For Name Attribute cons nil" => (refine' wpAny_For ?h ?hs; (case hs => (intro _; with_unfolding_all rfl)))
  k_with "sol" => all_goals (try (first | k_is | exact rfl | decide))
  k_with "sz" => first | omega | (simp only [List.length_append, List.length_cons, List.length_nil, List.length_map, List.length_replicate, List.length_reverse, List.length_set]; omega)
  k_with "sub" => first | exact Sub.refl _ | with_reducible assumption | exact Sub.nil | (refine Sub.cons ?_; k_extra "sub") | (refine Sub.trans (by with_reducible assumption) ?_; k_extra "sub") | fail "sub"
  k_with "member" => assumption
  k_with "ite" => first | with_reducible refine ite_tt ?_ | with_reducible refine ite_ff ?_
  k_with "execs nil" => refine wpAny_execs_nil ?_
  k_with "dp" => first | exact dpLe | omega
  k_with "un" => first | exact unLe | omega
  k_with "storeName" => (k_here; k_dflt (first | (refine' storeI ?_; intro q1zz) | (refine' storeS ?_; intro q1zz) | (refine' storeF ?_; intro q1zz) | refine' storeR ?_); k_whole; intro hpzz kpzz mpzz Fpzz Npzz; (try k_sweep))
  k_with "execs cons" => first | refine lastK ?_ | (refine cutK ?_; intro Qzz azz) | (refine enterK ?_; intro Qzz azz)
  k_with "KQ" => first | refine nextK (by assumption) ?_ | refine retK (by assumption) ?_ | refine impK (by assumption) ?_ | refine contK (by assumption) ?_ | refine brkK (by assumption) ?_
  k_with "KS" => refine stopK (by assumption) ?_
  k_with "exec If" => (refine ifK ?_; intro Qzz azz)
  k_with "KB" => refine ifB (by assumption) ?_
  k_with "KV" => refine stopV (by assumption) ?_
  exact True.intro
open PySem.Flt
section
variable {prog : Program} {w : World} {A : Around} {E : Value → Shared → Prop} {s : Shared} {Q : Value → Shared → Prop}
theorem max_three_num {a b c : Value} (hh : A.handled = none) (ha : NumV a) (hb : NumV b) (hc : NumV c)
    (h : ∀ h' tk, (∀ d o, s.heap.get? d = some o → h'.get? d = some o) → Q (if ltV a b then (if ltV b c then c else b) else (if ltV a c then c else a)) { s with heap := h', toks := tk }) :
    wpAny (model prog w) A (call (.builtin "max") [a, b, c]) Q E s := by
  have hT : (s.heap.push { cls := .type "tuple", data := .seq #[a, b, c] }).IsTuple s.heap.objs.size #[a, b, c] := ⟨_, Heap.get?_push_size _ rfl, rfl, 0, rfl⟩
  refine call_max_three (wpAny_pyIter_tuple hT ?_)
  have hsz : (s.heap.push { cls := .type "tuple", data := .seq #[a, b, c] }).objs.size = s.heap.objs.size + 1 := Heap.size_push ..
  refine ⟨_, [_, s.heap.objs.size], [_], _, _, _, _, rfl, Walks.tuple (A := A.in1) hh _ s.heap.objs.size (by rw [hsz]; exact Nat.ne_of_lt (Nat.lt_succ_self _)) #[a, b, c],
    ⟨⟨_, Heap.get?_push_size _ rfl, rfl, rfl⟩, hT.push _⟩, fun d hd => ?_, by simp, cmpOf_gt #[a, b, c] (by simp [ha, hb, hc]), fun v h' tk hP hk => ?_⟩
  · show d < ((s.heap.push _).push _).objs.size
    rw [Heap.size_push, hsz]
    rcases List.mem_cons.mp hd with rfl | hd
    · rw [hsz]; exact Nat.lt_succ_self _
    · rcases List.mem_cons.mp hd with rfl | hd
      · exact Nat.lt_succ_of_lt (Nat.lt_succ_self _)
      · cases hd
  · have hold : ∀ d o, s.heap.get? d = some o → h'.get? d = some o := fun d o e => by
      refine hk d o (fun hm => ?_) (Heap.get?_push_of_some _ (Heap.get?_push_of_some _ e))
      rcases List.mem_cons.mp hm with e1 | hm
      · have := Heap.lt_size e; rw [e1, hsz] at this; exact Nat.lt_irrefl _ (Nat.lt_of_succ_lt this)
      · cases hm
    have := h h' tk hold
    have hv : v = if ltV a b then (if ltV b c then c else b) else (if ltV a c then c else a) := by
      cases h1 : ltV a b <;> cases h2 : ltV b c <;> cases h3 : ltV a c <;> simp [argBest, h1, h2, h3] at hP <;> simp [hP]
    rw [hv]; exact this
theorem min_three_num {a b c : Value} (hh : A.handled = none) (ha : NumV a) (hb : NumV b) (hc : NumV c)
    (h : ∀ h' tk, (∀ d o, s.heap.get? d = some o → h'.get? d = some o) → Q (if ltV b a then (if ltV c b then c else b) else (if ltV c a then c else a)) { s with heap := h', toks := tk }) :
    wpAny (model prog w) A (call (.builtin "min") [a, b, c]) Q E s := by
  have hT : (s.heap.push { cls := .type "tuple", data := .seq #[a, b, c] }).IsTuple s.heap.objs.size #[a, b, c] := ⟨_, Heap.get?_push_size _ rfl, rfl, 0, rfl⟩
  refine call_min_three (wpAny_pyIter_tuple hT ?_)
  have hsz : (s.heap.push { cls := .type "tuple", data := .seq #[a, b, c] }).objs.size = s.heap.objs.size + 1 := Heap.size_push ..
  refine ⟨_, [_, s.heap.objs.size], [_], _, _, _, _, rfl, Walks.tuple (A := A.in1) hh _ s.heap.objs.size (by rw [hsz]; exact Nat.ne_of_lt (Nat.lt_succ_self _)) #[a, b, c],
    ⟨⟨_, Heap.get?_push_size _ rfl, rfl, rfl⟩, hT.push _⟩, fun d hd => ?_, by simp, cmpOf_lt #[a, b, c] (by simp [ha, hb, hc]), fun v h' tk hP hk => ?_⟩
  · show d < ((s.heap.push _).push _).objs.size
    rw [Heap.size_push, hsz]
    rcases List.mem_cons.mp hd with rfl | hd
    · rw [hsz]; exact Nat.lt_succ_self _
    · rcases List.mem_cons.mp hd with rfl | hd
      · exact Nat.lt_succ_of_lt (Nat.lt_succ_self _)
      · cases hd
  · have hold : ∀ d o, s.heap.get? d = some o → h'.get? d = some o := fun d o e => by
      refine hk d o (fun hm => ?_) (Heap.get?_push_of_some _ (Heap.get?_push_of_some _ e))
      rcases List.mem_cons.mp hm with e1 | hm
      · have := Heap.lt_size e; rw [e1, hsz] at this; exact Nat.lt_irrefl _ (Nat.lt_of_succ_lt this)
      · cases hm
    have := h h' tk hold
    have hv : v = if ltV b a then (if ltV c b then c else b) else (if ltV c a then c else a) := by
      cases h1 : ltV b a <;> cases h2 : ltV c b <;> cases h3 : ltV c a <;> simp [argBest, h1, h2, h3] at hP <;> simp [hP]
    rw [hv]; exact this
end
def ltF (x y : UInt64) : Bool := Float64.cmp x y == some .lt
def eqF (x y : UInt64) : Bool := Float64.cmp x y == some .eq
def mxF (x y z : UInt64) : UInt64 := if ltF x y then (if ltF y z then z else y) else (if ltF x z then z else x)
def mnF (x y z : UInt64) : UInt64 := if ltF y x then (if ltF z y then z else y) else (if ltF z x then z else x)
section
variable {prog : Program} {w : World} {A : Around} {E : Value → Shared → Prop} {s : Shared} {Q : Value → Shared → Prop} {h₀ : Heap} {L : Addr} {m : Str → Option Value} {news : List (Addr × Obj)} {x y z : UInt64} {t u v : Tok}
theorem max3_f (hh : A.handled = none := by rfl) (F : Fr h₀ L s.heap m := by k_asm) (N : News h₀ L s.heap news := by k_asm)
    (h : ∀ h' tk k, Fr h₀ L h' m → News h₀ L h' news → Q (.float (mxF x y z) k) { s with heap := h', toks := tk }) : wpAny (model prog w) A (call (.builtin "max") [.float x t, .float y u, .float z v]) Q E s := by
  refine max_three_num hh (.float x t) (.float y u) (.float z v) fun h' tk kp => ?_
  have e : ∃ k, (if ltV (.float x t) (.float y u) then (if ltV (.float y u) (.float z v) then Value.float z v else .float y u) else (if ltV (.float x t) (.float z v) then .float z v else .float x t)) = .float (mxF x y z) k := by
    show ∃ k, (if ltF x y then (if ltF y z then Value.float z v else .float y u) else (if ltF x z then .float z v else .float x t)) = _
    unfold mxF
    cases ltF x y <;> cases ltF y z <;> cases ltF x z <;> exact ⟨_, rfl⟩
  obtain ⟨k, e⟩ := e
  rw [e]; exact h h' tk k (F.grownK kp) (N.grown kp)
theorem min3_f (hh : A.handled = none := by rfl) (F : Fr h₀ L s.heap m := by k_asm) (N : News h₀ L s.heap news := by k_asm)
    (h : ∀ h' tk k, Fr h₀ L h' m → News h₀ L h' news → Q (.float (mnF x y z) k) { s with heap := h', toks := tk }) : wpAny (model prog w) A (call (.builtin "min") [.float x t, .float y u, .float z v]) Q E s := by
  refine min_three_num hh (.float x t) (.float y u) (.float z v) fun h' tk kp => ?_
  have e : ∃ k, (if ltV (.float y u) (.float x t) then (if ltV (.float z v) (.float y u) then Value.float z v else .float y u) else (if ltV (.float z v) (.float x t) then .float z v else .float x t)) = .float (mnF x y z) k := by
    show ∃ k, (if ltF y x then (if ltF z y then Value.float z v else .float y u) else (if ltF z x then .float z v else .float x t)) = _
    unfold mnF
    cases ltF y x <;> cases ltF z y <;> cases ltF z x <;> exact ⟨_, rfl⟩
  obtain ⟨k, e⟩ := e
  rw [e]; exact h h' tk k (F.grownK kp) (N.grown kp)
theorem div_ff (hz : Float64.isZero y = false) (h : Q (.float (Float64.div x y) s.toks) { s with toks := s.toks + 1 }) : wpAny (model prog w) A (binaryOp .Div (.float x t) (.float y u)) Q E s :=
  AutoFloatOps.truediv_1 (by simp [hz]) h
theorem mod_ff1 (hz : Float64.isZero y = false) (h : Q (.float (Float64.divmod x y).2 s.toks) { s with toks := s.toks + 1 }) : wpAny (model prog w) A (binaryOp .Mod (.float x t) (.float y u)) Q E s :=
  AutoFloatOps.mod_1 (by simp [hz]) h
theorem mul_if1 {b : Int} (hz : Float64.isInf (Float64.ofInt b) = false) (h : Q (.float (Float64.mul (Float64.ofInt b) x) s.toks) { s with toks := s.toks + 1 }) : wpAny (model prog w) A (binaryOp .Mult (.int b u) (.float x t)) Q E s :=
  AutoFloatOps.mul_if_1 (by simp [hz]) h
theorem sub_if1 {b : Int} (hz : Float64.isInf (Float64.ofInt b) = false) (h : Q (.float (Float64.sub (Float64.ofInt b) x) s.toks) { s with toks := s.toks + 1 }) : wpAny (model prog w) A (binaryOp .Sub (.int b u) (.float x t)) Q E s :=
  AutoFloatOps.sub_if_1 (by simp [hz]) h
theorem sub_fi1 {b : Int} (hz : Float64.isInf (Float64.ofInt b) = false) (h : Q (.float (Float64.sub x (Float64.ofInt b)) s.toks) { s with toks := s.toks + 1 }) : wpAny (model prog w) A (binaryOp .Sub (.float x t) (.int b u)) Q E s :=
  AutoFloatOps.sub_fi_1 (by simp [hz]) h
theorem div_fi1 {b : Int} (hz : Float64.isInf (Float64.ofInt b) = false) (hz2 : Float64.isZero (Float64.ofInt b) = false) (h : Q (.float (Float64.div x (Float64.ofInt b)) s.toks) { s with toks := s.toks + 1 }) : wpAny (model prog w) A (binaryOp .Div (.float x t) (.int b u)) Q E s :=
  AutoFloatOps.truediv_fi_2 (by simp [hz]) (by simp [hz2]) h
def rndF (x : UInt64) : Int := toInt Float64.nearestOf x
theorem finite_not {x : UInt64} (h : Float64.isFinite x = true) : Float64.isNaN x = false ∧ Float64.isInf x = false := by
  unfold Float64.isFinite at h; unfold Float64.isNaN Float64.isInf
  cases hd : Float64.decode x <;> rw [hd] at h <;> simp_all
theorem round_f (hh : A.handled = none) (hz : Float64.isFinite x = true) (h : Q (.int (rndF x) s.toks) { s with toks := s.toks + 1 }) : wpAny (model prog w) A (call (.builtin "round") [.float x t]) Q E s :=
  call_round_float hh (fun e => by rw [(finite_not hz).1] at e; cases e) (fun e => by rw [(finite_not hz).2] at e; cases e) fun _ => h
end
abbrev c2F : UInt64 := 4611686018427387904
abbrev c4F : UInt64 := 4616189618054758400
abbrev c6F : UInt64 := 4618441417868443648
abbrev c1F : UInt64 := 4607182418800017408
abbrev c5F : UInt64 := 4602678819172646912
def hueF (r g b mx rg : UInt64) : UInt64 :=
  (Float64.divmod (Float64.div (if eqF r mx then Float64.sub (Float64.div (Float64.sub mx b) rg) (Float64.div (Float64.sub mx g) rg) else if eqF g mx then Float64.sub (Float64.add c2F (Float64.div (Float64.sub mx r) rg)) (Float64.div (Float64.sub mx b) rg) else Float64.sub (Float64.add c4F (Float64.div (Float64.sub mx g) rg)) (Float64.div (Float64.sub mx r) rg)) c6F) c1F).2
def hsvH (x y z : UInt64) : UInt64 := if eqF (mnF x y z) (mxF x y z) then 0 else hueF x y z (mxF x y z) (Float64.sub (mxF x y z) (mnF x y z))
def hsvS (x y z : UInt64) : UInt64 := if eqF (mnF x y z) (mxF x y z) then 0 else Float64.div (Float64.sub (mxF x y z) (mnF x y z)) (mxF x y z)
def hlsL (x y z : UInt64) : UInt64 := Float64.div (Float64.add (mxF x y z) (mnF x y z)) c2F
def leF (x y : UInt64) : Bool := Float64.cmp x y == some .lt || Float64.cmp x y == some .eq
def hlsS (x y z : UInt64) : UInt64 := if eqF (mnF x y z) (mxF x y z) then 0 else if leF (hlsL x y z) c5F then Float64.div (Float64.sub (mxF x y z) (mnF x y z)) (Float64.add (mxF x y z) (mnF x y z)) else Float64.div (Float64.sub (mxF x y z) (mnF x y z)) (Float64.sub (Float64.sub c2F (mxF x y z)) (mnF x y z))
def FloP (a b c : UInt64) (news : List (Addr × Obj)) (r : Value) (news' : List (Addr × Obj)) : Prop :=
  ∃ l t1 t2 t3 k, r = .ref l ∧ Sub ((l, ({ cls := .type "tuple", data := .seq [Value.float a t1, .float b t2, .float c t3].toArray k } : Obj)) :: news) news'
structure OkF (x y z : UInt64) : Prop where
  r : eqF (mnF x y z) (mxF x y z) = false → Float64.isZero (Float64.sub (mxF x y z) (mnF x y z)) = false
  m : eqF (mnF x y z) (mxF x y z) = false → Float64.isZero (mxF x y z) = false
  a : eqF (mnF x y z) (mxF x y z) = false → leF (hlsL x y z) c5F = true → Float64.isZero (Float64.add (mxF x y z) (mnF x y z)) = false
  b : eqF (mnF x y z) (mxF x y z) = false → leF (hlsL x y z) c5F = false → Float64.isZero (Float64.sub (Float64.sub c2F (mxF x y z)) (mnF x y z)) = false
theorem neg_true {b : Bool} (h : ¬ b = true) : b = false := by cases b; rfl; exact absurd rfl h
end
section
theorem kw_Fhsv_0 : True := by
  k_with_none
  k_with "vat" => repeat' (first | exact List.forall_mem_nil _ | refine' List.forall_mem_cons.mpr ⟨?_, ?_⟩ | with_unfolding_all rfl)
  k_with "vrest" => first | ((repeat' (first | exact Vars.rest (by assumption) | exact vr_nil | exact vr_base | refine vr_upd ?_ (by with_unfolding_all rfl) | refine vr_set ?_ (by with_unfolding_all rfl))); done) | (intro zzz hzzz; (simp only [List.contains_cons, List.contains_nil, Bool.or_false, Bool.or_eq_false_iff, beq_eq_false_iff_ne, ne_eq] at hzzz); (simp [hzzz, upd, setL, baseOf, List.lookup]))
  k_with "exec For Name Name cons nil" => (refine' wpAny_For ?h ?hs; (case hs => (intro _; with_unfolding_all rfl)))
  k_with "exec For Name Call cons nil" => (refine' wpAny_For ?h ?hs; (case hs => (intro _; with_unfolding_all rfl)))
  k_with "exec For Name Attribute cons nil" => (refine' wpAny_For ?h ?hs; (case hs => (intro _; with_unfolding_all rfl)))
  k_with "sol" => all_goals (try (first | k_is | exact rfl | decide))
  k_with "sz" => first | omega | (simp only [List.length_append, List.length_cons, List.length_nil, List.length_map, List.length_replicate, List.length_reverse, List.length_set]; omega)
  k_with "sub" => first | exact Sub.refl _ | with_reducible assumption | exact Sub.nil | (refine Sub.cons ?_; k_extra "sub") | (refine Sub.trans (by with_reducible assumption) ?_; k_extra "sub") | fail "sub"
  k_with "member" => assumption
  k_with "ite" => first | with_reducible refine ite_tt ?_ | with_reducible refine ite_ff ?_
  k_with "execs nil" => refine wpAny_execs_nil ?_
  k_with "dp" => first | exact dpLe | omega
  k_with "un" => first | exact unLe | omega
  k_with "storeName" => (k_here; k_dflt (first | (refine' storeI ?_; intro q1zz) | (refine' storeS ?_; intro q1zz) | (refine' storeF ?_; intro q1zz) | refine' storeR ?_); k_whole; intro hpzz kpzz mpzz Fpzz Npzz; (try k_sweep))
  k_with "execs cons" => first | refine lastK ?_ | (refine cutK ?_; intro Qzz azz) | (refine enterK ?_; intro Qzz azz)
  k_with "KQ" => first | refine nextK (by assumption) ?_ | refine retK (by assumption) ?_ | refine impK (by assumption) ?_ | refine contK (by assumption) ?_ | refine brkK (by assumption) ?_
  k_with "KS" => refine stopK (by assumption) ?_
  k_with "exec If" => (refine ifK ?_; intro Qzz azz)
  k_with "KB" => refine ifB (by assumption) ?_
  k_with "KV" => refine stopV (by assumption) ?_
  k_with "call builtin:max" => (k_here; refine' max3_f (h := ?_); intro hpzz tkpzz tpzz Fpzz Npzz)
  k_with "call builtin:min" => (k_here; refine' min3_f (h := ?_); intro hpzz tkpzz tpzz Fpzz Npzz)
  k_with "binaryOp Div float float" => (k_here; first | (refine div_ff (by decide +kernel) ?_) | (refine div_ff (by with_reducible assumption) ?_) | refine Hold.mk ?_)
  k_with "binaryOp Mod float float" => (k_here; first | (refine mod_ff1 (by decide +kernel) ?_) | refine Hold.mk ?_)
  exact True.intro
set_option maxHeartbeats 8000000 in
theorem hsv_spec {prog : Program} {w : World} {x y z : UInt64} {t1 t2 t3 : Tok} (ok : OkF x y z) (news : List (Addr × Obj)) :
    Spec prog w 1 135 [.float x t1, .float y t2, .float z t3] news (FloP (hsvH x y z) (hsvS x y z) (mxF x y z) news) := by
  refine' Spec.of [(Str.ofString "r", .float x t1), (Str.ofString "g", .float y t2), (Str.ofString "b", .float z t3)] ?_ ?_ ?_ ?_ ?_ ?_ ?_ ?_ ?_
  k_extra "sol"
  intro p loose mean mg mb dp un gd outer A₀ base g L' s A1 m0 E1 B F X N T hdp hun
  k_steps
  · rename ((_ == _) = true) => hc
    have hm : eqF (mnF x y z) (mxF x y z) = true := hc
    have e1 : hsvH x y z = 0 := by unfold hsvH; rw [if_pos hm]
    have e2 : hsvS x y z = 0 := by unfold hsvS; rw [if_pos hm]
    rename News _ _ _ _ => N8
    rw [e1, e2]
    exact ⟨Same.mk, _, _, by assumption, N8, _, _, _, _, _, rfl, Sub.refl _⟩
  have hf : eqF (mnF x y z) (mxF x y z) = false := by assumption
  have hm : ¬ eqF (mnF x y z) (mxF x y z) = true := Bool.eq_false_iff.mp hf
  have hz1 := ok.m hf
  have hz2 := ok.r hf
  have e1 : hsvH x y z = hueF x y z (mxF x y z) (Float64.sub (mxF x y z) (mnF x y z)) := by unfold hsvH; rw [if_neg hm]
  have e2 : hsvS x y z = Float64.div (Float64.sub (mxF x y z) (mnF x y z)) (mxF x y z) := by unfold hsvS; rw [if_neg hm]
  refine Hold.un (div_ff hz1 ?_)
  k_steps
  · rename ((_ == _) = true) => hc
    have hc2 : eqF x (mxF x y z) = true := hc
    rw [e1, e2]; unfold hueF; rw [if_pos hc2]
    rename News _ _ _ _ => N8
    exact ⟨Same.mk, _, _, by assumption, N8, _, _, _, _, _, rfl, Sub.refl _⟩
  · rename ((_ == _) = true) => hc
    have hc2 : eqF y (mxF x y z) = true := hc
    have hc3 : ¬ eqF x (mxF x y z) = true := Bool.eq_false_iff.mp (by assumption)
    rw [e1, e2]; unfold hueF; rw [if_neg hc3, if_pos hc2]
    rename News _ _ _ _ => N8
    exact ⟨Same.mk, _, _, by assumption, N8, _, _, _, _, _, rfl, Sub.refl _⟩
  · have hc2 : ¬ eqF y (mxF x y z) = true := Bool.eq_false_iff.mp (by assumption)
    have hc3 : ¬ eqF x (mxF x y z) = true := Bool.eq_false_iff.mp (by assumption)
    rw [e1, e2]; unfold hueF; rw [if_neg hc3, if_neg hc2]
    rename News _ _ _ _ => N8
    exact ⟨Same.mk, _, _, by assumption, N8, _, _, _, _, _, rfl, Sub.refl _⟩
end
section
theorem kw_Fhls_0 : True := by
  k_with_none
  k_with "vat" => repeat' (first | exact List.forall_mem_nil _ | refine' List.forall_mem_cons.mpr ⟨?_, ?_⟩ | with_unfolding_all rfl)
  k_with "vrest" => first | ((repeat' (first | exact Vars.rest (by assumption) | exact vr_nil | exact vr_base | refine vr_upd ?_ (by with_unfolding_all rfl) | refine vr_set ?_ (by with_unfolding_all rfl))); done) | (intro zzz hzzz; (simp only [List.contains_cons, List.contains_nil, Bool.or_false, Bool.or_eq_false_iff, beq_eq_false_iff_ne, ne_eq] at hzzz); (simp [hzzz, upd, setL, baseOf, List.lookup]))
  k_with "exec For Name Name cons nil" => (refine' wpAny_For ?h ?hs; (case hs => (intro _; with_unfolding_all rfl)))
  k_with "exec For Name Call cons nil" => (refine' wpAny_For ?h ?hs; (case hs => (intro _; with_unfolding_all rfl)))
  k_with "exec For Name Attribute cons nil" => (refine' wpAny_For ?h ?hs; (case hs => (intro _; with_unfolding_all rfl)))
  k_with "sol" => all_goals (try (first | k_is | exact rfl | decide))
  k_with "sz" => first | omega | (simp only [List.length_append, List.length_cons, List.length_nil, List.length_map, List.length_replicate, List.length_reverse, List.length_set]; omega)
  k_with "sub" => first | exact Sub.refl _ | with_reducible assumption | exact Sub.nil | (refine Sub.cons ?_; k_extra "sub") | (refine Sub.trans (by with_reducible assumption) ?_; k_extra "sub") | fail "sub"
  k_with "member" => assumption
  k_with "ite" => first | with_reducible refine ite_tt ?_ | with_reducible refine ite_ff ?_
  k_with "execs nil" => refine wpAny_execs_nil ?_
  k_with "dp" => first | exact dpLe | omega
  k_with "un" => first | exact unLe | omega
  k_with "storeName" => (k_here; k_dflt (first | (refine' storeI ?_; intro q1zz) | (refine' storeS ?_; intro q1zz) | (refine' storeF ?_; intro q1zz) | refine' storeR ?_); k_whole; intro hpzz kpzz mpzz Fpzz Npzz; (try k_sweep))
  k_with "execs cons" => first | refine lastK ?_ | (refine cutK ?_; intro Qzz azz) | (refine enterK ?_; intro Qzz azz)
  k_with "KQ" => first | refine nextK (by assumption) ?_ | refine retK (by assumption) ?_ | refine impK (by assumption) ?_ | refine contK (by assumption) ?_ | refine brkK (by assumption) ?_
  k_with "KS" => refine stopK (by assumption) ?_
  k_with "exec If" => (refine ifK ?_; intro Qzz azz)
  k_with "KB" => refine ifB (by assumption) ?_
  k_with "KV" => refine stopV (by assumption) ?_
  k_with "call builtin:max" => (k_here; refine' max3_f (h := ?_); intro hpzz tkpzz tpzz Fpzz Npzz)
  k_with "call builtin:min" => (k_here; refine' min3_f (h := ?_); intro hpzz tkpzz tpzz Fpzz Npzz)
  k_with "binaryOp Div float float" => (k_here; first | (refine div_ff (by decide +kernel) ?_) | (refine div_ff (by with_reducible assumption) ?_) | refine Hold.mk ?_)
  k_with "binaryOp Mod float float" => (k_here; first | (refine mod_ff1 (by decide +kernel) ?_) | refine Hold.mk ?_)
  k_with "exec If" => (k_here; (with_reducible show wpAny _ _ (exec (PySem.Stmt.If (PySem.Expr.Compare _ [PySem.CmpOp.LtE] _ _) _ _ _) _) _ _ _); refine Hold.mk ?_)
  exact True.intro
set_option maxHeartbeats 8000000 in
theorem hls_spec {prog : Program} {w : World} {x y z : UInt64} {t1 t2 t3 : Tok} (ok : OkF x y z) (news : List (Addr × Obj)) :
    Spec prog w 1 128 [.float x t1, .float y t2, .float z t3] news (FloP (hsvH x y z) (hlsL x y z) (hlsS x y z) news) := by
  refine' Spec.of [(Str.ofString "r", .float x t1), (Str.ofString "g", .float y t2), (Str.ofString "b", .float z t3)] ?_ ?_ ?_ ?_ ?_ ?_ ?_ ?_ ?_
  k_extra "sol"
  intro p loose mean mg mb dp un gd outer A₀ base g L' s A1 m0 E1 B F X N T hdp hun
  k_steps
  · rename ((_ == _) = true) => hc
    have hm : eqF (mnF x y z) (mxF x y z) = true := hc
    have e1 : hsvH x y z = 0 := by unfold hsvH; rw [if_pos hm]
    have e2 : hlsS x y z = 0 := by unfold hlsS; rw [if_pos hm]
    rename News _ _ _ _ => N8
    rw [e1, e2]
    exact ⟨Same.mk, _, _, by assumption, N8, _, _, _, _, _, rfl, Sub.refl _⟩
  have hf : eqF (mnF x y z) (mxF x y z) = false := by assumption
  have hm : ¬ eqF (mnF x y z) (mxF x y z) = true := Bool.eq_false_iff.mp hf
  have hz2 := ok.r hf
  have e1 : hsvH x y z = hueF x y z (mxF x y z) (Float64.sub (mxF x y z) (mnF x y z)) := by unfold hsvH; rw [if_neg hm]
  rename Fr _ _ _ _ => F1
  rename News _ _ _ _ => N1
  refine Hold.un (cutF (nw := news) F1 (Str.ofString "s") (Value.float (hlsS x y z)) ?_ ?_)
  · refine wpAny_If ?_
    k_steps
    · have hl : leF (hlsL x y z) c5F = true := by assumption
      have hz1 := ok.a hf hl
      have e2 : hlsS x y z = Float64.div (Float64.sub (mxF x y z) (mnF x y z)) (Float64.add (mxF x y z) (mnF x y z)) := by unfold hlsS; rw [if_neg hm, if_pos hl]
      refine Hold.un (div_ff hz1 ?_)
      k_steps
      rename Fr _ _ _ _ => F2
      rename News _ _ _ _ => N2
      rw [e2]; exact CutQ.mk F2 N2
    · have hl : leF (hlsL x y z) c5F = false := by assumption
      have hz1 := ok.b hf hl
      have e2 : hlsS x y z = Float64.div (Float64.sub (mxF x y z) (mnF x y z)) (Float64.sub (Float64.sub c2F (mxF x y z)) (mnF x y z)) := by unfold hlsS; rw [if_neg hm, if_neg (by rw [hl]; exact Bool.false_ne_true)]
      refine Hold.un (div_ff hz1 ?_)
      k_steps
      rename Fr _ _ _ _ => F2
      rename News _ _ _ _ => N2
      rw [e2]; exact CutQ.mk F2 N2
  · intro tok h' tk' mc F2 N2
    clear F1 N1
    k_steps
    · rename ((_ == _) = true) => hc
      have hc2 : eqF x (mxF x y z) = true := hc
      rw [e1]; unfold hueF; rw [if_pos hc2]
      rename News _ _ _ _ => N8
      exact ⟨Same.mk, _, _, by assumption, N8, _, _, _, _, _, rfl, Sub.refl _⟩
    · rename ((_ == _) = true) => hc
      have hc2 : eqF y (mxF x y z) = true := hc
      have hc3 : ¬ eqF x (mxF x y z) = true := Bool.eq_false_iff.mp (by assumption)
      rw [e1]; unfold hueF; rw [if_neg hc3, if_pos hc2]
      rename News _ _ _ _ => N8
      exact ⟨Same.mk, _, _, by assumption, N8, _, _, _, _, _, rfl, Sub.refl _⟩
    · have hc2 : ¬ eqF y (mxF x y z) = true := Bool.eq_false_iff.mp (by assumption)
      have hc3 : ¬ eqF x (mxF x y z) = true := Bool.eq_false_iff.mp (by assumption)
      rw [e1]; unfold hueF; rw [if_neg hc3, if_neg hc2]
      rename News _ _ _ _ => N8
      exact ⟨Same.mk, _, _, by assumption, N8, _, _, _, _, _, rfl, Sub.refl _⟩
end
section
theorem kw_Pfl_0 : True := by
  k_with_none
  k_with "vat" => repeat' (first | exact List.forall_mem_nil _ | refine' List.forall_mem_cons.mpr ⟨?_, ?_⟩ | with_unfolding_all rfl)
  k_with "vrest" => first | ((repeat' (first | exact Vars.rest (by assumption) | exact vr_nil | exact vr_base | refine vr_upd ?_ (by with_unfolding_all rfl) | refine vr_set ?_ (by with_unfolding_all rfl))); done) | (intro zzz hzzz; (simp only [List.contains_cons, List.contains_nil, Bool.or_false, Bool.or_eq_false_iff, beq_eq_false_iff_ne, ne_eq] at hzzz); (simp [hzzz, upd, setL, baseOf, List.lookup]))
  k_with "exec For Name Name cons nil" => (refine' wpAny_For ?h ?hs; (case hs => (intro _; with_unfolding_all rfl)))
  k_with "exec For Name Call cons nil" => (refine' wpAny_For ?h ?hs; (case hs => (intro _; with_unfolding_all rfl)))
  k_with "exec For Name Attribute cons nil" => (refine' wpAny_For ?h ?hs; (case hs => (intro _; with_unfolding_all rfl)))
  k_with "sol" => all_goals (try (first | k_is | exact rfl | decide))
  k_with "sz" => first | omega | (simp only [List.length_append, List.length_cons, List.length_nil, List.length_map, List.length_replicate, List.length_reverse, List.length_set]; omega)
  k_with "sub" => first | exact Sub.refl _ | with_reducible assumption | exact Sub.nil | (refine Sub.cons ?_; k_extra "sub") | (refine Sub.trans (by with_reducible assumption) ?_; k_extra "sub") | fail "sub"
  k_with "member" => assumption
  k_with "ite" => first | with_reducible refine ite_tt ?_ | with_reducible refine ite_ff ?_
  k_with "execs nil" => refine wpAny_execs_nil ?_
  k_with "dp" => first | exact dpLe | omega
  k_with "un" => first | exact unLe | omega
  k_with "storeName" => (k_here; k_dflt (first | (refine' storeI ?_; intro q1zz) | (refine' storeS ?_; intro q1zz) | (refine' storeF ?_; intro q1zz) | refine' storeR ?_); k_whole; intro hpzz kpzz mpzz Fpzz Npzz; (try k_sweep))
  k_with "execs cons" => first | refine lastK ?_ | (refine cutK ?_; intro Qzz azz) | (refine enterK ?_; intro Qzz azz)
  k_with "KQ" => first | refine nextK (by assumption) ?_ | refine retK (by assumption) ?_ | refine impK (by assumption) ?_ | refine contK (by assumption) ?_ | refine brkK (by assumption) ?_
  k_with "KS" => refine stopK (by assumption) ?_
  k_with "exec If" => (refine ifK ?_; intro Qzz azz)
  k_with "KB" => refine ifB (by assumption) ?_
  k_with "KV" => refine stopV (by assumption) ?_
  exact True.intro
def forceN {α : Type} (n : Nat) (k : Nat → α) : α := Nat.rec (motive := fun _ => α) (k 0) (fun m _ => k (m + 1)) n
theorem forceN_eq {α : Type} (n : Nat) (k : Nat → α) : forceN n k = k n := by cases n <;> rfl
def forceU {α : Type} (x : UInt64) (k : UInt64 → α) : α := forceN x.toNat fun n => k (UInt64.ofNat n)
theorem forceU_eq {α : Type} (x : UInt64) (k : UInt64 → α) : forceU x k = k x := by unfold forceU; rw [forceN_eq]; congr 1; exact UInt64.ofNat_toNat
def flI (v : Int) : UInt64 := Float64.ofFrac (decide (v < 0) != decide ((8 : Int) < 0)) v.natAbs (8 : Int).natAbs
def hueG (r g b mx rg : UInt64) : UInt64 :=
  forceU (bif eqF r mx then
      forceU (Float64.sub mx b) fun p => forceU (Float64.div p rg) fun bc => forceU (Float64.sub mx g) fun q => forceU (Float64.div q rg) fun gc => Float64.sub bc gc
    else bif eqF g mx then
      forceU (Float64.sub mx r) fun p => forceU (Float64.div p rg) fun rc => forceU (Float64.sub mx b) fun q => forceU (Float64.div q rg) fun bc => forceU (Float64.add c2F rc) fun u => Float64.sub u bc
    else
      forceU (Float64.sub mx g) fun p => forceU (Float64.div p rg) fun gc => forceU (Float64.sub mx r) fun q => forceU (Float64.div q rg) fun rc => forceU (Float64.add c4F gc) fun u => Float64.sub u rc)
    fun h => forceU (Float64.div h c6F) fun h2 => (Float64.divmod h2 c1F).2
theorem hueG_eq (r g b mx rg : UInt64) : hueG r g b mx rg = hueF r g b mx rg := by
  unfold hueG hueF
  simp only [forceU_eq]
  cases eqF r mx <;> cases eqF g mx <;> rfl
def kF (H : UInt64) : Int := rndF (Float64.mul (Float64.ofInt 3) H)
def beyF (H : UInt64) : UInt64 := Float64.sub (Float64.mul (Float64.ofInt 6) H) (Float64.ofInt (2 * kF H))
def spanF (L S : UInt64) : UInt64 := Float64.mul S (Float64.sub (Float64.ofInt 1) (Float64.abs (Float64.sub (Float64.mul (Float64.ofInt 2) L) (Float64.ofInt 1))))
def toldF (L S H : UInt64) : UInt64 := Float64.mul (Float64.ofInt 8) (Float64.add (Float64.sub L (Float64.div (spanF L S) (Float64.ofInt 2))) (Float64.mul (spanF L S) (Float64.abs (beyF H))))
def sideF (H : UInt64) : Int := if (Float64.cmpInt (beyF H) 0 == some .gt) = true then kF H + 1 else kF H - 1
structure BitsF (L H S T mx : UInt64) (a b c M m d : Int) : Prop where
  v1 : Float64.isFinite (Float64.mul (Float64.ofInt 8) mx) = true
  v2 : rndF (Float64.mul (Float64.ofInt 8) mx) = M
  l1 : Float64.isFinite (Float64.mul (Float64.ofInt 16) L) = true
  l2 : rndF (Float64.mul (Float64.ofInt 16) L) = M + m
  h1 : Float64.isFinite (Float64.mul (Float64.ofInt 3) H) = true
  k0 : 0 ≤ kF H
  k3 : kF H ≤ 3
  k1 : Float64.isInf (Float64.ofInt (2 * kF H)) = false
  e1 : Float64.isFinite (Float64.mul (Float64.mul (Float64.mul (Float64.ofInt 8) mx) S) (Float64.abs (beyF H))) = true
  e2 : rndF (Float64.mul (Float64.mul (Float64.mul (Float64.ofInt 8) mx) S) (Float64.abs (beyF H))) = d - m
  t1 : Float64.isFinite (toldF L T H) = true
  t2 : rndF (toldF L T H) = d
  s1 : [a, b, c].getD ((sideF H) % 3).toNat 0 = d
def chkB (L H S T mx : UInt64) (a b c M m d : Int) : Bool :=
  (forceU (Float64.mul (Float64.ofInt 8) mx) fun v8 => Float64.isFinite v8 && decide (rndF v8 = M) &&
  (forceU (Float64.mul (Float64.ofInt 16) L) fun l16 => Float64.isFinite l16 && decide (rndF l16 = M + m) &&
  (forceU (Float64.mul (Float64.ofInt 3) H) fun h3 => Float64.isFinite h3 && decide (0 ≤ rndF h3) &&
  (forceN (rndF h3).toNat fun k => decide (k ≤ 3) && !Float64.isInf (Float64.ofInt (2 * (k : Int))) &&
  (forceU (Float64.mul (Float64.ofInt 6) H) fun h6 => forceU (Float64.sub h6 (Float64.ofInt (2 * (k : Int)))) fun bey => forceU (Float64.abs bey) fun ab =>
  (forceU (Float64.mul v8 S) fun vs => forceU (Float64.mul vs ab) fun e => Float64.isFinite e && decide (rndF e = d - m)) &&
  (forceU (Float64.mul (Float64.ofInt 2) L) fun l2 => forceU (Float64.sub l2 (Float64.ofInt 1)) fun l21 => forceU (Float64.abs l21) fun al => forceU (Float64.sub (Float64.ofInt 1) al) fun oal => forceU (Float64.mul T oal) fun span =>
   forceU (Float64.div span (Float64.ofInt 2)) fun sp2 => forceU (Float64.sub L sp2) fun low => forceU (Float64.mul span ab) fun sa => forceU (Float64.add low sa) fun sm => forceU (Float64.mul (Float64.ofInt 8) sm) fun told =>
   Float64.isFinite told && decide (rndF told = d)) &&
  decide ([a, b, c].getD ((if (Float64.cmpInt bey 0 == some .gt) = true then (k : Int) + 1 else (k : Int) - 1) % 3).toNat 0 = d))))))
theorem chkB_ok {L H S T mx : UInt64} {a b c M m d : Int} (h : chkB L H S T mx a b c M m d = true) : BitsF L H S T mx a b c M m d := by
  unfold chkB at h
  simp only [forceU_eq, forceN_eq, Bool.and_eq_true, decide_eq_true_eq, Bool.not_eq_true'] at h
  obtain ⟨⟨v1, v2⟩, ⟨l1, l2⟩, ⟨h1, k0⟩, ⟨k3, k1⟩, ⟨⟨e1, e2⟩, t1, t2⟩, s1⟩ := h
  have hk : ((rndF (Float64.mul (Float64.ofInt 3) H)).toNat : Int) = kF H := Int.toNat_of_nonneg k0
  rw [hk] at k1 e1 e2 t1 t2 s1
  refine ⟨v1, v2, l1, l2, h1, k0, ?_, k1, e1, e2, t1, t2, s1⟩
  have : ((rndF (Float64.mul (Float64.ofInt 3) H)).toNat : Int) ≤ 3 := by exact_mod_cast k3
  rwa [hk] at this
def maxI (a b c : Int) : Int := max a (max b c)
def minI (a b c : Int) : Int := min a (min b c)
def medI (a b c : Int) : Int := max (min a b) (min (max a b) c)
def chk (a b c : Int) : Bool :=
  forceU (flI a) fun x => forceU (flI b) fun y => forceU (flI c) fun z => forceU (mxF x y z) fun mx => forceU (mnF x y z) fun mn =>
  forceU (Float64.add mx mn) fun sm => forceU (Float64.div sm c2F) fun L =>
  !Float64.isInf x && !Float64.isInf y && !Float64.isInf z &&
  bif eqF mn mx then chkB L 0 0 0 mx a b c (maxI a b c) (minI a b c) (medI a b c)
  else forceU (Float64.sub mx mn) fun rg => !Float64.isZero rg && !Float64.isZero mx && forceU (hueG x y z mx rg) fun H => forceU (Float64.div rg mx) fun S =>
    bif leF L c5F then !Float64.isZero sm && forceU (Float64.div rg sm) fun T => chkB L H S T mx a b c (maxI a b c) (minI a b c) (medI a b c)
    else forceU (Float64.sub (Float64.sub c2F mx) mn) fun dn => !Float64.isZero dn && forceU (Float64.div rg dn) fun T => chkB L H S T mx a b c (maxI a b c) (minI a b c) (medI a b c)
structure LightF (a b c : Int) : Prop where
  i1 : Float64.isInf (flI a) = false
  i2 : Float64.isInf (flI b) = false
  i3 : Float64.isInf (flI c) = false
  ok : OkF (flI a) (flI b) (flI c)
  bits : BitsF (hlsL (flI a) (flI b) (flI c)) (hsvH (flI a) (flI b) (flI c)) (hsvS (flI a) (flI b) (flI c)) (hlsS (flI a) (flI b) (flI c)) (mxF (flI a) (flI b) (flI c)) a b c (maxI a b c) (minI a b c) (medI a b c)
theorem chk_ok {a b c : Int} (h : chk a b c = true) : LightF a b c := by
  unfold chk at h
  simp only [forceU_eq, hueG_eq, Bool.and_eq_true, Bool.not_eq_true'] at h
  obtain ⟨⟨⟨i1, i2⟩, i3⟩, h⟩ := h
  refine (fun (q : OkF (flI a) (flI b) (flI c) ∧ BitsF (hlsL (flI a) (flI b) (flI c)) (hsvH (flI a) (flI b) (flI c)) (hsvS (flI a) (flI b) (flI c)) (hlsS (flI a) (flI b) (flI c)) (mxF (flI a) (flI b) (flI c)) a b c (maxI a b c) (minI a b c) (medI a b c)) => ⟨i1, i2, i3, q.1, q.2⟩) ?_
  clear i1 i2 i3
  generalize flI a = x at *
  generalize flI b = y at *
  generalize flI c = z at *
  cases hm : eqF (mnF x y z) (mxF x y z) with
  | true =>
    rw [hm] at h
    have e1 : hsvH x y z = 0 := by unfold hsvH; rw [if_pos hm]
    have e2 : hsvS x y z = 0 := by unfold hsvS; rw [if_pos hm]
    have e3 : hlsS x y z = 0 := by unfold hlsS; rw [if_pos hm]
    refine ⟨⟨fun e => ?_, fun e => ?_, fun e => ?_, fun e => ?_⟩, ?_⟩
    · rw [hm] at e; cases e
    · rw [hm] at e; cases e
    · rw [hm] at e; cases e
    · rw [hm] at e; cases e
    rw [e1, e2, e3]
    exact chkB_ok h
  | false =>
    rw [hm] at h
    simp only [cond_false, Bool.and_eq_true, Bool.not_eq_true'] at h
    obtain ⟨⟨z1, z2⟩, h⟩ := h
    have hn : ¬ eqF (mnF x y z) (mxF x y z) = true := by rw [hm]; exact Bool.false_ne_true
    have e1 : hsvH x y z = hueF x y z (mxF x y z) (Float64.sub (mxF x y z) (mnF x y z)) := by unfold hsvH; rw [if_neg hn]
    have e2 : hsvS x y z = Float64.div (Float64.sub (mxF x y z) (mnF x y z)) (mxF x y z) := by unfold hsvS; rw [if_neg hn]
    rw [e1, e2]
    cases hl : leF (hlsL x y z) c5F with
    | true =>
      rw [show leF (Float64.div (Float64.add (mxF x y z) (mnF x y z)) c2F) c5F = true from hl] at h
      simp only [cond_true, Bool.and_eq_true, Bool.not_eq_true'] at h
      have e3 : hlsS x y z = Float64.div (Float64.sub (mxF x y z) (mnF x y z)) (Float64.add (mxF x y z) (mnF x y z)) := by unfold hlsS; rw [if_neg hn, if_pos hl]
      rw [e3]
      exact ⟨⟨fun _ => z1, fun _ => z2, fun _ _ => h.1, fun _ e => by rw [hl] at e; cases e⟩, chkB_ok h.2⟩
    | false =>
      rw [show leF (Float64.div (Float64.add (mxF x y z) (mnF x y z)) c2F) c5F = false from hl] at h
      simp only [cond_false, Bool.and_eq_true, Bool.not_eq_true'] at h
      have e3 : hlsS x y z = Float64.div (Float64.sub (mxF x y z) (mnF x y z)) (Float64.sub (Float64.sub c2F (mxF x y z)) (mnF x y z)) := by unfold hlsS; rw [if_neg hn, if_neg (by rw [hl]; exact Bool.false_ne_true)]
      rw [e3]
      exact ⟨⟨fun _ => z1, fun _ => z2, fun _ e => (by rw [hl] at e; cases e), fun _ _ => h.1⟩, chkB_ok h.2⟩
theorem chk_all : ∀ a < 9, ∀ b < 9, ∀ c < 9, chk (a : Nat) (b : Nat) (c : Nat) = true := by decide +kernel
theorem lightF {a b c : Int} (ha : 0 ≤ a ∧ a ≤ 8) (hb : 0 ≤ b ∧ b ≤ 8) (hc : 0 ≤ c ∧ c ≤ 8) : LightF a b c := by
  obtain ⟨x, rfl⟩ := Int.eq_ofNat_of_zero_le ha.1
  obtain ⟨y, rfl⟩ := Int.eq_ofNat_of_zero_le hb.1
  obtain ⟨z, rfl⟩ := Int.eq_ofNat_of_zero_le hc.1
  exact chk_ok (chk_all x (by lia) y (by lia) z (by lia))
end
section
theorem kw_Fliga_0 : True := by
  k_with_none
  k_with "vat" => repeat' (first | exact List.forall_mem_nil _ | refine' List.forall_mem_cons.mpr ⟨?_, ?_⟩ | with_unfolding_all rfl)
  k_with "vrest" => first | ((repeat' (first | exact Vars.rest (by assumption) | exact vr_nil | exact vr_base | refine vr_upd ?_ (by with_unfolding_all rfl) | refine vr_set ?_ (by with_unfolding_all rfl))); done) | (intro zzz hzzz; (simp only [List.contains_cons, List.contains_nil, Bool.or_false, Bool.or_eq_false_iff, beq_eq_false_iff_ne, ne_eq] at hzzz); (simp [hzzz, upd, setL, baseOf, List.lookup]))
  k_with "exec For Name Name cons nil" => (refine' wpAny_For ?h ?hs; (case hs => (intro _; with_unfolding_all rfl)))
  k_with "exec For Name Call cons nil" => (refine' wpAny_For ?h ?hs; (case hs => (intro _; with_unfolding_all rfl)))
  k_with "exec For Name Attribute cons nil" => (refine' wpAny_For ?h ?hs; (case hs => (intro _; with_unfolding_all rfl)))
  k_with "sol" => all_goals (try (first | k_is | exact rfl | decide))
  k_with "sz" => first | omega | (simp only [List.length_append, List.length_cons, List.length_nil, List.length_map, List.length_replicate, List.length_reverse, List.length_set]; omega)
  k_with "sub" => first | exact Sub.refl _ | with_reducible assumption | exact Sub.nil | (refine Sub.cons ?_; k_extra "sub") | (refine Sub.trans (by with_reducible assumption) ?_; k_extra "sub") | fail "sub"
  k_with "member" => assumption
  k_with "ite" => first | with_reducible refine ite_tt ?_ | with_reducible refine ite_ff ?_
  k_with "execs nil" => refine wpAny_execs_nil ?_
  k_with "dp" => first | exact dpLe | omega
  k_with "un" => first | exact unLe | omega
  k_with "storeName" => (k_here; k_dflt (first | (refine' storeI ?_; intro q1zz) | (refine' storeS ?_; intro q1zz) | (refine' storeF ?_; intro q1zz) | refine' storeR ?_); k_whole; intro hpzz kpzz mpzz Fpzz Npzz; (try k_sweep))
  k_with "execs cons" => first | refine lastK ?_ | (refine cutK ?_; intro Qzz azz) | (refine enterK ?_; intro Qzz azz)
  k_with "KQ" => first | refine nextK (by assumption) ?_ | refine retK (by assumption) ?_ | refine impK (by assumption) ?_ | refine contK (by assumption) ?_ | refine brkK (by assumption) ?_
  k_with "KS" => refine stopK (by assumption) ?_
  k_with "exec If" => (refine ifK ?_; intro Qzz azz)
  k_with "KB" => refine ifB (by assumption) ?_
  k_with "KV" => refine stopV (by assumption) ?_
  exact True.intro
structure FlEq (a : Int) (X : UInt64) : Prop where
  e : flI a = X
  i : Float64.isInf (flI a) = false
def HsvC (X Y Z H S M : UInt64) : Prop := ∀ (prog : Program) (w : World) (t1 t2 t3 : Tok) (news : List (Addr × Obj)), Spec prog w 1 135 [.float X t1, .float Y t2, .float Z t3] news (FloP H S M news)
def HlsC (X Y Z H L T : UInt64) : Prop := ∀ (prog : Program) (w : World) (t1 t2 t3 : Tok) (news : List (Addr × Obj)), Spec prog w 1 128 [.float X t1, .float Y t2, .float Z t3] news (FloP H L T news)
theorem HsvC.use {X Y Z H S M : UInt64} (h : HsvC X Y Z H S M) {prog : Program} {w : World} {t1 t2 t3 : Tok} {news : List (Addr × Obj)} : Spec prog w 1 135 [.float X t1, .float Y t2, .float Z t3] news (FloP H S M news) := h prog w t1 t2 t3 news
theorem HlsC.use {X Y Z H S M : UInt64} (h : HlsC X Y Z H S M) {prog : Program} {w : World} {t1 t2 t3 : Tok} {news : List (Addr × Obj)} : Spec prog w 1 128 [.float X t1, .float Y t2, .float Z t3] news (FloP H S M news) := h prog w t1 t2 t3 news
theorem light_facts {a b c : Int} (ha : 0 ≤ a ∧ a ≤ 8) (hb : 0 ≤ b ∧ b ≤ 8) (hc : 0 ≤ c ∧ c ≤ 8) : ∃ X Y Z H S M L T, FlEq a X ∧ FlEq b Y ∧ FlEq c Z ∧ HsvC X Y Z H S M ∧ HlsC X Y Z H L T ∧ BitsF L H S T M a b c (maxI a b c) (minI a b c) (medI a b c) := by
  have hobt := lightF ha hb hc
  obtain ⟨i1, i2, i3, ok, V⟩ := hobt
  exact ⟨_, _, _, _, _, _, _, _, ⟨rfl, i1⟩, ⟨rfl, i2⟩, ⟨rfl, i3⟩, fun _ _ _ _ _ news => hsv_spec ok news, fun _ _ _ _ _ news => hls_spec ok news, V⟩
theorem div_i8 {prog : Program} {w : World} {A : Around} {E : Value → Shared → Prop} {s : Shared} {Q : Value → Shared → Prop} {a : Int} {X : UInt64} {t u : Tok} (hz : FlEq a X) (h : Q (.float X s.toks) { s with toks := s.toks + 1 }) : wpAny (model prog w) A (binaryOp .Div (.int a t) (.int 8 u)) Q E s :=
  AutoIntOps.truediv_2 (by decide) (fun e => by have hz' : Float64.isInf (Float64.ofFrac (decide (a < 0) != decide ((8 : Int) < 0)) a.natAbs (8 : Int).natAbs) = false := hz.i; rw [hz'] at e; cases e) (by have e := hz.e; subst e; exact h)
end
section
theorem kw_Flig_0 : True := by
  k_with_none
  k_with "vat" => repeat' (first | exact List.forall_mem_nil _ | refine' List.forall_mem_cons.mpr ⟨?_, ?_⟩ | with_unfolding_all rfl)
  k_with "vrest" => first | ((repeat' (first | exact Vars.rest (by assumption) | exact vr_nil | exact vr_base | refine vr_upd ?_ (by with_unfolding_all rfl) | refine vr_set ?_ (by with_unfolding_all rfl))); done) | (intro zzz hzzz; (simp only [List.contains_cons, List.contains_nil, Bool.or_false, Bool.or_eq_false_iff, beq_eq_false_iff_ne, ne_eq] at hzzz); (simp [hzzz, upd, setL, baseOf, List.lookup]))
  k_with "exec For Name Name cons nil" => (refine' wpAny_For ?h ?hs; (case hs => (intro _; with_unfolding_all rfl)))
  k_with "exec For Name Call cons nil" => (refine' wpAny_For ?h ?hs; (case hs => (intro _; with_unfolding_all rfl)))
  k_with "exec For Name Attribute cons nil" => (refine' wpAny_For ?h ?hs; (case hs => (intro _; with_unfolding_all rfl)))
  k_with "sol" => all_goals (try (first | k_is | exact rfl | decide))
  k_with "sz" => first | omega | (simp only [List.length_append, List.length_cons, List.length_nil, List.length_map, List.length_replicate, List.length_reverse, List.length_set]; omega)
  k_with "sub" => first | exact Sub.refl _ | with_reducible assumption | exact Sub.nil | (refine Sub.cons ?_; k_extra "sub") | (refine Sub.trans (by with_reducible assumption) ?_; k_extra "sub") | fail "sub"
  k_with "member" => assumption
  k_with "ite" => first | with_reducible refine ite_tt ?_ | with_reducible refine ite_ff ?_
  k_with "execs nil" => refine wpAny_execs_nil ?_
  k_with "dp" => first | exact dpLe | omega
  k_with "un" => first | exact unLe | omega
  k_with "storeName" => (k_here; k_dflt (first | (refine' storeI ?_; intro q1zz) | (refine' storeS ?_; intro q1zz) | (refine' storeF ?_; intro q1zz) | refine' storeR ?_); k_whole; intro hpzz kpzz mpzz Fpzz Npzz; (try k_sweep))
  k_with "execs cons" => first | refine lastK ?_ | (refine cutK ?_; intro Qzz azz) | (refine enterK ?_; intro Qzz azz)
  k_with "KQ" => first | refine nextK (by assumption) ?_ | refine retK (by assumption) ?_ | refine impK (by assumption) ?_ | refine contK (by assumption) ?_ | refine brkK (by assumption) ?_
  k_with "KS" => refine stopK (by assumption) ?_
  k_with "exec If" => (refine ifK ?_; intro Qzz azz)
  k_with "KB" => refine ifB (by assumption) ?_
  k_with "KV" => refine stopV (by assumption) ?_
  k_with "exec While" => refine wpAny_While ?_
  k_with "exec While Compare" => refine wpAny_While ?_
  k_with "exec While BoolOp" => refine wpAny_While ?_
  k_with "eval ListComp" => (k_here; (with_reducible show wpAny _ _ (eval (PySem.Expr.ListComp _ [PySem.Comprehension.mk _ _ [] 0] _ _) _) _ _ _); k_dflt (refine LCg.ListComp_U (F₀ := by k_asm) (by with_unfolding_all rfl) (by decide) (by rfl) (by decide) (by rfl) ?_))
  k_with "eval ListComp" => (k_here; (with_reducible show wpAny _ _ (eval (PySem.Expr.ListComp _ [PySem.Comprehension.mk _ _ [_] 0] _ _) _) _ _ _); k_dflt (refine LCt.ListComp_T (F₀ := by k_asm) (by with_unfolding_all rfl) (by decide) (by rfl) (by decide) (by rfl) ?_))
  k_with "exec Assign cons ListComp" => (k_here; (with_reducible show wpAny _ _ (exec (PySem.Stmt.Assign [_] (PySem.Expr.ListComp _ [PySem.Comprehension.mk _ _ [] 0] _ _) _) _) _ _ _); k_dflt (refine LCg.Assign_ListComp_U (F₀ := by k_asm) (by rfl) (by with_unfolding_all rfl) (by with_unfolding_all rfl) (by decide) (by rfl) (by decide) (by rfl) (by rfl) (by rfl) ?_))
  k_with "exec Assign cons ListComp" => (k_here; (with_reducible show wpAny _ _ (exec (PySem.Stmt.Assign [_] (PySem.Expr.ListComp _ [PySem.Comprehension.mk _ _ [_] 0] _ _) _) _) _ _ _); k_dflt (refine LCt.Assign_ListComp_T (F₀ := by k_asm) (by rfl) (by with_unfolding_all rfl) (by with_unfolding_all rfl) (by decide) (by rfl) (by decide) (by rfl) (by rfl) (by rfl) ?_))
  k_with "CompSrc" => (k_here; refine Hold.mk ?_)
  k_with "CompSrcT" => (k_here; refine Hold.mk ?_)
  k_with "CompEnd" => (k_here; refine Hold.mk ?_)
  k_with "FinA" => (k_here; refine Hold.mk ?_)
  k_with "FinE" => (k_here; refine Hold.mk ?_)
  k_with "loadName" => (k_here; k_dflt (refine' ldnX ?k1 ?k2 ?_; (case k1 => k_asm); (case k2 => exact rfl); k_whole))
  k_with "newTuple" => (k_here; k_dflt (refine' tupR ?_); intro Dpzz hpzz kpzz Fpzz Npzz l1zz; (try k_lt l1zz); (try k_sweep))
  k_with "mem" => first | exact List.Mem.head _ | with_reducible assumption | (refine' List.mem_cons_of_mem _ ?_; k_extra "mem") | (refine' Sub.mem ?s ?m; (case s => with_reducible assumption); (case m => k_extra "mem")) | fail "mem"
  k_with "member" => k_extra "mem"
  k_with "subscriptTail" => (k_here; (with_reducible show wpAny _ _ (subscriptTail _ _ (Value.ref _) (gS _ _)) _ _ _); refine Hold.mk ?_)
  k_with "subscriptTail" => (k_here; (with_reducible show wpAny _ _ (subscriptTail _ _ (Value.ref _) (Value.int _ _)) _ _ _); refine' lst_at (h := ?_))
  k_with "call type:int" => (k_here; (with_reducible refine int_digit (by with_reducible assumption) ?_))
  k_with "in" => first | with_reducible assumption | (refine' AT.In.mono ?s ?h; (case h => with_reducible assumption); (case s => first | with_reducible assumption | exact fun p hp => List.mem_cons_of_mem _ hp))
  k_with "compareOp Eq ref ref" => (k_here; first | refine' eq_nn (h := ?_) | refine' eq_gn (h := ?_))
  k_with "compareOp NotEq ref ref" => (k_here; first | refine' ne_nn (h := ?_) | refine' ne_gn (h := ?_))
  k_with "call ref" => (k_here; refine' Spec.go (Post := IntP _ _) (C := by first | with_reducible assumption | assumption) (ret := ?_); rintro r9zz n9zz h9zz tk9zz F9zz N9zz ⟨⟨t9zz, e9zz⟩, d9zz⟩; subst e9zz; subst d9zz)
  k_with "Exists" => (k_here; refine kda_made_str (by k_asm) (by k_asm) (Top.nolimit (by k_asm)) (by rfl) (of_decide_eq_true (by rfl)) (by rfl) ?_; intro hpzz opzz Fpzz Npzz l1zz lopzz hdpzz; (try k_lt l1zz))
  k_with "eval Dict" => (k_here; (with_reducible refine Dict_made_str (by with_unfolding_all rfl) (by k_asm) (by with_unfolding_all rfl) (by with_unfolding_all rfl) (List.cons_ne_nil _ _) (by with_unfolding_all decide) ?_; intro _))
  k_with "exec Assign cons Dict" => (with_reducible refine wpAny_Assign_Name ?_ ?_; rotate_left; with_unfolding_all rfl)
  k_with "call builtin:sorted" => (k_here; refine Hold.mk ?_)
  k_with "call ref" => (k_here; refine' Spec.go (Post := BoolP _ _) (C := by with_reducible first | exact nt_leaf _ | exact nt_gate _ | exact tm_leaf _ | exact tm_gate _) (ret := ?_); rintro r9zz n9zz h9zz tk9zz F9zz N9zz ⟨e9zz, d9zz⟩; subst e9zz; subst d9zz)
  k_with "binaryOp Div int int" => (k_here; (refine' div_i8 ?hz ?_; (case hz => k_dflt assumption)))
  k_with "binaryOp Mult int float" => (k_here; (refine mul_if1 (by decide +kernel) ?_))
  k_with "binaryOp Sub float int" => (k_here; (refine' sub_fi1 ?hz ?_; (case hz => first | with_reducible assumption | k_dflt assumption | decide +kernel)))
  k_with "binaryOp Sub int float" => (k_here; (refine sub_if1 (by decide +kernel) ?_))
  k_with "binaryOp Div float int" => (k_here; (refine div_fi1 (by decide +kernel) (by decide +kernel) ?_))
  k_with "call builtin:round" => (k_here; (refine' round_f rfl ?hz ?_; (case hz => k_dflt assumption)))
  k_with "call ref" => (k_here; refine' Spec.go (Post := IntP _ _) (C := by first | with_reducible assumption | assumption) (ret := ?_); rintro r9zz n9zz h9zz tk9zz F9zz N9zz ⟨⟨t9zz, e9zz⟩, d9zz⟩; subst e9zz; subst d9zz)
  k_with "call ref" => (k_here; refine' Spec.go (Post := FloP _ _ _ _) (C := by first | exact HsvC.use (by with_reducible assumption) | exact HlsC.use (by with_reducible assumption)) (ret := ?_); rintro r9zz n9zz h9zz tk9zz F9zz N9zz ⟨l9zz, t9zz, u9zz, v9zz, k9zz, e9zz, s9zz⟩; subst e9zz)
  k_with "call ref" => (k_here; refine' Spec.go (Post := BoolP _ _) (C := by with_reducible first | exact nt_leaf _ | exact nt_gate _ | exact tm_leaf _ | exact tm_gate _) (ret := ?_); rintro r9zz n9zz h9zz tk9zz F9zz N9zz ⟨e9zz, d9zz⟩; subst e9zz; subst d9zz)
  exact True.intro
set_option maxHeartbeats 8000000 in
theorem lig_leaf {prog : Program} {w : World} {a b : Addr} {d : Nat} {news : List (Addr × Obj)} (h : AT.In lI gI news (.leaf a b d)) (hd : d < 9) : Spec prog w 2 217 [.ref a] news (IntP d news) := by
  obtain ⟨t, k, k', h1, h2⟩ := h
  refine' Spec.of [(Str.ofString "node", .ref a)] ?_ ?_ ?_ ?_ ?_ ?_ ?_ ?_ ?_
  k_extra "sol"
  intro p loose mean mg mb dp un gd outer A₀ base g L' s A1 m0 E1 B F X N T hdp hun
  k_steps
  exact doneI (by assumption) (by assumption) (fun p hp => by k_extra "mem") (by lia)
set_option maxHeartbeats 8000000 in
theorem lig_gate {prog : Program} {w : World} {a b : Addr} {k : Nat} {x y z : AT} {n : Nat} {news : List (Addr × Obj)} (h : AT.In lI gI news (.gate a b k x y z)) (hk : k < 3)
    (ih : ∀ c ∈ [x, y, z], ∀ nw, c.In lI gI nw → Spec prog w (n + 1) 217 [.ref c.addr] nw (IntP c.tr.due nw)) (rx : ∀ c ∈ [x, y, z], 0 ≤ c.tr.due ∧ c.tr.due ≤ 8) :
    Spec prog w (n + 2) 217 [.ref a] news (IntP (med3 k x.tr.due y.tr.due z.tr.due) news) := by
  obtain ⟨t, kc, kc', h1, h2, hx, hy, hz⟩ := h
  refine' Spec.of [(Str.ofString "node", .ref a)] ?_ ?_ ?_ ?_ ?_ ?_ ?_ ?_ ?_
  k_extra "sol"
  intro p loose mean mg mb dp un gd outer A₀ base g L' s A1 m0 E1 B F X N T hdp hun
  k_steps
  (try dsimp only)
  rename Fr _ _ _ _ => F4
  rename News _ _ _ _ => N4
  (try dsimp only at N4 F4)
  refine Hold.un ?_
  refine' LCg.CompSrc.ledger ?hh F4 N4 ?hm ?hsz ?_
  case hm => k_extra "mem"
  case hh => rfl
  case hsz => rw [sizeLine_eq]; exact (by decide : 3 ≤ 16777216)
  intro g'
  refine comp_turns 3 (fun j ys nw => nw = NewsOf N4 ∧ IntsAre ys ((([x, y, z].map fun c => c.tr.due)).take j)) ?_ ?_ _ 0 [] _ rfl ⟨rfl, .nil⟩
  · rintro ys nw ⟨rfl, hys⟩
    intro D h tk F6 N6 od
    clear F4
    have hys3 : IntsAre ys [x.tr.due, y.tr.due, z.tr.due] := hys
    clear hys
    have LF := light_facts (a := [x.tr.due, y.tr.due, z.tr.due].getD (Int.toNat 0) 0) (b := [x.tr.due, y.tr.due, z.tr.due].getD (Int.toNat 1) 0) (c := [x.tr.due, y.tr.due, z.tr.due].getD (Int.toNat 2) 0) (rx x (by simp)) (rx y (by simp)) (rx z (by simp))
    obtain ⟨X9, Y9, Z9, H, S, M, L, TT, x1, y1, z1, hsv, hls, V⟩ := LF
    have v1 := V.v1
    have l1 := V.l1
    have e1 := V.e1
    have hh1 := V.h1
    have kk1 := V.k1
    have v2 := V.v2
    have l2 := V.l2
    have e2 := V.e2
    clear V
    have hkk := kindI_of hk
    k_steps
    all_goals (refine doneI (by assumption) (by assumption) (fun p hp => by k_extra "mem") ?_)
    all_goals (rcases hkk with ⟨hk1, rfl⟩ | ⟨hk1, rfl⟩ | ⟨hk1, rfl⟩)
    all_goals first | (exfalso; lia) | skip
    · exact v2
    · refine Eq.trans ?_ (show minI x.tr.due y.tr.due z.tr.due = _ from rfl)
      have l2' : rndF (Float64.mul (Float64.ofInt 16) L) = maxI x.tr.due y.tr.due z.tr.due + minI x.tr.due y.tr.due z.tr.due := l2
      have v2' : rndF (Float64.mul (Float64.ofInt 8) M) = maxI x.tr.due y.tr.due z.tr.due := v2
      rw [l2', v2']; lia
    · refine Eq.trans ?_ (show medI x.tr.due y.tr.due z.tr.due = _ from rfl)
      have l2' : rndF (Float64.mul (Float64.ofInt 16) L) = maxI x.tr.due y.tr.due z.tr.due + minI x.tr.due y.tr.due z.tr.due := l2
      have v2' : rndF (Float64.mul (Float64.ofInt 8) M) = maxI x.tr.due y.tr.due z.tr.due := v2
      have e2' : rndF (Float64.mul (Float64.mul (Float64.mul (Float64.ofInt 8) M) S) (Float64.abs (Float64.sub (Float64.mul (Float64.ofInt 6) H) (Float64.ofInt (2 * rndF (Float64.mul (Float64.ofInt 3) H)))))) = medI x.tr.due y.tr.due z.tr.due - minI x.tr.due y.tr.due z.tr.due := e2
      rw [l2', v2', e2']; lia
  · rintro j v ys nw I2 oI2 C2 oC2 D2 m₂ h2 tk2 E' hj hv ⟨enw, hys⟩ hC hx2 F7 N7 o7 ne QC aC
    have enw' : news = nw := enw.symm
    subst enw'
    clear enw
    have hobt := kid3 hv
    obtain ⟨c, hc, rfl⟩ := hobt
    have cm := List.mem_of_getElem? hc
    have cin : c.In lI gI (NewsOf N7) := by
      refine AT.In.mono (n := news) (fun p hp => ?_) ?_
      · k_extra "mem"
      · simp only [List.mem_cons, List.not_mem_nil, or_false] at cm
        rcases cm with rfl | rfl | rfl <;> assumption
    have S7 := ih c cm _ cin
    clear F4 ih
    k_steps
    refine Hold.un ⟨_, _, _, rfl, by assumption, by assumption, o7, .inr ⟨_, by k_extra "mem", rfl, _, rfl⟩, rfl, ?_⟩
    show IntsAre (ys ++ [_]) _
    rw [List.take_add_one, List.getElem?_map, hc]
    exact IntsAre.append hys (.cons _ _ .nil)

theorem lig_spec {prog : Program} {w : World} : ∀ (t : AT), t.tr.ok → ∀ nw, t.In lI gI nw → Spec prog w (t.tr.dep + 2) 217 [.ref t.addr] nw (IntP t.tr.due nw)
  | .leaf a b d, ok, nw, h => lig_leaf h ok
  | .gate a b k x y z, ok, nw, h => by
    have hx := lig_spec (prog := prog) (w := w) x ok.2.1
    have hy := lig_spec (prog := prog) (w := w) y ok.2.2.1
    have hz := lig_spec (prog := prog) (w := w) z ok.2.2.2
    refine lig_gate (n := max x.tr.dep (max y.tr.dep z.tr.dep) + 1) h ok.1 (fun c hc nw hin => ?_) (fun c hc => ?_)
    · simp only [List.mem_cons, List.not_mem_nil, or_false] at hc
      rcases hc with rfl | rfl | rfl
      · exact (hx nw hin).more (Nat.add_le_add_right (m3 _ _ _).1 2)
      · exact (hy nw hin).more (Nat.add_le_add_right (m3 _ _ _).2.1 2)
      · exact (hz nw hin).more (Nat.add_le_add_right (m3 _ _ _).2.2 2)
    · simp only [List.mem_cons, List.not_mem_nil, or_false] at hc
      rcases hc with rfl | rfl | rfl
      · exact Tr.due_rng ok.2.1
      · exact Tr.due_rng ok.2.2.1
      · exact Tr.due_rng ok.2.2.2
end
section
theorem kw_Fmid_0 : True := by
  k_with_none
  k_with "vat" => repeat' (first | exact List.forall_mem_nil _ | refine' List.forall_mem_cons.mpr ⟨?_, ?_⟩ | with_unfolding_all rfl)
  k_with "vrest" => first | ((repeat' (first | exact Vars.rest (by assumption) | exact vr_nil | exact vr_base | refine vr_upd ?_ (by with_unfolding_all rfl) | refine vr_set ?_ (by with_unfolding_all rfl))); done) | (intro zzz hzzz; (simp only [List.contains_cons, List.contains_nil, Bool.or_false, Bool.or_eq_false_iff, beq_eq_false_iff_ne, ne_eq] at hzzz); (simp [hzzz, upd, setL, baseOf, List.lookup]))
  k_with "exec For Name Name cons nil" => (refine' wpAny_For ?h ?hs; (case hs => (intro _; with_unfolding_all rfl)))
  k_with "exec For Name Call cons nil" => (refine' wpAny_For ?h ?hs; (case hs => (intro _; with_unfolding_all rfl)))
  k_with "exec For Name Attribute cons nil" => (refine' wpAny_For ?h ?hs; (case hs => (intro _; with_unfolding_all rfl)))
  k_with "sol" => all_goals (try (first | k_is | exact rfl | decide))
  k_with "sz" => first | omega | (simp only [List.length_append, List.length_cons, List.length_nil, List.length_map, List.length_replicate, List.length_reverse, List.length_set]; omega)
  k_with "sub" => first | exact Sub.refl _ | with_reducible assumption | exact Sub.nil | (refine Sub.cons ?_; k_extra "sub") | (refine Sub.trans (by with_reducible assumption) ?_; k_extra "sub") | fail "sub"
  k_with "member" => assumption
  k_with "ite" => first | with_reducible refine ite_tt ?_ | with_reducible refine ite_ff ?_
  k_with "execs nil" => refine wpAny_execs_nil ?_
  k_with "dp" => first | exact dpLe | omega
  k_with "un" => first | exact unLe | omega
  k_with "storeName" => (k_here; k_dflt (first | (refine' storeI ?_; intro q1zz) | (refine' storeS ?_; intro q1zz) | (refine' storeF ?_; intro q1zz) | refine' storeR ?_); k_whole; intro hpzz kpzz mpzz Fpzz Npzz; (try k_sweep))
  k_with "execs cons" => first | refine lastK ?_ | (refine cutK ?_; intro Qzz azz) | (refine enterK ?_; intro Qzz azz)
  k_with "KQ" => first | refine nextK (by assumption) ?_ | refine retK (by assumption) ?_ | refine impK (by assumption) ?_ | refine contK (by assumption) ?_ | refine brkK (by assumption) ?_
  k_with "KS" => refine stopK (by assumption) ?_
  k_with "exec If" => (refine ifK ?_; intro Qzz azz)
  k_with "KB" => refine ifB (by assumption) ?_
  k_with "KV" => refine stopV (by assumption) ?_
  k_with "exec While" => refine wpAny_While ?_
  k_with "exec While Compare" => refine wpAny_While ?_
  k_with "exec While BoolOp" => refine wpAny_While ?_
  k_with "eval ListComp" => (k_here; (with_reducible show wpAny _ _ (eval (PySem.Expr.ListComp _ [PySem.Comprehension.mk _ _ [] 0] _ _) _) _ _ _); k_dflt (refine LCg.ListComp_U (F₀ := by k_asm) (by with_unfolding_all rfl) (by decide) (by rfl) (by decide) (by rfl) ?_))
  k_with "eval ListComp" => (k_here; (with_reducible show wpAny _ _ (eval (PySem.Expr.ListComp _ [PySem.Comprehension.mk _ _ [_] 0] _ _) _) _ _ _); k_dflt (refine LCt.ListComp_T (F₀ := by k_asm) (by with_unfolding_all rfl) (by decide) (by rfl) (by decide) (by rfl) ?_))
  k_with "exec Assign cons ListComp" => (k_here; (with_reducible show wpAny _ _ (exec (PySem.Stmt.Assign [_] (PySem.Expr.ListComp _ [PySem.Comprehension.mk _ _ [] 0] _ _) _) _) _ _ _); k_dflt (refine LCg.Assign_ListComp_U (F₀ := by k_asm) (by rfl) (by with_unfolding_all rfl) (by with_unfolding_all rfl) (by decide) (by rfl) (by decide) (by rfl) (by rfl) (by rfl) ?_))
  k_with "exec Assign cons ListComp" => (k_here; (with_reducible show wpAny _ _ (exec (PySem.Stmt.Assign [_] (PySem.Expr.ListComp _ [PySem.Comprehension.mk _ _ [_] 0] _ _) _) _) _ _ _); k_dflt (refine LCt.Assign_ListComp_T (F₀ := by k_asm) (by rfl) (by with_unfolding_all rfl) (by with_unfolding_all rfl) (by decide) (by rfl) (by decide) (by rfl) (by rfl) (by rfl) ?_))
  k_with "CompSrc" => (k_here; refine Hold.mk ?_)
  k_with "CompSrcT" => (k_here; refine Hold.mk ?_)
  k_with "CompEnd" => (k_here; refine Hold.mk ?_)
  k_with "FinA" => (k_here; refine Hold.mk ?_)
  k_with "FinE" => (k_here; refine Hold.mk ?_)
  k_with "loadName" => (k_here; k_dflt (refine' ldnX ?k1 ?k2 ?_; (case k1 => k_asm); (case k2 => exact rfl); k_whole))
  k_with "newTuple" => (k_here; k_dflt (refine' tupR ?_); intro Dpzz hpzz kpzz Fpzz Npzz l1zz; (try k_lt l1zz); (try k_sweep))
  k_with "mem" => first | exact List.Mem.head _ | with_reducible assumption | (refine' List.mem_cons_of_mem _ ?_; k_extra "mem") | (refine' Sub.mem ?s ?m; (case s => with_reducible assumption); (case m => k_extra "mem")) | fail "mem"
  k_with "member" => k_extra "mem"
  k_with "binaryOp Div int int" => (k_here; (refine' div_i8 ?hz ?_; (case hz => k_dflt assumption)))
  k_with "binaryOp Mult int float" => (k_here; (refine mul_if1 (by decide +kernel) ?_))
  k_with "binaryOp Sub float int" => (k_here; (refine' sub_fi1 ?hz ?_; (case hz => first | with_reducible assumption | k_dflt assumption | decide +kernel)))
  k_with "binaryOp Sub int float" => (k_here; (refine sub_if1 (by decide +kernel) ?_))
  k_with "binaryOp Div float int" => (k_here; (refine div_fi1 (by decide +kernel) (by decide +kernel) ?_))
  k_with "call builtin:round" => (k_here; (refine' round_f rfl ?hz ?_; (case hz => k_dflt assumption)))
  k_with "call ref" => (k_here; refine' Spec.go (Post := IntP _ _) (C := by first | with_reducible assumption | assumption) (ret := ?_); rintro r9zz n9zz h9zz tk9zz F9zz N9zz ⟨⟨t9zz, e9zz⟩, d9zz⟩; subst e9zz; subst d9zz)
  k_with "call ref" => (k_here; refine' Spec.go (Post := FloP _ _ _ _) (C := by first | exact HsvC.use (by with_reducible assumption) | exact HlsC.use (by with_reducible assumption)) (ret := ?_); rintro r9zz n9zz h9zz tk9zz F9zz N9zz ⟨l9zz, t9zz, u9zz, v9zz, k9zz, e9zz, s9zz⟩; subst e9zz)
  k_with "call ref" => (k_here; refine' Spec.go (Post := BoolP _ _) (C := by with_reducible first | exact nt_leaf _ | exact nt_gate _ | exact tm_leaf _ | exact tm_gate _) (ret := ?_); rintro r9zz n9zz h9zz tk9zz F9zz N9zz ⟨e9zz, d9zz⟩; subst e9zz; subst d9zz)
  k_with "subscriptTail Name BinOp ref int" => (k_here; refine Hold.mk ?_)
  k_with "exec Assign cons IfExp" => (k_here; refine Hold.mk ?_)
  exact True.intro
set_option maxHeartbeats 8000000 in
theorem mid_spec {prog : Program} {w : World} {l : Addr} {vs : List Value} {kc : Nat} {a b c : Int} {news : List (Addr × Obj)} (hm : (l, listOf vs.toArray kc) ∈ news) (hi : IntsAre vs [a, b, c]) (ha : 0 ≤ a ∧ a ≤ 8) (hb : 0 ≤ b ∧ b ≤ 8) (hc : 0 ≤ c ∧ c ≤ 8) :
    Spec prog w 2 224 [.ref l] news (IntP (medI a b c) news) := by
  refine' Spec.of [(Str.ofString "parts", .ref l)] ?_ ?_ ?_ ?_ ?_ ?_ ?_ ?_ ?_
  k_extra "sol"
  intro p loose mean mg mb dp un gd outer A₀ base g L' s A1 m0 E1 B F X N T hdp hun
  have LF := light_facts (a := [a, b, c].getD (Int.toNat 0) 0) (b := [a, b, c].getD (Int.toNat 1) 0) (c := [a, b, c].getD (Int.toNat 2) 0) ha hb hc
  obtain ⟨X9, Y9, Z9, H, S, M, L, TT, x1, y1, z1, hsv, hls, V⟩ := LF
  have hh1 := V.h1
  have kk1 := V.k1
  have t1 := V.t1
  have t2 := V.t2
  have s1 := V.s1
  have k0 := V.k0
  have k3 := V.k3
  clear V
  have g3 : ∀ q : Int, q.fmod 3 = q % 3 := fun q => Int.fmod_eq_emod_of_nonneg q (by decide)
  have r3 : ∀ q : Int, 0 ≤ q % 3 ∧ q % 3 < 3 := fun q => ⟨Int.emod_nonneg q (by decide), Int.emod_lt_of_pos q (by decide)⟩
  k_steps
  rename Fr _ _ _ _ => F5
  rename News _ _ _ _ => N5
  refine Hold.un (cutF (nw := NewsOf N5) F5 (Str.ofString "side") (Value.int (sideF H)) ?_ ?_)
  · refine wpAny_Assign_Name ?_ ?_
    rotate_left
    · with_unfolding_all rfl
    k_steps
    · have hs : sideF H = rndF (Float64.mul (Float64.ofInt 3) H) + 1 := if_pos (by assumption)
      rename Fr _ _ _ _ => F6
      rename News _ _ _ _ => N6
      rw [hs]; exact CutQ.mk F6 N6
    · have hs : sideF H = rndF (Float64.mul (Float64.ofInt 3) H) - 1 := if_neg (Bool.eq_false_iff.mp (by assumption))
      rename Fr _ _ _ _ => F6
      rename News _ _ _ _ => N6
      rw [hs]; exact CutQ.mk F6 N6
  intro tok h' tk' mc F6 N6
  clear F5
  k_steps
  refine Hold.un ?_
  rename News _ _ _ _ => N8
  have r3' := r3 (sideF H)
  have s2 : [a, b, c].getD (sideF H % 3).toNat 0 = medI a b c := s1
  refine lst_ints (j := (sideF H % 3).toNat) N8 (by k_extra "mem") hi (by rw [g3]; exact (Int.toNat_of_nonneg r3'.1).symm) ((Int.toNat_lt r3'.1).2 r3'.2) (show 3 < 2 ^ 62 by decide) fun t9 => ?_
  rw [s2]
  clear s1 s2
  have t2' : medI a b c = rndF (Float64.mul (Float64.ofInt 8) (Float64.add (Float64.sub L (Float64.div (Float64.mul TT (Float64.sub (Float64.ofInt 1) (Float64.abs (Float64.sub (Float64.mul (Float64.ofInt 2) L) (Float64.ofInt 1))))) (Float64.ofInt 2))) (Float64.mul (Float64.mul TT (Float64.sub (Float64.ofInt 1) (Float64.abs (Float64.sub (Float64.mul (Float64.ofInt 2) L) (Float64.ofInt 1))))) (Float64.abs (Float64.sub (Float64.mul (Float64.ofInt 6) H) (Float64.ofInt (2 * rndF (Float64.mul (Float64.ofInt 3) H)))))))) := t2.symm
  clear r3 g3
  k_steps
  · exact doneI (by assumption) (by assumption) (fun p hp => by k_extra "mem") t2'.symm
  · exact absurd t2' (by assumption)
end
section
theorem kw_Kbis_0 : True := by
  k_with_none
  k_with "vat" => repeat' (first | exact List.forall_mem_nil _ | refine' List.forall_mem_cons.mpr ⟨?_, ?_⟩ | with_unfolding_all rfl)
  k_with "vrest" => first | ((repeat' (first | exact Vars.rest (by assumption) | exact vr_nil | exact vr_base | refine vr_upd ?_ (by with_unfolding_all rfl) | refine vr_set ?_ (by with_unfolding_all rfl))); done) | (intro zzz hzzz; (simp only [List.contains_cons, List.contains_nil, Bool.or_false, Bool.or_eq_false_iff, beq_eq_false_iff_ne, ne_eq] at hzzz); (simp [hzzz, upd, setL, baseOf, List.lookup]))
  k_with "exec For Name Name cons nil" => (refine' wpAny_For ?h ?hs; (case hs => (intro _; with_unfolding_all rfl)))
  k_with "exec For Name Call cons nil" => (refine' wpAny_For ?h ?hs; (case hs => (intro _; with_unfolding_all rfl)))
  k_with "exec For Name Attribute cons nil" => (refine' wpAny_For ?h ?hs; (case hs => (intro _; with_unfolding_all rfl)))
  k_with "sol" => all_goals (try (first | k_is | exact rfl | decide))
  k_with "sz" => first | omega | (simp only [List.length_append, List.length_cons, List.length_nil, List.length_map, List.length_replicate, List.length_reverse, List.length_set]; omega)
  k_with "sub" => first | exact Sub.refl _ | with_reducible assumption | exact Sub.nil | (refine Sub.cons ?_; k_extra "sub") | (refine Sub.trans (by with_reducible assumption) ?_; k_extra "sub") | fail "sub"
  k_with "member" => assumption
  k_with "ite" => first | with_reducible refine ite_tt ?_ | with_reducible refine ite_ff ?_
  k_with "execs nil" => refine wpAny_execs_nil ?_
  k_with "dp" => first | exact dpLe | omega
  k_with "un" => first | exact unLe | omega
  k_with "storeName" => (k_here; k_dflt (first | (refine' storeI ?_; intro q1zz) | (refine' storeS ?_; intro q1zz) | (refine' storeF ?_; intro q1zz) | refine' storeR ?_); k_whole; intro hpzz kpzz mpzz Fpzz Npzz; (try k_sweep))
  k_with "execs cons" => first | refine lastK ?_ | (refine cutK ?_; intro Qzz azz) | (refine enterK ?_; intro Qzz azz)
  k_with "KQ" => first | refine nextK (by assumption) ?_ | refine retK (by assumption) ?_ | refine impK (by assumption) ?_ | refine contK (by assumption) ?_ | refine brkK (by assumption) ?_
  k_with "KS" => refine stopK (by assumption) ?_
  k_with "exec If" => (refine ifK ?_; intro Qzz azz)
  k_with "KB" => refine ifB (by assumption) ?_
  k_with "KV" => refine stopV (by assumption) ?_
  exact True.intro
def SpecW (prog : Program) (w : World) (need : Nat) (f : Addr) (vs : List Value) (kw : List (Str × Value)) (news : List (Addr × Obj)) (Post : Value → List (Addr × Obj) → Prop) : Prop :=
  ∀ (p : Program) (loose : List Str) (mean : ExcName → Option Value) (mg mb : Str → Option Value) (dp un : Nat) (gd : Option (List Code)) (cn : Str) (cs : Scope) (L a : Addr) (ccd : Value) (cl : List (Str × Addr)) (outer : List Env) (A₀ : Around) (base h₀ : Heap) (m : Str → Option Value) (s : Shared) (Q E : Value → Shared → Prop),
    Below A₀ base outer h₀ → Fr h₀ L s.heap m → (hd.heap_1 w.params).In h₀ → News h₀ L s.heap news → Top p loose mean mg mb h₀ → cs.kind = .function → dp + need < recursionLimit → un + 8 * need + 100 < cLine →
    (∀ r news' h' tk', Fr h₀ L h' m → News h₀ L h' news' → Post r news' → Q r { s with heap := h', toks := tk' }) →
    wpAny (model prog w) (ktrTop dp un gd cn cs L a ccd cl outer) (call (.ref f) vs kw) Q E s
theorem SpecW.of {prog : Program} {w : World} {need : Nat} {f : Addr} {vs : List Value} {kw : List (Str × Value)} {news : List (Addr × Obj)} {Post : Value → List (Addr × Obj) → Prop}
    {name qual : Str} {params : Arguments} {body : List Stmt} {scope : Scope} {dV kV doc pm cdv ct oc : Value} {an od : Option Addr} {osl : Array (Option Value)} (binds : List (Str × Value))
    (ho : (hd.heap_1 w.params).lookup f = some ⟨oc, od, .func (fnOf name qual params body scope dV kV doc pm an cdv ct), osl⟩) (hcd : codeIn (hd.heap_1 w.params) cdv qual = true)
    (hbind : ∀ S, peek (hd.heap_1 w.params) S (bindArgs (fnOf name qual params body scope dV kV doc pm an cdv ct) ⟨vs, kw⟩) = some binds) (hloc : (binds.all fun x => decide (scope.names.lookup x.1 = some .local)) = true)
    (h : ∀ (p : Program) (loose : List Str) (mean : ExcName → Option Value) (mg mb : Str → Option Value) (dp un : Nat) (gd : Option (List Code)) (outer : List Env) (A₀ : Around) (base g : Heap) (L' : Addr) (s : Shared), let A1 := ktrTop dp un gd qual scope L' f cdv [] outer; let m0 := setL (fun _ => none) binds.reverse; let E1 := envOf qual scope L' f cdv;
      Below A₀ base outer g → Fr g L' s.heap m0 → (hd.heap_1 w.params).In g → News g L' s.heap news → Top p loose mean mg mb g → dp + need < recursionLimit → un + 8 * need + 100 < cLine →
      wpAny (model prog w) A1 (execs body E1) (Done g L' s Post) (fun _ _ => False) s)
    (hco : scope.isCoroutine = false) (hgen : scope.isGenerator = false) (hk : scope.kind = .function) (hcell : ∀ x ∈ scope.names, x.2 ≠ .cell) :
    SpecW prog w (need + 1) f vs kw news Post := by
  intro p loose mean mg mb dp un gd cn cs L a ccd cl outer A₀ base h₀ m s Q E B F X N T hke hdp hun ret
  refine wpAny_call ?_
  refine code_def (binds := binds) B F X N T rfl rfl hke ho hcd (Nat.lt_of_le_of_lt (Nat.le_add_right _ _) hdp) (kp_binds (Frag.In.keeps X F.keep) hbind) (locs hloc) (fun g L' h₁ FG F' N' B' X' T' => ?_) hco hgen hk hcell
  refine wpAny_noRaise ?_
  rw [hm_setL] at F'
  refine wpAny_mono (h p loose mean mg mb (dp + 1) (un + 3) gd (envX cn cs L a ccd cl :: outer) _ base g L' { s with heap := h₁, toks := s.toks + binds.length } B' F' X' N' T' (by lia) (by lia)) (fun fl s' hd => ?_) fun _ _ e => e
  obtain ⟨⟨h', tk', rfl⟩, m', news', F₂, N₂, P⟩ := hd
  refine leaveK_ F₂ N₂ fun F₃ N₃ => ?_
  cases fl <;> exact ret _ _ _ _ F₃ N₃ P
theorem SpecW.spec {prog : Program} {w : World} {need : Nat} {f : Addr} {vs : List Value} {news : List (Addr × Obj)} {Post : Value → List (Addr × Obj) → Prop} (C : SpecW prog w need f vs [] news Post) : Spec prog w need f vs news Post := C
/-- where x goes in ns, behind all that are not above it -/
structure Bis (ns : List Int) (x : Int) (r : Nat) : Prop where
  le : r ≤ ns.length
  lo : ∀ i, i < r → ns.getD i 0 ≤ x
  hi : ∀ i, r ≤ i → i < ns.length → x < ns.getD i 0
def BisP (ns : List Int) (x : Int) (news : List (Addr × Obj)) (r : Value) (news' : List (Addr × Obj)) : Prop := ∃ (n : Nat) (t : Tok), r = .int n t ∧ Bis ns x n ∧ news = news'
def Srt (ns : List Int) : Prop := ∀ i j, i ≤ j → j < ns.length → ns.getD i 0 ≤ ns.getD j 0
theorem ints_take {vs : List Value} {ns : List Int} (h : IntsAre vs ns) : ∀ k, IntsAre (vs.take k) (ns.take k) := by
  induction h with
  | nil => intro k; simp; exact .nil
  | cons n t _ ih =>
    intro k
    cases k with
    | zero => exact .nil
    | succ k => exact .cons _ _ (ih k)
theorem ints_drop {vs : List Value} {ns : List Int} (h : IntsAre vs ns) : ∀ k, IntsAre (vs.drop k) (ns.drop k) := by
  induction h with
  | nil => intro k; simp; exact .nil
  | cons n t h ih =>
    intro k
    cases k with
    | zero => exact .cons _ _ h
    | succ k => exact ih k
def insI (ns : List Int) (r : Nat) (x : Int) : List Int := ns.take r ++ x :: ns.drop r
theorem insI_len {ns : List Int} {r : Nat} {x : Int} : (insI ns r x).length = ns.length + 1 := by
  unfold insI; simp
  rcases Nat.le_total r ns.length with h | h
  · rw [Nat.min_eq_left h, ← Nat.add_assoc, Nat.add_sub_cancel' h]
  · rw [Nat.min_eq_right h, Nat.sub_eq_zero_of_le h]
theorem insI_perm {ns : List Int} {r : Nat} {x : Int} : (insI ns r x).Perm (x :: ns) := by
  unfold insI
  refine List.perm_middle.trans ?_
  rw [List.take_append_drop]
theorem insI_get {ns : List Int} {r : Nat} {x : Int} (hr : r ≤ ns.length) (i : Nat) : (insI ns r x).getD i 0 = if i < r then ns.getD i 0 else if i = r then x else ns.getD (i - 1) 0 := by
  unfold insI
  simp only [List.getD_eq_getElem?_getD]
  have hl : (ns.take r).length = r := by simp; lia
  split
  · rename_i h
    rw [List.getElem?_append_left (by rw [hl]; exact h), List.getElem?_take_of_lt h]
  · rename_i h
    rw [List.getElem?_append_right (by rw [hl]; lia), hl]
    split
    · rename_i e; subst e; simp
    · rename_i e
      obtain ⟨j, rfl⟩ : ∃ j, i = r + 1 + j := ⟨i - r - 1, by lia⟩
      rw [show r + 1 + j - r = j + 1 by lia, List.getElem?_cons_succ, List.getElem?_drop, show r + 1 + j - 1 = r + j by lia]
theorem insI_srt {ns : List Int} {r : Nat} {x : Int} (hs : Srt ns) (hb : Bis ns x r) : Srt (insI ns r x) := by
  intro i j hij hj
  rw [insI_len] at hj
  rw [insI_get hb.le, insI_get hb.le]
  have h1 := hb.lo
  have h2 := hb.hi
  by_cases a1 : i < r
  · rw [if_pos a1]
    by_cases b1 : j < r
    · rw [if_pos b1]; exact hs _ _ hij (by have := hb.le; lia)
    · rw [if_neg b1]
      by_cases b2 : j = r
      · rw [if_pos b2]; exact h1 i a1
      · rw [if_neg b2]; exact hs _ _ (by lia) (by lia)
  · rw [if_neg a1, if_neg (show ¬ j < r by lia)]
    by_cases a2 : i = r
    · rw [if_pos a2]
      by_cases b2 : j = r
      · rw [if_pos b2]; exact Int.le_refl _
      · rw [if_neg b2]; exact Int.le_of_lt (h2 _ (by lia) (by lia))
    · rw [if_neg a2, if_neg (show ¬ j = r by lia)]
      exact hs _ _ (Nat.sub_le_sub_right hij 1) (by lia)
def InsP (l : Addr) (x : Int) (ns : List Int) (rest : List (Addr × Obj)) (r : Value) (news' : List (Addr × Obj)) : Prop :=
  ∃ vs' ns' k', r = .none ∧ news' = (l, listOf (List.toArray vs') k') :: rest ∧ IntsAre vs' ns' ∧ Srt ns' ∧ ns'.length = ns.length + 1 ∧ ns'.Perm (x :: ns)
end
section
theorem kw_Fbis_0 : True := by
  k_with_none
  k_with "vat" => repeat' (first | exact List.forall_mem_nil _ | refine' List.forall_mem_cons.mpr ⟨?_, ?_⟩ | with_unfolding_all rfl)
  k_with "vrest" => first | ((repeat' (first | exact Vars.rest (by assumption) | exact vr_nil | exact vr_base | refine vr_upd ?_ (by with_unfolding_all rfl) | refine vr_set ?_ (by with_unfolding_all rfl))); done) | (intro zzz hzzz; (simp only [List.contains_cons, List.contains_nil, Bool.or_false, Bool.or_eq_false_iff, beq_eq_false_iff_ne, ne_eq] at hzzz); (simp [hzzz, upd, setL, baseOf, List.lookup]))
  k_with "exec For Name Name cons nil" => (refine' wpAny_For ?h ?hs; (case hs => (intro _; with_unfolding_all rfl)))
  k_with "exec For Name Call cons nil" => (refine' wpAny_For ?h ?hs; (case hs => (intro _; with_unfolding_all rfl)))
  k_with "exec For Name Attribute cons nil" => (refine' wpAny_For ?h ?hs; (case hs => (intro _; with_unfolding_all rfl)))
  k_with "sol" => all_goals (try (first | k_is | exact rfl | decide))
  k_with "sz" => first | omega | (simp only [List.length_append, List.length_cons, List.length_nil, List.length_map, List.length_replicate, List.length_reverse, List.length_set]; omega)
  k_with "sub" => first | exact Sub.refl _ | with_reducible assumption | exact Sub.nil | (refine Sub.cons ?_; k_extra "sub") | (refine Sub.trans (by with_reducible assumption) ?_; k_extra "sub") | fail "sub"
  k_with "member" => assumption
  k_with "ite" => first | with_reducible refine ite_tt ?_ | with_reducible refine ite_ff ?_
  k_with "execs nil" => refine wpAny_execs_nil ?_
  k_with "dp" => first | exact dpLe | omega
  k_with "un" => first | exact unLe | omega
  k_with "storeName" => (k_here; k_dflt (first | (refine' storeI ?_; intro q1zz) | (refine' storeS ?_; intro q1zz) | (refine' storeF ?_; intro q1zz) | refine' storeR ?_); k_whole; intro hpzz kpzz mpzz Fpzz Npzz; (try k_sweep))
  k_with "execs cons" => first | refine lastK ?_ | (refine cutK ?_; intro Qzz azz) | (refine enterK ?_; intro Qzz azz)
  k_with "KQ" => first | refine nextK (by assumption) ?_ | refine retK (by assumption) ?_ | refine impK (by assumption) ?_ | refine contK (by assumption) ?_ | refine brkK (by assumption) ?_
  k_with "KS" => refine stopK (by assumption) ?_
  k_with "exec If" => (refine ifK ?_; intro Qzz azz)
  k_with "KB" => refine ifB (by assumption) ?_
  k_with "KV" => refine stopV (by assumption) ?_
  k_with "exec While" => refine wpAny_While ?_
  k_with "exec While Compare" => refine wpAny_While ?_
  k_with "exec While BoolOp" => refine wpAny_While ?_
  k_with "eval ListComp" => (k_here; (with_reducible show wpAny _ _ (eval (PySem.Expr.ListComp _ [PySem.Comprehension.mk _ _ [] 0] _ _) _) _ _ _); k_dflt (refine LCg.ListComp_U (F₀ := by k_asm) (by with_unfolding_all rfl) (by decide) (by rfl) (by decide) (by rfl) ?_))
  k_with "eval ListComp" => (k_here; (with_reducible show wpAny _ _ (eval (PySem.Expr.ListComp _ [PySem.Comprehension.mk _ _ [_] 0] _ _) _) _ _ _); k_dflt (refine LCt.ListComp_T (F₀ := by k_asm) (by with_unfolding_all rfl) (by decide) (by rfl) (by decide) (by rfl) ?_))
  k_with "exec Assign cons ListComp" => (k_here; (with_reducible show wpAny _ _ (exec (PySem.Stmt.Assign [_] (PySem.Expr.ListComp _ [PySem.Comprehension.mk _ _ [] 0] _ _) _) _) _ _ _); k_dflt (refine LCg.Assign_ListComp_U (F₀ := by k_asm) (by rfl) (by with_unfolding_all rfl) (by with_unfolding_all rfl) (by decide) (by rfl) (by decide) (by rfl) (by rfl) (by rfl) ?_))
  k_with "exec Assign cons ListComp" => (k_here; (with_reducible show wpAny _ _ (exec (PySem.Stmt.Assign [_] (PySem.Expr.ListComp _ [PySem.Comprehension.mk _ _ [_] 0] _ _) _) _) _ _ _); k_dflt (refine LCt.Assign_ListComp_T (F₀ := by k_asm) (by rfl) (by with_unfolding_all rfl) (by with_unfolding_all rfl) (by decide) (by rfl) (by decide) (by rfl) (by rfl) (by rfl) ?_))
  k_with "CompSrc" => (k_here; refine Hold.mk ?_)
  k_with "CompSrcT" => (k_here; refine Hold.mk ?_)
  k_with "CompEnd" => (k_here; refine Hold.mk ?_)
  k_with "FinA" => (k_here; refine Hold.mk ?_)
  k_with "FinE" => (k_here; refine Hold.mk ?_)
  k_with "loadName" => (k_here; k_dflt (refine' ldnX ?k1 ?k2 ?_; (case k1 => k_asm); (case k2 => exact rfl); k_whole))
  k_with "newTuple" => (k_here; k_dflt (refine' tupR ?_); intro Dpzz hpzz kpzz Fpzz Npzz l1zz; (try k_lt l1zz); (try k_sweep))
  k_with "mem" => first | exact List.Mem.head _ | with_reducible assumption | (refine' List.mem_cons_of_mem _ ?_; k_extra "mem") | (refine' Sub.mem ?s ?m; (case s => with_reducible assumption); (case m => k_extra "mem")) | fail "mem"
  k_with "member" => k_extra "mem"
  k_with "exec While Compare cons nil" => (k_here; refine wpAny_While ?_; refine Hold.mk ?_)
  k_with "call builtin:len" => (k_here; refine' len_lstM (h := ?_))
  k_with "subscriptTail Name Name ref int" => (k_here; refine Hold.mk ?_)
  exact True.intro
set_option maxHeartbeats 8000000 in
theorem bis_spec {prog : Program} {w : World} {l : Addr} {vs : List Value} {kc : Nat} {ns : List Int} {x : Int} {tx : Tok} {news : List (Addr × Obj)} (hm : (l, listOf vs.toArray kc) ∈ news) (hi : IntsAre vs ns) (hs : Srt ns) (hz : ns.length < 2 ^ 30) :
    Spec prog w 1 112 [.ref l, .int x tx] news (BisP ns x news) := by
  refine SpecW.spec ?_
  refine' SpecW.of [(Str.ofString "a", .ref l), (Str.ofString "x", .int x tx), (Str.ofString "lo", .int 0 321), (Str.ofString "hi", .none), (Str.ofString "key", .none)] ?_ ?_ ?e ?_ ?_ ?_ ?_ ?_ ?_
  k_extra "sol"
  case e => exact fun S => rfl
  intro p loose mean mg mb dp un gd outer A₀ base g L' s A1 m0 E1 B F X N T hdp hun
  have hlen := hi.length
  k_steps
  refine Hold.un ?_
  rename Fr _ _ _ _ => F1
  rename News _ _ _ _ => N1
  refine whileL (n := ns.length) (D := []) (news := news) F1 N1
    (fun k m' D' => ∃ (a b : Nat) (t1 t2 : Tok), D' = [] ∧ a ≤ b ∧ b ≤ ns.length ∧ b - a ≤ k ∧ (∀ i, i < a → ns.getD i 0 ≤ x) ∧ (∀ i, b ≤ i → i < ns.length → x < ns.getD i 0) ∧ Vars m' (fun _ => none) ["a", "x", "lo", "hi", "key", "mid"] [("a", .ref l), ("x", .int x tx), ("lo", .int a t1), ("hi", .int b t2), ("key", .none)])
    (fun m' D' => ∃ (a : Nat) (t1 : Tok), D' = [] ∧ Bis ns x a ∧ Vars m' (fun _ => none) ["a", "x", "lo", "hi", "key", "mid"] [("lo", .int a t1)]) ?_ ?_ ?_
  · refine' ⟨0, ns.length, _, _, rfl, Nat.zero_le _, Nat.le_refl _, Nat.sub_le _ _, fun i h => absurd h (Nat.not_lt_zero i), fun i h h' => absurd h (Nat.not_le_of_lt h'), ⟨?_, ?_⟩⟩
    rotate_left 2
    · k_extra "vat"
    · k_extra "vrest"
  · intro J0 K0 k m₁ D₁ hh tkk Q0 S0 a0 b0 hq1 F2 N2
    obtain ⟨a, b, t1, t2, rfl, hab, hb, hk, h1, h2, V⟩ := hq1
    refine V.frL F2 ?_
    intro mv F3
    have N3 : News g L' hh news := N2
    clear F2 F1 N2 N1
    k_steps
    · rename Fr _ _ _ _ => F5
      rename News _ _ _ _ => N5
      refine Hold.un ?_
      have hd : ((a : Int) + (b : Int)).fdiv 2 = ((a + b) / 2 : Nat) := by rw [Int.fdiv_eq_ediv_of_nonneg _ (by decide)]; lia
      have hlt : a < b := by lia
      refine lst_ints (j := (a + b) / 2) N5 (by k_extra "mem") hi hd (by lia) (by lia) fun t9 => ?_
      generalize hmid : (a + b) / 2 = c at hd
      refine frI F5 hd ?_
      clear F5
      intro mx F5
      have hca : a ≤ c := by lia
      have hcb : c < b := by lia
      clear hd hmid
      k_steps
      · rename Fr _ _ _ _ => F6
        rename News _ _ _ _ => N6
        rename (x < _) => hx
        refine' WTurn.next (k := c - a) (D' := []) (by lia) F6 N6 (Sub.refl _) Same.mk ⟨a, c, _, _, rfl, hca, by lia, Nat.le_refl _, h1, fun i hi' hi2 => Int.lt_of_lt_of_le hx (hs _ _ hi' hi2), ⟨?_, ?_⟩⟩
        rotate_left 2
        · k_extra "vat"
        · k_extra "vrest"
      · rename Fr _ _ _ _ => F6
        rename News _ _ _ _ => N6
        have hx : ¬ (x < ns.getD c 0) := by first | assumption | lia
        refine' WTurn.next (k := b - (c + 1)) (D' := []) (by lia) F6 N6 (Sub.refl _) Same.mk ⟨c + 1, b, _, _, rfl, by lia, hb, Nat.le_refl _, fun i hi' => Int.le_trans (hs _ _ (show i ≤ c by lia) (by lia)) (by lia), h2, ⟨?_, ?_⟩⟩
        rotate_left 2
        · k_extra "vat"
        · k_extra "vrest"
    · rename Fr _ _ _ _ => F5
      rename News _ _ _ _ => N5
      have hba : b = a := by lia
      subst hba
      refine' ⟨_, [], _, F5, N5, Sub.refl _, ⟨b, _, rfl, ⟨hb, h1, h2⟩, ⟨?_, ?_⟩⟩, Same.mk⟩
      rotate_left 1
      · k_extra "vat"
      · k_extra "vrest"
  · intro m' D' hh tkk hq1 F2 N2
    obtain ⟨a, t1, rfl, hB, V⟩ := hq1
    refine V.frL F2 ?_
    intro mv F3
    have N3 : News g L' hh news := N2
    clear F2 F1 N2 N1
    k_steps
    exact ⟨Same.mk, _, _, by assumption, N3, a, _, rfl, hB, rfl⟩
set_option maxHeartbeats 8000000 in
theorem bis_spec4 {prog : Program} {w : World} {l : Addr} {vs : List Value} {kc : Nat} {ns : List Int} {x : Int} {tx t0 : Tok} {news : List (Addr × Obj)} (hm : (l, listOf vs.toArray kc) ∈ news) (hi : IntsAre vs ns) (hs : Srt ns) (hz : ns.length < 2 ^ 30) :
    Spec prog w 1 112 [.ref l, .int x tx, .int 0 t0, .none] news (BisP ns x news) := by
  refine SpecW.spec ?_
  refine' SpecW.of [(Str.ofString "a", .ref l), (Str.ofString "x", .int x tx), (Str.ofString "lo", .int 0 t0), (Str.ofString "hi", .none), (Str.ofString "key", .none)] ?_ ?_ ?e ?_ ?_ ?_ ?_ ?_ ?_
  k_extra "sol"
  case e => exact fun S => rfl
  intro p loose mean mg mb dp un gd outer A₀ base g L' s A1 m0 E1 B F X N T hdp hun
  have hlen := hi.length
  k_steps
  refine Hold.un ?_
  rename Fr _ _ _ _ => F1
  rename News _ _ _ _ => N1
  refine whileL (n := ns.length) (D := []) (news := news) F1 N1
    (fun k m' D' => ∃ (a b : Nat) (t1 t2 : Tok), D' = [] ∧ a ≤ b ∧ b ≤ ns.length ∧ b - a ≤ k ∧ (∀ i, i < a → ns.getD i 0 ≤ x) ∧ (∀ i, b ≤ i → i < ns.length → x < ns.getD i 0) ∧ Vars m' (fun _ => none) ["a", "x", "lo", "hi", "key", "mid"] [("a", .ref l), ("x", .int x tx), ("lo", .int a t1), ("hi", .int b t2), ("key", .none)])
    (fun m' D' => ∃ (a : Nat) (t1 : Tok), D' = [] ∧ Bis ns x a ∧ Vars m' (fun _ => none) ["a", "x", "lo", "hi", "key", "mid"] [("lo", .int a t1)]) ?_ ?_ ?_
  · refine' ⟨0, ns.length, _, _, rfl, Nat.zero_le _, Nat.le_refl _, Nat.sub_le _ _, fun i h => absurd h (Nat.not_lt_zero i), fun i h h' => absurd h (Nat.not_le_of_lt h'), ⟨?_, ?_⟩⟩
    rotate_left 2
    · k_extra "vat"
    · k_extra "vrest"
  · intro J0 K0 k m₁ D₁ hh tkk Q0 S0 a0 b0 hq1 F2 N2
    obtain ⟨a, b, t1, t2, rfl, hab, hb, hk, h1, h2, V⟩ := hq1
    refine V.frL F2 ?_
    intro mv F3
    have N3 : News g L' hh news := N2
    clear F2 F1 N2 N1
    k_steps
    · rename Fr _ _ _ _ => F5
      rename News _ _ _ _ => N5
      refine Hold.un ?_
      have hd : ((a : Int) + (b : Int)).fdiv 2 = ((a + b) / 2 : Nat) := by rw [Int.fdiv_eq_ediv_of_nonneg _ (by decide)]; lia
      have hlt : a < b := by lia
      refine lst_ints (j := (a + b) / 2) N5 (by k_extra "mem") hi hd (by lia) (by lia) fun t9 => ?_
      generalize hmid : (a + b) / 2 = c at hd
      refine frI F5 hd ?_
      clear F5
      intro mx F5
      have hca : a ≤ c := by lia
      have hcb : c < b := by lia
      clear hd hmid
      k_steps
      · rename Fr _ _ _ _ => F6
        rename News _ _ _ _ => N6
        rename (x < _) => hx
        refine' WTurn.next (k := c - a) (D' := []) (by lia) F6 N6 (Sub.refl _) Same.mk ⟨a, c, _, _, rfl, hca, by lia, Nat.le_refl _, h1, fun i hi' hi2 => Int.lt_of_lt_of_le hx (hs _ _ hi' hi2), ⟨?_, ?_⟩⟩
        rotate_left 2
        · k_extra "vat"
        · k_extra "vrest"
      · rename Fr _ _ _ _ => F6
        rename News _ _ _ _ => N6
        have hx : ¬ (x < ns.getD c 0) := by first | assumption | lia
        refine' WTurn.next (k := b - (c + 1)) (D' := []) (by lia) F6 N6 (Sub.refl _) Same.mk ⟨c + 1, b, _, _, rfl, by lia, hb, Nat.le_refl _, fun i hi' => Int.le_trans (hs _ _ (show i ≤ c by lia) (by lia)) (by lia), h2, ⟨?_, ?_⟩⟩
        rotate_left 2
        · k_extra "vat"
        · k_extra "vrest"
    · rename Fr _ _ _ _ => F5
      rename News _ _ _ _ => N5
      have hba : b = a := by lia
      subst hba
      refine' ⟨_, [], _, F5, N5, Sub.refl _, ⟨b, _, rfl, ⟨hb, h1, h2⟩, ⟨?_, ?_⟩⟩, Same.mk⟩
      rotate_left 1
      · k_extra "vat"
      · k_extra "vrest"
  · intro m' D' hh tkk hq1 F2 N2
    obtain ⟨a, t1, rfl, hB, V⟩ := hq1
    refine V.frL F2 ?_
    intro mv F3
    have N3 : News g L' hh news := N2
    clear F2 F1 N2 N1
    k_steps
    exact ⟨Same.mk, _, _, by assumption, N3, a, _, rfl, hB, rfl⟩
end
section
theorem kw_Fins_0 : True := by
  k_with_none
  k_with "vat" => repeat' (first | exact List.forall_mem_nil _ | refine' List.forall_mem_cons.mpr ⟨?_, ?_⟩ | with_unfolding_all rfl)
  k_with "vrest" => first | ((repeat' (first | exact Vars.rest (by assumption) | exact vr_nil | exact vr_base | refine vr_upd ?_ (by with_unfolding_all rfl) | refine vr_set ?_ (by with_unfolding_all rfl))); done) | (intro zzz hzzz; (simp only [List.contains_cons, List.contains_nil, Bool.or_false, Bool.or_eq_false_iff, beq_eq_false_iff_ne, ne_eq] at hzzz); (simp [hzzz, upd, setL, baseOf, List.lookup]))
  k_with "exec For Name Name cons nil" => (refine' wpAny_For ?h ?hs; (case hs => (intro _; with_unfolding_all rfl)))
  k_with "exec For Name Call cons nil" => (refine' wpAny_For ?h ?hs; (case hs => (intro _; with_unfolding_all rfl)))
  k_with "exec For Name Attribute cons nil" => (refine' wpAny_For ?h ?hs; (case hs => (intro _; with_unfolding_all rfl)))
  k_with "sol" => all_goals (try (first | k_is | exact rfl | decide))
  k_with "sz" => first | omega | (simp only [List.length_append, List.length_cons, List.length_nil, List.length_map, List.length_replicate, List.length_reverse, List.length_set]; omega)
  k_with "sub" => first | exact Sub.refl _ | with_reducible assumption | exact Sub.nil | (refine Sub.cons ?_; k_extra "sub") | (refine Sub.trans (by with_reducible assumption) ?_; k_extra "sub") | fail "sub"
  k_with "member" => assumption
  k_with "ite" => first | with_reducible refine ite_tt ?_ | with_reducible refine ite_ff ?_
  k_with "execs nil" => refine wpAny_execs_nil ?_
  k_with "dp" => first | exact dpLe | omega
  k_with "un" => first | exact unLe | omega
  k_with "storeName" => (k_here; k_dflt (first | (refine' storeI ?_; intro q1zz) | (refine' storeS ?_; intro q1zz) | (refine' storeF ?_; intro q1zz) | refine' storeR ?_); k_whole; intro hpzz kpzz mpzz Fpzz Npzz; (try k_sweep))
  k_with "execs cons" => first | refine lastK ?_ | (refine cutK ?_; intro Qzz azz) | (refine enterK ?_; intro Qzz azz)
  k_with "KQ" => first | refine nextK (by assumption) ?_ | refine retK (by assumption) ?_ | refine impK (by assumption) ?_ | refine contK (by assumption) ?_ | refine brkK (by assumption) ?_
  k_with "KS" => refine stopK (by assumption) ?_
  k_with "exec If" => (refine ifK ?_; intro Qzz azz)
  k_with "KB" => refine ifB (by assumption) ?_
  k_with "KV" => refine stopV (by assumption) ?_
  k_with "exec While" => refine wpAny_While ?_
  k_with "exec While Compare" => refine wpAny_While ?_
  k_with "exec While BoolOp" => refine wpAny_While ?_
  k_with "eval ListComp" => (k_here; (with_reducible show wpAny _ _ (eval (PySem.Expr.ListComp _ [PySem.Comprehension.mk _ _ [] 0] _ _) _) _ _ _); k_dflt (refine LCg.ListComp_U (F₀ := by k_asm) (by with_unfolding_all rfl) (by decide) (by rfl) (by decide) (by rfl) ?_))
  k_with "eval ListComp" => (k_here; (with_reducible show wpAny _ _ (eval (PySem.Expr.ListComp _ [PySem.Comprehension.mk _ _ [_] 0] _ _) _) _ _ _); k_dflt (refine LCt.ListComp_T (F₀ := by k_asm) (by with_unfolding_all rfl) (by decide) (by rfl) (by decide) (by rfl) ?_))
  k_with "exec Assign cons ListComp" => (k_here; (with_reducible show wpAny _ _ (exec (PySem.Stmt.Assign [_] (PySem.Expr.ListComp _ [PySem.Comprehension.mk _ _ [] 0] _ _) _) _) _ _ _); k_dflt (refine LCg.Assign_ListComp_U (F₀ := by k_asm) (by rfl) (by with_unfolding_all rfl) (by with_unfolding_all rfl) (by decide) (by rfl) (by decide) (by rfl) (by rfl) (by rfl) ?_))
  k_with "exec Assign cons ListComp" => (k_here; (with_reducible show wpAny _ _ (exec (PySem.Stmt.Assign [_] (PySem.Expr.ListComp _ [PySem.Comprehension.mk _ _ [_] 0] _ _) _) _) _ _ _); k_dflt (refine LCt.Assign_ListComp_T (F₀ := by k_asm) (by rfl) (by with_unfolding_all rfl) (by with_unfolding_all rfl) (by decide) (by rfl) (by decide) (by rfl) (by rfl) (by rfl) ?_))
  k_with "CompSrc" => (k_here; refine Hold.mk ?_)
  k_with "CompSrcT" => (k_here; refine Hold.mk ?_)
  k_with "CompEnd" => (k_here; refine Hold.mk ?_)
  k_with "FinA" => (k_here; refine Hold.mk ?_)
  k_with "FinE" => (k_here; refine Hold.mk ?_)
  k_with "loadName" => (k_here; k_dflt (refine' ldnX ?k1 ?k2 ?_; (case k1 => k_asm); (case k2 => exact rfl); k_whole))
  k_with "newTuple" => (k_here; k_dflt (refine' tupR ?_); intro Dpzz hpzz kpzz Fpzz Npzz l1zz; (try k_lt l1zz); (try k_sweep))
  k_with "mem" => first | exact List.Mem.head _ | with_reducible assumption | (refine' List.mem_cons_of_mem _ ?_; k_extra "mem") | (refine' Sub.mem ?s ?m; (case s => with_reducible assumption); (case m => k_extra "mem")) | fail "mem"
  k_with "member" => k_extra "mem"
  k_with "call ref" => (k_here; refine Hold.mk ?_)
  k_with "call builtin:list.insert" => (k_here; refine Hold.mk ?_)
  exact True.intro
set_option maxHeartbeats 8000000 in
theorem ins_spec {prog : Program} {w : World} {l : Addr} {vs : List Value} {kc : Nat} {ns : List Int} {x : Int} {tx : Tok} {rest : List (Addr × Obj)} (hi : IntsAre vs ns) (hs : Srt ns) (hz : ns.length < 2 ^ 20) (hr : ∀ p ∈ rest, p.1 ≠ l) :
    Spec prog w 2 103 [.ref l, .int x tx] ((l, listOf vs.toArray kc) :: rest) (InsP l x ns rest) := by
  refine SpecW.spec ?_
  refine' SpecW.of [(Str.ofString "a", .ref l), (Str.ofString "x", .int x tx), (Str.ofString "lo", .int 0 308), (Str.ofString "hi", .none), (Str.ofString "key", .none)] ?_ ?_ ?e ?_ ?_ ?_ ?_ ?_ ?_
  k_extra "sol"
  case e =>
    intro S
    exact rfl
  intro p loose mean mg mb dp un gd outer A₀ base g L' s A1 m0 E1 B F X N T hdp hun
  have hlen := hi.length
  k_steps
  rename Fr _ _ _ _ => F1
  rename News _ _ _ _ => N1
  refine Hold.un ?_
  refine Spec.use (bis_spec4 (.head _) hi hs (by lia)) B F1 X N1 T (by exact rfl) (by k_extra "dp") (by k_extra "un") ?_
  rintro r9 n9 h9 tk9 F9 N9 ⟨v9, t9, e9, b9, d9⟩
  subst e9; subst d9
  clear F1 N1
  k_steps
  refine Hold.un ?_
  rename Fr _ _ _ _ => F1
  rename News _ _ _ _ => N1
  have hb := b9.le
  refine kl_insert F1 N1 (by unfold Builtin.List.listFitsIndex; simp; lia) rfl (Upd.head hr) (by rw [sizeLine_eq]; show vs.length ≤ _; lia) ?_
  intro h' F2 N2
  clear F1 N1
  have e : kl_ins vs (v9 : Int) (Value.int x tx) = vs.take v9 ++ Value.int x tx :: vs.drop v9 := by
    unfold kl_ins
    rw [if_neg (by lia), Int.toNat_natCast, Nat.min_eq_left (by lia)]
  rw [show kl_ins (vs.toArray).toList (v9 : Int) (Value.int x tx) = _ from e] at N2
  k_steps
  rename Fr _ _ _ _ => F3
  exact ⟨Same.mk, _, _, F3, N2, _, insI ns v9 x, _, rfl, rfl, IntsAre.append (ints_take hi v9) (.cons _ _ (ints_drop hi v9)), insI_srt hs b9, insI_len, insI_perm⟩
end
section
theorem kw_Flit_0 : True := by
  k_with_none
  k_with "vat" => repeat' (first | exact List.forall_mem_nil _ | refine' List.forall_mem_cons.mpr ⟨?_, ?_⟩ | with_unfolding_all rfl)
  k_with "vrest" => first | ((repeat' (first | exact Vars.rest (by assumption) | exact vr_nil | exact vr_base | refine vr_upd ?_ (by with_unfolding_all rfl) | refine vr_set ?_ (by with_unfolding_all rfl))); done) | (intro zzz hzzz; (simp only [List.contains_cons, List.contains_nil, Bool.or_false, Bool.or_eq_false_iff, beq_eq_false_iff_ne, ne_eq] at hzzz); (simp [hzzz, upd, setL, baseOf, List.lookup]))
  k_with "exec For Name Name cons nil" => (refine' wpAny_For ?h ?hs; (case hs => (intro _; with_unfolding_all rfl)))
  k_with "exec For Name Call cons nil" => (refine' wpAny_For ?h ?hs; (case hs => (intro _; with_unfolding_all rfl)))
  k_with "exec For Name Attribute cons nil" => (refine' wpAny_For ?h ?hs; (case hs => (intro _; with_unfolding_all rfl)))
  k_with "sol" => all_goals (try (first | k_is | exact rfl | decide))
  k_with "sz" => first | omega | (simp only [List.length_append, List.length_cons, List.length_nil, List.length_map, List.length_replicate, List.length_reverse, List.length_set]; omega)
  k_with "sub" => first | exact Sub.refl _ | with_reducible assumption | exact Sub.nil | (refine Sub.cons ?_; k_extra "sub") | (refine Sub.trans (by with_reducible assumption) ?_; k_extra "sub") | fail "sub"
  k_with "member" => assumption
  k_with "ite" => first | with_reducible refine ite_tt ?_ | with_reducible refine ite_ff ?_
  k_with "execs nil" => refine wpAny_execs_nil ?_
  k_with "dp" => first | exact dpLe | omega
  k_with "un" => first | exact unLe | omega
  k_with "storeName" => (k_here; k_dflt (first | (refine' storeI ?_; intro q1zz) | (refine' storeS ?_; intro q1zz) | (refine' storeF ?_; intro q1zz) | refine' storeR ?_); k_whole; intro hpzz kpzz mpzz Fpzz Npzz; (try k_sweep))
  k_with "execs cons" => first | refine lastK ?_ | (refine cutK ?_; intro Qzz azz) | (refine enterK ?_; intro Qzz azz)
  k_with "KQ" => first | refine nextK (by assumption) ?_ | refine retK (by assumption) ?_ | refine impK (by assumption) ?_ | refine contK (by assumption) ?_ | refine brkK (by assumption) ?_
  k_with "KS" => refine stopK (by assumption) ?_
  k_with "exec If" => (refine ifK ?_; intro Qzz azz)
  k_with "KB" => refine ifB (by assumption) ?_
  k_with "KV" => refine stopV (by assumption) ?_
  k_with "exec While" => refine wpAny_While ?_
  k_with "exec While Compare" => refine wpAny_While ?_
  k_with "exec While BoolOp" => refine wpAny_While ?_
  k_with "eval ListComp" => (k_here; (with_reducible show wpAny _ _ (eval (PySem.Expr.ListComp _ [PySem.Comprehension.mk _ _ [] 0] _ _) _) _ _ _); k_dflt (refine LCg.ListComp_U (F₀ := by k_asm) (by with_unfolding_all rfl) (by decide) (by rfl) (by decide) (by rfl) ?_))
  k_with "eval ListComp" => (k_here; (with_reducible show wpAny _ _ (eval (PySem.Expr.ListComp _ [PySem.Comprehension.mk _ _ [_] 0] _ _) _) _ _ _); k_dflt (refine LCt.ListComp_T (F₀ := by k_asm) (by with_unfolding_all rfl) (by decide) (by rfl) (by decide) (by rfl) ?_))
  k_with "exec Assign cons ListComp" => (k_here; (with_reducible show wpAny _ _ (exec (PySem.Stmt.Assign [_] (PySem.Expr.ListComp _ [PySem.Comprehension.mk _ _ [] 0] _ _) _) _) _ _ _); k_dflt (refine LCg.Assign_ListComp_U (F₀ := by k_asm) (by rfl) (by with_unfolding_all rfl) (by with_unfolding_all rfl) (by decide) (by rfl) (by decide) (by rfl) (by rfl) (by rfl) ?_))
  k_with "exec Assign cons ListComp" => (k_here; (with_reducible show wpAny _ _ (exec (PySem.Stmt.Assign [_] (PySem.Expr.ListComp _ [PySem.Comprehension.mk _ _ [_] 0] _ _) _) _) _ _ _); k_dflt (refine LCt.Assign_ListComp_T (F₀ := by k_asm) (by rfl) (by with_unfolding_all rfl) (by with_unfolding_all rfl) (by decide) (by rfl) (by decide) (by rfl) (by rfl) (by rfl) ?_))
  k_with "CompSrc" => (k_here; refine Hold.mk ?_)
  k_with "CompSrcT" => (k_here; refine Hold.mk ?_)
  k_with "CompEnd" => (k_here; refine Hold.mk ?_)
  k_with "FinA" => (k_here; refine Hold.mk ?_)
  k_with "FinE" => (k_here; refine Hold.mk ?_)
  k_with "loadName" => (k_here; k_dflt (refine' ldnX ?k1 ?k2 ?_; (case k1 => k_asm); (case k2 => exact rfl); k_whole))
  k_with "newTuple" => (k_here; k_dflt (refine' tupR ?_); intro Dpzz hpzz kpzz Fpzz Npzz l1zz; (try k_lt l1zz); (try k_sweep))
  k_with "mem" => first | exact List.Mem.head _ | with_reducible assumption | (refine' List.mem_cons_of_mem _ ?_; k_extra "mem") | (refine' Sub.mem ?s ?m; (case s => with_reducible assumption); (case m => k_extra "mem")) | fail "mem"
  k_with "member" => k_extra "mem"
  k_with "subscriptTail" => (k_here; (with_reducible show wpAny _ _ (subscriptTail _ _ (Value.ref _) (gS _ _)) _ _ _); refine Hold.mk ?_)
  k_with "subscriptTail" => (k_here; (with_reducible show wpAny _ _ (subscriptTail _ _ (Value.ref _) (Value.int _ _)) _ _ _); refine' lst_at (h := ?_))
  k_with "call type:int" => (k_here; (with_reducible refine int_digit (by with_reducible assumption) ?_))
  k_with "in" => first | with_reducible assumption | (refine' AT.In.mono ?s ?h; (case h => with_reducible assumption); (case s => first | with_reducible assumption | exact fun p hp => List.mem_cons_of_mem _ hp))
  k_with "compareOp Eq ref ref" => (k_here; first | refine' eq_nn (h := ?_) | refine' eq_gn (h := ?_))
  k_with "compareOp NotEq ref ref" => (k_here; first | refine' ne_nn (h := ?_) | refine' ne_gn (h := ?_))
  k_with "call ref" => (k_here; refine' Spec.go (Post := IntP _ _) (C := by first | with_reducible assumption | assumption) (ret := ?_); rintro r9zz n9zz h9zz tk9zz F9zz N9zz ⟨⟨t9zz, e9zz⟩, d9zz⟩; subst e9zz; subst d9zz)
  k_with "Exists" => (k_here; refine kda_made_str (by k_asm) (by k_asm) (Top.nolimit (by k_asm)) (by rfl) (of_decide_eq_true (by rfl)) (by rfl) ?_; intro hpzz opzz Fpzz Npzz l1zz lopzz hdpzz; (try k_lt l1zz))
  k_with "eval Dict" => (k_here; (with_reducible refine Dict_made_str (by with_unfolding_all rfl) (by k_asm) (by with_unfolding_all rfl) (by with_unfolding_all rfl) (List.cons_ne_nil _ _) (by with_unfolding_all decide) ?_; intro _))
  k_with "exec Assign cons Dict" => (with_reducible refine wpAny_Assign_Name ?_ ?_; rotate_left; with_unfolding_all rfl)
  k_with "call builtin:sorted" => (k_here; refine Hold.mk ?_)
  k_with "call ref" => (k_here; refine' Spec.go (Post := BoolP _ _) (C := by with_reducible first | exact nt_leaf _ | exact nt_gate _ | exact tm_leaf _ | exact tm_gate _) (ret := ?_); rintro r9zz n9zz h9zz tk9zz F9zz N9zz ⟨e9zz, d9zz⟩; subst e9zz; subst d9zz)
  k_with "call ref" => (k_here; refine Hold.mk ?_)
  exact True.intro
def LitP (ds : List Int) (news : List (Addr × Obj)) (r : Value) (news' : List (Addr × Obj)) : Prop :=
  ∃ L vs ns k, r = .ref L ∧ Sub ((L, listOf (List.toArray vs) k) :: news) news' ∧ (∀ p ∈ news, p.1 ≠ L) ∧ IntsAre vs ns ∧ Srt ns ∧ ns.Perm ds
def Lvs (qs : List (Addr × Addr × Nat)) (news : List (Addr × Obj)) : Prop := ∀ q ∈ qs, ∃ t k, (q.1, listOf [lI q.2.2 t, .ref q.2.1].toArray k) ∈ news
theorem AT.In.lvs' {news : List (Addr × Obj)} {t : AT} (h : t.In lI gI news) : Lvs t.lvs news := h.lvsF
set_option maxHeartbeats 8000000 in
theorem lit_spec {prog : Program} {w : World} {l : Addr} {k : Nat} {qs : List (Addr × Addr × Nat)} {news : List (Addr × Obj)} (hm : (l, listOf (qs.map fun q => Value.ref q.1).toArray k) ∈ news) (hq : Lvs qs news) (hz : qs.length < 2 ^ 20) :
    Spec prog w 3 243 [.ref l] news (LitP (qs.map fun q => (q.2.2 : Int)) news) := by
  refine' Spec.of [(Str.ofString "leaves", .ref l)] ?_ ?_ ?_ ?_ ?_ ?_ ?_ ?_ ?_
  k_extra "sol"
  intro p loose mean mg mb dp un gd outer A₀ base g L' s A1 m0 E1 B F X N T hdp hun
  k_steps
  rename Fr _ _ _ _ => F1
  rename News _ _ _ _ => N1
  rename (∀ p ∈ news, p.1 < _) => lA
  refine name_it (P := fun b => ∀ p ∈ news, p.1 < b) lA fun la ela => ?_
  subst ela
  have hlb : Heap.IsList _ l (qs.map fun q => Value.ref q.1).toArray := News.isList N1 (.tail _ hm)
  have hll : l ≠ la := Nat.ne_of_lt (lA _ hm)
  refine forL (vs := qs.map fun q => Value.ref q.1) (D := [(la, listOf #[] 0)]) (news := news) hlb (N1 _ (.tail _ hm)).2.1 F1 N1
    (fun j m' D' => ∃ vs ns k, D' = [(la, listOf (List.toArray vs) k)] ∧ IntsAre vs ns ∧ Srt ns ∧ ns.Perm ((qs.take j).map fun q => (q.2.2 : Int)) ∧ Vars m' (fun _ => none) ["leaves", "lights", "leaf"] [("leaves", .ref l), ("lights", .ref la)]) ?_ ?_ ?_
  · refine' ⟨[], [], 0, rfl, .nil, fun i j _ h => absurd h (Nat.not_lt_zero _), List.Perm.refl _, ⟨?_, ?_⟩⟩
    · k_extra "vat"
    · k_extra "vrest"
  · intro J0 j v m₁ D₁ rest hh tkk I Q0 a0 hj hq1 hsub hr hI hoI hoff F2 N2
    obtain ⟨vs, ns, k0, rfl, hi, hs, hp, V⟩ := hq1
    refine V.frxL F2 ?_
    intro mv mw F3
    have N3 : News g L' hh ((la, _) :: rest) := N2
    clear F2 F1 N2 N1 hlb
    rw [List.getElem?_map] at hj
    have hobt := Option.map_eq_some_iff.mp hj
    obtain ⟨q, hqj, rfl⟩ := hobt
    obtain ⟨a, b, d⟩ := q
    have hobt := hq _ (List.mem_of_getElem? hqj)
    obtain ⟨t, kq, hq2⟩ := hobt
    have hq3 := hsub _ hq2
    have hjl : j < qs.length := (List.getElem?_eq_some_iff.mp hqj).1
    have hnl : ns.length = j := by rw [hp.length_eq]; simp; lia
    have hrl : ∀ p ∈ rest, p.1 ≠ la := fun p hp' => by
      rcases hr p hp' with h | h | h
      · exact Nat.ne_of_lt (lA p h)
      · rw [h]; exact fun e => hoff _ (.head _) e.symm
      · rw [h]; exact hll
    k_steps
    refine Hold.un ?_
    rename Fr _ _ _ _ => F5
    rename News _ _ _ _ => N5
    refine Spec.use (ins_spec hi hs (by lia) hrl) B F5 X N5 T (by exact rfl) (by k_extra "dp") (by k_extra "un") ?_
    rintro r9 n9 h9 tk9 F9 N9 ⟨vs', ns', k', rfl, rfl, i9, s9, l9, p9⟩
    clear F5 N5
    k_steps
    rename Fr _ _ _ _ => F10
    refine MTurn.next (D' := [(la, _)]) F10 N9 (Sub.refl _) ?_ Same.mk ⟨vs', ns', k', rfl, i9, s9, ?_, ⟨?_, ?_⟩⟩
    · intro p hp'
      rw [List.mem_singleton.mp hp']
      exact hoff (la, listOf (List.toArray vs) k0) (.head _)
    · rw [List.take_add_one, hqj, List.map_append]
      refine p9.trans ((List.Perm.cons _ hp).trans ?_)
      rw [show (256 + (d : Int) - 256) = d by lia]
      exact (List.perm_append_singleton _ _).symm
    · k_extra "vat"
    · k_extra "vrest"
  · intro m' D' hh tkk hq1 F2 N2
    obtain ⟨vs, ns, k0, rfl, hi, hs, hp, V⟩ := hq1
    refine V.frL F2 ?_
    intro mv F3
    have N3 : News g L' hh ((la, _) :: news) := N2
    clear F2 F1 N2 N1
    k_steps
    rw [List.length_map, List.take_length] at hp
    exact ⟨Same.mk, _, _, by assumption, N3, la, vs, ns, k0, rfl, Sub.refl _, fun p hp => Nat.ne_of_lt (lA p hp), hi, hs, hp⟩
end
section
theorem kw_Fbil_0 : True := by
  k_with_none
  k_with "vat" => repeat' (first | exact List.forall_mem_nil _ | refine' List.forall_mem_cons.mpr ⟨?_, ?_⟩ | with_unfolding_all rfl)
  k_with "vrest" => first | ((repeat' (first | exact Vars.rest (by assumption) | exact vr_nil | exact vr_base | refine vr_upd ?_ (by with_unfolding_all rfl) | refine vr_set ?_ (by with_unfolding_all rfl))); done) | (intro zzz hzzz; (simp only [List.contains_cons, List.contains_nil, Bool.or_false, Bool.or_eq_false_iff, beq_eq_false_iff_ne, ne_eq] at hzzz); (simp [hzzz, upd, setL, baseOf, List.lookup]))
  k_with "exec For Name Name cons nil" => (refine' wpAny_For ?h ?hs; (case hs => (intro _; with_unfolding_all rfl)))
  k_with "exec For Name Call cons nil" => (refine' wpAny_For ?h ?hs; (case hs => (intro _; with_unfolding_all rfl)))
  k_with "exec For Name Attribute cons nil" => (refine' wpAny_For ?h ?hs; (case hs => (intro _; with_unfolding_all rfl)))
  k_with "sol" => all_goals (try (first | k_is | exact rfl | decide))
  k_with "sz" => first | omega | (simp only [List.length_append, List.length_cons, List.length_nil, List.length_map, List.length_replicate, List.length_reverse, List.length_set]; omega)
  k_with "sub" => first | exact Sub.refl _ | with_reducible assumption | exact Sub.nil | (refine Sub.cons ?_; k_extra "sub") | (refine Sub.trans (by with_reducible assumption) ?_; k_extra "sub") | fail "sub"
  k_with "member" => assumption
  k_with "ite" => first | with_reducible refine ite_tt ?_ | with_reducible refine ite_ff ?_
  k_with "execs nil" => refine wpAny_execs_nil ?_
  k_with "dp" => first | exact dpLe | omega
  k_with "un" => first | exact unLe | omega
  k_with "storeName" => (k_here; k_dflt (first | (refine' storeI ?_; intro q1zz) | (refine' storeS ?_; intro q1zz) | (refine' storeF ?_; intro q1zz) | refine' storeR ?_); k_whole; intro hpzz kpzz mpzz Fpzz Npzz; (try k_sweep))
  k_with "execs cons" => first | refine lastK ?_ | (refine cutK ?_; intro Qzz azz) | (refine enterK ?_; intro Qzz azz)
  k_with "KQ" => first | refine nextK (by assumption) ?_ | refine retK (by assumption) ?_ | refine impK (by assumption) ?_ | refine contK (by assumption) ?_ | refine brkK (by assumption) ?_
  k_with "KS" => refine stopK (by assumption) ?_
  k_with "exec If" => (refine ifK ?_; intro Qzz azz)
  k_with "KB" => refine ifB (by assumption) ?_
  k_with "KV" => refine stopV (by assumption) ?_
  k_with "exec While" => refine wpAny_While ?_
  k_with "exec While Compare" => refine wpAny_While ?_
  k_with "exec While BoolOp" => refine wpAny_While ?_
  k_with "eval ListComp" => (k_here; (with_reducible show wpAny _ _ (eval (PySem.Expr.ListComp _ [PySem.Comprehension.mk _ _ [] 0] _ _) _) _ _ _); k_dflt (refine LCg.ListComp_U (F₀ := by k_asm) (by with_unfolding_all rfl) (by decide) (by rfl) (by decide) (by rfl) ?_))
  k_with "eval ListComp" => (k_here; (with_reducible show wpAny _ _ (eval (PySem.Expr.ListComp _ [PySem.Comprehension.mk _ _ [_] 0] _ _) _) _ _ _); k_dflt (refine LCt.ListComp_T (F₀ := by k_asm) (by with_unfolding_all rfl) (by decide) (by rfl) (by decide) (by rfl) ?_))
  k_with "exec Assign cons ListComp" => (k_here; (with_reducible show wpAny _ _ (exec (PySem.Stmt.Assign [_] (PySem.Expr.ListComp _ [PySem.Comprehension.mk _ _ [] 0] _ _) _) _) _ _ _); k_dflt (refine LCg.Assign_ListComp_U (F₀ := by k_asm) (by rfl) (by with_unfolding_all rfl) (by with_unfolding_all rfl) (by decide) (by rfl) (by decide) (by rfl) (by rfl) (by rfl) ?_))
  k_with "exec Assign cons ListComp" => (k_here; (with_reducible show wpAny _ _ (exec (PySem.Stmt.Assign [_] (PySem.Expr.ListComp _ [PySem.Comprehension.mk _ _ [_] 0] _ _) _) _) _ _ _); k_dflt (refine LCt.Assign_ListComp_T (F₀ := by k_asm) (by rfl) (by with_unfolding_all rfl) (by with_unfolding_all rfl) (by decide) (by rfl) (by decide) (by rfl) (by rfl) (by rfl) ?_))
  k_with "CompSrc" => (k_here; refine Hold.mk ?_)
  k_with "CompSrcT" => (k_here; refine Hold.mk ?_)
  k_with "CompEnd" => (k_here; refine Hold.mk ?_)
  k_with "FinA" => (k_here; refine Hold.mk ?_)
  k_with "FinE" => (k_here; refine Hold.mk ?_)
  k_with "loadName" => (k_here; k_dflt (refine' ldnX ?k1 ?k2 ?_; (case k1 => k_asm); (case k2 => exact rfl); k_whole))
  k_with "newTuple" => (k_here; k_dflt (refine' tupR ?_); intro Dpzz hpzz kpzz Fpzz Npzz l1zz; (try k_lt l1zz); (try k_sweep))
  k_with "mem" => first | exact List.Mem.head _ | with_reducible assumption | (refine' List.mem_cons_of_mem _ ?_; k_extra "mem") | (refine' Sub.mem ?s ?m; (case s => with_reducible assumption); (case m => k_extra "mem")) | fail "mem"
  k_with "member" => k_extra "mem"
  k_with "exec While Compare cons nil" => (k_here; refine wpAny_While ?_; refine Hold.mk ?_)
  k_with "call builtin:len" => (k_here; refine' len_lstM (h := ?_))
  k_with "subscriptTail Name Name ref int" => (k_here; refine Hold.mk ?_)
  k_with "FnAt" => (k_dflt (exact FnAt.of (by k_asm) (by assumption)))
  k_with "callWith ref" => (k_here; k_dflt (refine' callWith_F ?k1 ?_; (case k1 => exact FnAt.of (by k_asm) (by assumption)); k_whole))
  k_with "call ref" => (k_here; refine Hold.mk ?_)
  exact True.intro
def BilP (kb : Int → Bool) (ns : List Int) (news : List (Addr × Obj)) (r : Value) (news' : List (Addr × Obj)) : Prop :=
  ∃ (n : Nat) (t : Tok), r = .int n t ∧ n ≤ ns.length ∧ (∀ i, i < n → kb (ns.getD i 0) = false) ∧ (∀ i, n ≤ i → i < ns.length → kb (ns.getD i 0) = true) ∧ news = news'
set_option maxHeartbeats 8000000 in
theorem bil_spec {prog : Program} {w : World} {l kf : Addr} {vs : List Value} {kc n : Nat} {ns : List Int} {kb : Int → Bool} {news : List (Addr × Obj)} {oc : Value} {od : Option Addr} {fd : FuncData} {sl : Array (Option Value)} (hkf : (kf, (⟨oc, od, .func fd, sl⟩ : Obj)) ∈ news) (hm : (l, listOf vs.toArray kc) ∈ news) (hi : IntsAre vs ns) (hs : ∀ i j, i ≤ j → j < ns.length → kb (ns.getD i 0) = true → kb (ns.getD j 0) = true) (hz : ns.length < 2 ^ 30)
    (hk : ∀ v tv, Spec prog w n kf [.int v tv] news (BoolP (kb v) news)) :
    SpecW prog w (n + 2) 121 [.ref l, .bool true] [(Str.ofString "key", .ref kf)] news (BilP kb ns news) := by
  refine' SpecW.of [(Str.ofString "a", .ref l), (Str.ofString "x", .bool true), (Str.ofString "lo", .int 0 335), (Str.ofString "hi", .none), (Str.ofString "key", .ref kf)] ?_ ?_ ?e ?_ ?_ ?_ ?_ ?_ ?_
  k_extra "sol"
  case e =>
    intro S
    exact rfl
  intro p loose mean mg mb dp un gd outer A₀ base g L' s A1 m0 E1 B F X N T hdp hun
  have hlen := hi.length
  k_steps
  refine Hold.un ?_
  rename Fr _ _ _ _ => F1
  rename News _ _ _ _ => N1
  refine whileL (n := ns.length) (D := []) (news := news) F1 N1
    (fun k m' D' => ∃ (a b : Nat) (t1 t2 : Tok), D' = [] ∧ a ≤ b ∧ b ≤ ns.length ∧ b - a ≤ k ∧ (∀ i, i < a → kb (ns.getD i 0) = false) ∧ (∀ i, b ≤ i → i < ns.length → kb (ns.getD i 0) = true) ∧ Vars m' (fun _ => none) ["a", "x", "lo", "hi", "key", "mid"] [("a", .ref l), ("x", .bool true), ("lo", .int a t1), ("hi", .int b t2), ("key", .ref kf)])
    (fun m' D' => ∃ (a : Nat) (t1 : Tok), D' = [] ∧ a ≤ ns.length ∧ (∀ i, i < a → kb (ns.getD i 0) = false) ∧ (∀ i, a ≤ i → i < ns.length → kb (ns.getD i 0) = true) ∧ Vars m' (fun _ => none) ["a", "x", "lo", "hi", "key", "mid"] [("lo", .int a t1)]) ?_ ?_ ?_
  · refine' ⟨0, ns.length, _, _, rfl, Nat.zero_le _, Nat.le_refl _, Nat.sub_le _ _, fun i h => absurd h (Nat.not_lt_zero i), fun i h h' => absurd h (Nat.not_le_of_lt h'), ⟨?_, ?_⟩⟩
    rotate_left 2
    · k_extra "vat"
    · k_extra "vrest"
  · intro J0 K0 k m₁ D₁ hh tkk Q0 S0 a0 b0 hq1 F2 N2
    obtain ⟨a, b, t1, t2, rfl, hab, hb, hk', h1, h2, V⟩ := hq1
    refine V.frL F2 ?_
    intro mv F3
    have N3 : News g L' hh news := N2
    clear F2 F1 N2 N1
    k_steps
    · rename Fr _ _ _ _ => F5
      rename News _ _ _ _ => N5
      refine Hold.un ?_
      have hd : ((a : Int) + (b : Int)).fdiv 2 = ((a + b) / 2 : Nat) := by rw [Int.fdiv_eq_ediv_of_nonneg _ (by decide)]; lia
      have hlt : a < b := by lia
      refine lst_ints (j := (a + b) / 2) N5 (by k_extra "mem") hi hd (by lia) (by lia) fun t9 => ?_
      generalize hmid : (a + b) / 2 = c at hd
      refine frI F5 hd ?_
      clear F5
      intro mx F5
      have hca : a ≤ c := by lia
      have hcb : c < b := by lia
      clear hd hmid
      k_steps
      rename Fr _ _ _ _ => F6
      rename News _ _ _ _ => N6
      refine Hold.un ?_
      refine Spec.use (hk (ns.getD c 0) t9) B F6 X N6 T (by exact rfl) (by k_extra "dp") (by k_extra "un") ?_
      rintro r9 n9 h9 tk9 F9 N9 ⟨e9, d9⟩
      subst e9; subst d9
      clear F6 N6
      cases hkb : kb (ns.getD c 0) with
      | false =>
        k_steps
        rename Fr _ _ _ _ => F7
        rename News _ _ _ _ => N7
        refine' WTurn.next (k := b - (c + 1)) (D' := []) (by lia) F7 N7 (Sub.refl _) Same.mk ⟨c + 1, b, _, _, rfl, by lia, hb, Nat.le_refl _, fun i hi' => ?_, h2, ⟨?_, ?_⟩⟩
        rotate_left 2
        · cases hq : kb (ns.getD i 0) with
          | false => rfl
          | true => rw [hs i c (by lia) (by lia) hq] at hkb; cases hkb
        · k_extra "vat"
        · k_extra "vrest"
      | true =>
        k_steps
        rename Fr _ _ _ _ => F7
        rename News _ _ _ _ => N7
        refine' WTurn.next (k := c - a) (D' := []) (by lia) F7 N7 (Sub.refl _) Same.mk ⟨a, c, _, _, rfl, hca, by lia, Nat.le_refl _, h1, fun i hi' hi2 => hs _ _ hi' hi2 hkb, ⟨?_, ?_⟩⟩
        rotate_left 2
        · k_extra "vat"
        · k_extra "vrest"
    · rename Fr _ _ _ _ => F5
      rename News _ _ _ _ => N5
      have hba : b = a := by lia
      subst hba
      refine' ⟨_, [], _, F5, N5, Sub.refl _, ⟨b, _, rfl, hb, h1, h2, ⟨?_, ?_⟩⟩, Same.mk⟩
      rotate_left 1
      · k_extra "vat"
      · k_extra "vrest"
  · intro m' D' hh tkk hq1 F2 N2
    obtain ⟨a, t1, rfl, hB1, hB2, hB3, V⟩ := hq1
    refine V.frL F2 ?_
    intro mv F3
    have N3 : News g L' hh news := N2
    clear F2 F1 N2 N1
    k_steps
    exact ⟨Same.mk, _, _, by assumption, N3, a, _, rfl, hB1, hB2, hB3, rfl⟩
end
section
theorem kw_Kset_0 : True := by
  k_with_none
  k_with "vat" => repeat' (first | exact List.forall_mem_nil _ | refine' List.forall_mem_cons.mpr ⟨?_, ?_⟩ | with_unfolding_all rfl)
  k_with "vrest" => first | ((repeat' (first | exact Vars.rest (by assumption) | exact vr_nil | exact vr_base | refine vr_upd ?_ (by with_unfolding_all rfl) | refine vr_set ?_ (by with_unfolding_all rfl))); done) | (intro zzz hzzz; (simp only [List.contains_cons, List.contains_nil, Bool.or_false, Bool.or_eq_false_iff, beq_eq_false_iff_ne, ne_eq] at hzzz); (simp [hzzz, upd, setL, baseOf, List.lookup]))
  k_with "exec For Name Name cons nil" => (refine' wpAny_For ?h ?hs; (case hs => (intro _; with_unfolding_all rfl)))
  k_with "exec For Name Call cons nil" => (refine' wpAny_For ?h ?hs; (case hs => (intro _; with_unfolding_all rfl)))
  k_with "exec For Name Attribute cons nil" => (refine' wpAny_For ?h ?hs; (case hs => (intro _; with_unfolding_all rfl)))
  k_with "sol" => all_goals (try (first | k_is | exact rfl | decide))
  k_with "sz" => first | omega | (simp only [List.length_append, List.length_cons, List.length_nil, List.length_map, List.length_replicate, List.length_reverse, List.length_set]; omega)
  k_with "sub" => first | exact Sub.refl _ | with_reducible assumption | exact Sub.nil | (refine Sub.cons ?_; k_extra "sub") | (refine Sub.trans (by with_reducible assumption) ?_; k_extra "sub") | fail "sub"
  k_with "member" => assumption
  k_with "ite" => first | with_reducible refine ite_tt ?_ | with_reducible refine ite_ff ?_
  k_with "execs nil" => refine wpAny_execs_nil ?_
  k_with "dp" => first | exact dpLe | omega
  k_with "un" => first | exact unLe | omega
  k_with "storeName" => (k_here; k_dflt (first | (refine' storeI ?_; intro q1zz) | (refine' storeS ?_; intro q1zz) | (refine' storeF ?_; intro q1zz) | refine' storeR ?_); k_whole; intro hpzz kpzz mpzz Fpzz Npzz; (try k_sweep))
  k_with "execs cons" => first | refine lastK ?_ | (refine cutK ?_; intro Qzz azz) | (refine enterK ?_; intro Qzz azz)
  k_with "KQ" => first | refine nextK (by assumption) ?_ | refine retK (by assumption) ?_ | refine impK (by assumption) ?_ | refine contK (by assumption) ?_ | refine brkK (by assumption) ?_
  k_with "KS" => refine stopK (by assumption) ?_
  k_with "exec If" => (refine ifK ?_; intro Qzz azz)
  k_with "KB" => refine ifB (by assumption) ?_
  k_with "KV" => refine stopV (by assumption) ?_
  exact True.intro
section
variable {prog : Program} {w : World} {A : Around} {E : Value → Shared → Prop} {s : Shared} {h₀ : Heap} {L D : Addr} {m : Str → Option Value} {news rest : List (Addr × Obj)} {vs : List Value} {n j : Nat} {k : Int} {t : Tok} {v : Value}
theorem setAt {Q : Unit → Shared → Prop} (F : Fr h₀ L s.heap m) (N : News h₀ L s.heap ((D, listOf vs.toArray n) :: rest)) (hr : ∀ p ∈ rest, p.1 ≠ D) (hk : k = (j : Int)) (hj : j < vs.length) (hz : vs.length < 2 ^ 62)
    (h : ∀ h', Fr h₀ L h' m → News h₀ L h' ((D, listOf (vs.set j v).toArray n) :: rest) → Q () { s with heap := h' }) : wpAny (model prog w) A (setItem (.ref D) (.int k t) v) Q E s := by
  subst hk
  have z := N (D, listOf vs.toArray n) (.head _)
  refine ki_setAt z.1 (by lia) (by lia) (by rw [List.size_toArray]; lia) (h _ (F.change (Heap.SameBut.update ..) z.2.1 z.2.2) (ki_turn (pre := []) _ N (fun _ h => nomatch h) hr ?_ ?_))
  · show vs.toArray.setIfInBounds (j : Int).toNat v = (vs.set j v).toArray
    apply Array.toList_inj.mp
    simp
  · simp
end
theorem sub_off {h₀ h : Heap} {L D : Addr} {o : Obj} {news : List (Addr × Obj)} (N : News h₀ L h news) (hm : (D, o) ∈ news) : Sub news ((D, o) :: off D news) := fun p hp => by
  obtain ⟨a, o'⟩ := p
  by_cases e : a = D
  · subst e; rw [News.uniq N hp hm]; exact .head _
  · exact .tail _ (off_mem hp e)
theorem listOf_inj {a b : List Value} {k k' : Nat} (h : listOf a.toArray k = listOf b.toArray k') : a = b ∧ k = k' := by
  have h1 : (Data.seq a.toArray k : Data) = .seq b.toArray k' := congrArg Obj.data h
  injection h1 with h2 h3
  exact ⟨by simpa using h2, h3⟩
def AT.put (q : Addr) (v : Nat) : AT → AT
  | .leaf a b d => .leaf a b (if a = q then v else d)
  | .gate a b k x y z => .gate a b k (x.put q v) (y.put q v) (z.put q v)
theorem AT.put_addr {q : Addr} {v : Nat} {t : AT} : (t.put q v).addr = t.addr := by cases t <;> rfl
theorem AT.put_dep {q : Addr} {v : Nat} : ∀ {t : AT}, (t.put q v).tr.dep = t.tr.dep
  | .leaf .. => rfl
  | .gate a b k x y z => by
    show max (x.put q v).tr.dep (max (y.put q v).tr.dep (z.put q v).tr.dep) + 1 = _
    rw [x.put_dep, y.put_dep, z.put_dep]; rfl
theorem AT.put_ok {q : Addr} {v : Nat} (hv : v < 9) : ∀ {t : AT}, t.tr.ok → (t.put q v).tr.ok
  | .leaf a b d, h => by
    show (if a = q then v else d) < 9
    split
    · exact hv
    · exact h
  | .gate a b k x y z, h => ⟨h.1, x.put_ok hv h.2.1, y.put_ok hv h.2.2.1, z.put_ok hv h.2.2.2⟩
theorem kindI_le (k : Nat) : kindI k ≤ 32 := by unfold kindI; split; lia; split <;> lia
theorem AT.put_in {h₀ h : Heap} {L q b0 : Addr} {d0 k0 v : Nat} {t0 tv : Tok} {news : List (Addr × Obj)} (N : News h₀ L h news) (hq : (q, listOf [lI d0 t0, .ref b0].toArray k0) ∈ news) :
    ∀ {t : AT}, t.In lI gI news → (t.put q v).In lI gI ((q, listOf [lI v tv, .ref b0].toArray k0) :: off q news)
  | .leaf a b d, ⟨t, k, k', h1, h2⟩ => by
    have hb : b ≠ q := fun e => by
      subst e
      have := (listOf_inj (News.uniq N h2 hq)).1
      cases this
    show AT.In lI gI _ (.leaf a b (if a = q then v else d))
    by_cases e : a = q
    · subst e
      rw [if_pos rfl]
      obtain ⟨e1, e2⟩ := listOf_inj (News.uniq N h1 hq)
      have e3 : b = b0 := by injection e1 with _ e4; injection e4 with e5; injection e5
      subst e3; subst e2
      exact ⟨tv, k, k', .head _, .tail _ (off_mem h2 hb)⟩
    · rw [if_neg e]
      exact ⟨t, k, k', .tail _ (off_mem h1 e), .tail _ (off_mem h2 hb)⟩
  | .gate a b k x y z, ⟨t, kc, kc', h1, h2, hx, hy, hz⟩ => by
    have hb : b ≠ q := fun e => by
      subst e
      have := (listOf_inj (News.uniq N h2 hq)).1
      cases this
    have ha : a ≠ q := fun e => by
      subst e
      have e1 := (listOf_inj (News.uniq N h1 hq)).1
      injection e1 with e2
      injection e2 with e3
      have := kindI_le k
      lia
    refine ⟨t, kc, kc', .tail _ (off_mem h1 ha), .tail _ (off_mem ?_ hb), AT.put_in N hq hx, AT.put_in N hq hy, AT.put_in N hq hz⟩
    rw [AT.put_addr, AT.put_addr, AT.put_addr]; exact h2
theorem AT.put_self {h₀ h : Heap} {L q b0 : Addr} {d0 k0 : Nat} {t0 : Tok} {news : List (Addr × Obj)} (N : News h₀ L h news) (hq : (q, listOf [lI d0 t0, .ref b0].toArray k0) ∈ news) :
    ∀ {t : AT}, t.In lI gI news → t.put q d0 = t
  | .leaf a b d, ⟨t, k, k', h1, h2⟩ => by
    show AT.leaf a b (if a = q then d0 else d) = _
    by_cases e : a = q
    · subst e
      rw [if_pos rfl]
      obtain ⟨e1, e2⟩ := listOf_inj (News.uniq N h1 hq)
      injection e1 with e4
      injection e4 with e5
      have : d = d0 := by lia
      rw [this]
    · rw [if_neg e]
  | .gate a b k x y z, ⟨t, kc, kc', h1, h2, hx, hy, hz⟩ => by
    show AT.gate a b k (x.put q d0) (y.put q d0) (z.put q d0) = _
    rw [AT.put_self N hq hx, AT.put_self N hq hy, AT.put_self N hq hz]
def clI (l h u : Int) : Int := max l (min h u)
theorem mod1 {a b : Int} (u : Int) (h : a ≤ b) : max a (min b u) = min b (max a u) := by
  rcases Int.le_total b u with k | k
  · rw [Int.min_eq_left k, Int.max_eq_right h, Int.min_eq_left (Int.le_trans k (Int.le_max_right _ _))]
  · rw [Int.min_eq_right k, Int.min_eq_right (Int.max_le.mpr ⟨h, k⟩)]
theorem cl_max {a b c d u : Int} : max (clI a b u) (clI c d u) = clI (max a c) (max b d) u := by
  unfold clI
  rw [Int.min_max_distrib_right, Int.max_assoc, ← Int.max_assoc (min b u) c, Int.max_comm (min b u) c, Int.max_assoc c, ← Int.max_assoc a c]
theorem cl_min {a b c d u : Int} (h1 : a ≤ b) (h2 : c ≤ d) : min (clI a b u) (clI c d u) = clI (min a c) (min b d) u := by
  unfold clI
  rw [mod1 u h1, mod1 u h2, mod1 u (Int.le_min.mpr ⟨Int.le_trans (Int.min_le_left _ _) h1, Int.le_trans (Int.min_le_right _ _) h2⟩), Int.max_min_distrib_right, Int.min_assoc, ← Int.min_assoc (max a u) d, Int.min_comm (max a u) d, Int.min_assoc d, ← Int.min_assoc b d]
theorem cl_ends {l h v : Int} (hl : 0 ≤ l) (hh : l ≤ h) (h8 : h ≤ 8) : clI l h 0 = l ∧ clI l h 8 = h ∧ clI l h v = medI l v h := by
  refine ⟨?_, ?_, ?_⟩
  · unfold clI
    rw [Int.min_eq_right (Int.le_trans hl hh), Int.max_eq_left hl]
  · unfold clI
    rw [Int.min_eq_left h8, Int.max_eq_right hh]
  · unfold clI medI
    rcases Int.le_total l v with k | k
    · rw [Int.min_eq_left k, Int.max_eq_right k, Int.min_comm h v]
    · rw [Int.min_eq_right k, Int.max_eq_left k, Int.min_eq_left hh, Int.max_eq_right k, Int.min_eq_right (Int.le_trans k hh), Int.max_eq_left k]
/-- the median law of lattice polynomials -/
theorem AT.put_med (q : Addr) : ∀ (t : AT), t.tr.ok → ∃ lo hi : Int, 0 ≤ lo ∧ lo ≤ hi ∧ hi ≤ 8 ∧ ∀ v : Nat, v < 9 → (t.put q v).tr.due = clI lo hi (v : Int)
  | .leaf a b d, ok => by
    have hd : (d : Int) ≤ 8 := Int.ofNat_le.mpr (Nat.le_of_lt_succ ok)
    by_cases e : a = q
    · refine ⟨0, 8, by decide, by decide, by decide, fun v hv => ?_⟩
      show (((if a = q then v else d) : Nat) : Int) = _
      rw [if_pos e]
      unfold clI
      have hv8 : (v : Int) ≤ 8 := Int.ofNat_le.mpr (Nat.le_of_lt_succ hv)
      rw [Int.min_eq_right hv8, Int.max_eq_right (Int.natCast_nonneg v)]
    · refine ⟨d, d, Int.natCast_nonneg d, Int.le_refl _, hd, fun v hv => ?_⟩
      show (((if a = q then v else d) : Nat) : Int) = _
      rw [if_neg e]
      unfold clI
      rw [Int.max_eq_left (Int.min_le_left _ _)]
  | .gate a b k x y z, ok => by
    obtain ⟨l1, h1, p1, e1, q1, f1⟩ := x.put_med q ok.2.1
    obtain ⟨l2, h2, p2, e2, q2, f2⟩ := y.put_med q ok.2.2.1
    obtain ⟨l3, h3, p3, e3, q3, f3⟩ := z.put_med q ok.2.2.2
    have mx : ∀ {a b c d : Int}, a ≤ b → c ≤ d → max a c ≤ max b d := fun h k => Int.max_le.mpr ⟨Int.le_trans h (Int.le_max_left _ _), Int.le_trans k (Int.le_max_right _ _)⟩
    have mn : ∀ {a b c d : Int}, a ≤ b → c ≤ d → min a c ≤ min b d := fun h k => Int.le_min.mpr ⟨Int.le_trans (Int.min_le_left _ _) h, Int.le_trans (Int.min_le_right _ _) k⟩
    have mono : ∀ {a b c a' b' c' : Int}, a ≤ a' → b ≤ b' → c ≤ c' → med3 k a b c ≤ med3 k a' b' c' := fun h1 h2 h3 => by
      unfold med3
      split
      · exact mx h1 (mx h2 h3)
      · split
        · exact mn h1 (mn h2 h3)
        · exact mx (mn h1 h2) (mn (mx h1 h2) h3)
    have same : ∀ n : Int, med3 k n n n = n := fun n => by
      unfold med3
      split
      · rw [Int.max_self, Int.max_self]
      · split
        · rw [Int.min_self, Int.min_self]
        · rw [Int.max_self, Int.min_self, Int.max_self]
    refine ⟨med3 k l1 l2 l3, med3 k h1 h2 h3, (same 0) ▸ mono p1 p2 p3, mono e1 e2 e3, (same 8) ▸ mono q1 q2 q3, fun v hv => ?_⟩
    show med3 k (x.put q v).tr.due (y.put q v).tr.due (z.put q v).tr.due = _
    rw [f1 v hv, f2 v hv, f3 v hv]
    unfold med3
    split
    · rw [cl_max, cl_max]
    · split
      · rw [cl_min e2 e3, cl_min e1 (mn e2 e3)]
      · rw [cl_max, cl_min e1 e2, cl_min (mx e1 e2) e3, cl_max]
theorem med_law (q : Addr) (t : AT) (ok : t.tr.ok) {v : Nat} (hv : v < 9) : (t.put q v).tr.due = medI (t.put q 0).tr.due v (t.put q 8).tr.due := by
  obtain ⟨lo, hi, p, h, p8, f⟩ := t.put_med q ok
  obtain ⟨e0, e8, ev⟩ := cl_ends (v := (v : Int)) p h p8
  rw [f 0 (by decide), f 8 (by decide), f v hv, ev]
  show medI lo v hi = medI (clI lo hi 0) v (clI lo hi 8)
  rw [e0, e8]
end
section
theorem kw_Fwth_0 : True := by
  k_with_none
  k_with "vat" => repeat' (first | exact List.forall_mem_nil _ | refine' List.forall_mem_cons.mpr ⟨?_, ?_⟩ | with_unfolding_all rfl)
  k_with "vrest" => first | ((repeat' (first | exact Vars.rest (by assumption) | exact vr_nil | exact vr_base | refine vr_upd ?_ (by with_unfolding_all rfl) | refine vr_set ?_ (by with_unfolding_all rfl))); done) | (intro zzz hzzz; (simp only [List.contains_cons, List.contains_nil, Bool.or_false, Bool.or_eq_false_iff, beq_eq_false_iff_ne, ne_eq] at hzzz); (simp [hzzz, upd, setL, baseOf, List.lookup]))
  k_with "exec For Name Name cons nil" => (refine' wpAny_For ?h ?hs; (case hs => (intro _; with_unfolding_all rfl)))
  k_with "exec For Name Call cons nil" => (refine' wpAny_For ?h ?hs; (case hs => (intro _; with_unfolding_all rfl)))
  k_with "exec For Name Attribute cons nil" => (refine' wpAny_For ?h ?hs; (case hs => (intro _; with_unfolding_all rfl)))
  k_with "sol" => all_goals (try (first | k_is | exact rfl | decide))
  k_with "sz" => first | omega | (simp only [List.length_append, List.length_cons, List.length_nil, List.length_map, List.length_replicate, List.length_reverse, List.length_set]; omega)
  k_with "sub" => first | exact Sub.refl _ | with_reducible assumption | exact Sub.nil | (refine Sub.cons ?_; k_extra "sub") | (refine Sub.trans (by with_reducible assumption) ?_; k_extra "sub") | fail "sub"
  k_with "member" => assumption
  k_with "ite" => first | with_reducible refine ite_tt ?_ | with_reducible refine ite_ff ?_
  k_with "execs nil" => refine wpAny_execs_nil ?_
  k_with "dp" => first | exact dpLe | omega
  k_with "un" => first | exact unLe | omega
  k_with "storeName" => (k_here; k_dflt (first | (refine' storeI ?_; intro q1zz) | (refine' storeS ?_; intro q1zz) | (refine' storeF ?_; intro q1zz) | refine' storeR ?_); k_whole; intro hpzz kpzz mpzz Fpzz Npzz; (try k_sweep))
  k_with "execs cons" => first | refine lastK ?_ | (refine cutK ?_; intro Qzz azz) | (refine enterK ?_; intro Qzz azz)
  k_with "KQ" => first | refine nextK (by assumption) ?_ | refine retK (by assumption) ?_ | refine impK (by assumption) ?_ | refine contK (by assumption) ?_ | refine brkK (by assumption) ?_
  k_with "KS" => refine stopK (by assumption) ?_
  k_with "exec If" => (refine ifK ?_; intro Qzz azz)
  k_with "KB" => refine ifB (by assumption) ?_
  k_with "KV" => refine stopV (by assumption) ?_
  k_with "exec While" => refine wpAny_While ?_
  k_with "exec While Compare" => refine wpAny_While ?_
  k_with "exec While BoolOp" => refine wpAny_While ?_
  k_with "eval ListComp" => (k_here; (with_reducible show wpAny _ _ (eval (PySem.Expr.ListComp _ [PySem.Comprehension.mk _ _ [] 0] _ _) _) _ _ _); k_dflt (refine LCg.ListComp_U (F₀ := by k_asm) (by with_unfolding_all rfl) (by decide) (by rfl) (by decide) (by rfl) ?_))
  k_with "eval ListComp" => (k_here; (with_reducible show wpAny _ _ (eval (PySem.Expr.ListComp _ [PySem.Comprehension.mk _ _ [_] 0] _ _) _) _ _ _); k_dflt (refine LCt.ListComp_T (F₀ := by k_asm) (by with_unfolding_all rfl) (by decide) (by rfl) (by decide) (by rfl) ?_))
  k_with "exec Assign cons ListComp" => (k_here; (with_reducible show wpAny _ _ (exec (PySem.Stmt.Assign [_] (PySem.Expr.ListComp _ [PySem.Comprehension.mk _ _ [] 0] _ _) _) _) _ _ _); k_dflt (refine LCg.Assign_ListComp_U (F₀ := by k_asm) (by rfl) (by with_unfolding_all rfl) (by with_unfolding_all rfl) (by decide) (by rfl) (by decide) (by rfl) (by rfl) (by rfl) ?_))
  k_with "exec Assign cons ListComp" => (k_here; (with_reducible show wpAny _ _ (exec (PySem.Stmt.Assign [_] (PySem.Expr.ListComp _ [PySem.Comprehension.mk _ _ [_] 0] _ _) _) _) _ _ _); k_dflt (refine LCt.Assign_ListComp_T (F₀ := by k_asm) (by rfl) (by with_unfolding_all rfl) (by with_unfolding_all rfl) (by decide) (by rfl) (by decide) (by rfl) (by rfl) (by rfl) ?_))
  k_with "CompSrc" => (k_here; refine Hold.mk ?_)
  k_with "CompSrcT" => (k_here; refine Hold.mk ?_)
  k_with "CompEnd" => (k_here; refine Hold.mk ?_)
  k_with "FinA" => (k_here; refine Hold.mk ?_)
  k_with "FinE" => (k_here; refine Hold.mk ?_)
  k_with "loadName" => (k_here; k_dflt (refine' ldnX ?k1 ?k2 ?_; (case k1 => k_asm); (case k2 => exact rfl); k_whole))
  k_with "newTuple" => (k_here; k_dflt (refine' tupR ?_); intro Dpzz hpzz kpzz Fpzz Npzz l1zz; (try k_lt l1zz); (try k_sweep))
  k_with "mem" => first | exact List.Mem.head _ | with_reducible assumption | (refine' List.mem_cons_of_mem _ ?_; k_extra "mem") | (refine' Sub.mem ?s ?m; (case s => with_reducible assumption); (case m => k_extra "mem")) | fail "mem"
  k_with "member" => k_extra "mem"
  k_with "subscriptTail" => (k_here; (with_reducible show wpAny _ _ (subscriptTail _ _ (Value.ref _) (gS _ _)) _ _ _); refine Hold.mk ?_)
  k_with "subscriptTail" => (k_here; (with_reducible show wpAny _ _ (subscriptTail _ _ (Value.ref _) (Value.int _ _)) _ _ _); refine' lst_at (h := ?_))
  k_with "call type:int" => (k_here; (with_reducible refine int_digit (by with_reducible assumption) ?_))
  k_with "in" => first | with_reducible assumption | (refine' AT.In.mono ?s ?h; (case h => with_reducible assumption); (case s => first | with_reducible assumption | exact fun p hp => List.mem_cons_of_mem _ hp))
  k_with "compareOp Eq ref ref" => (k_here; first | refine' eq_nn (h := ?_) | refine' eq_gn (h := ?_))
  k_with "compareOp NotEq ref ref" => (k_here; first | refine' ne_nn (h := ?_) | refine' ne_gn (h := ?_))
  k_with "call ref" => (k_here; refine' Spec.go (Post := IntP _ _) (C := by first | with_reducible assumption | assumption) (ret := ?_); rintro r9zz n9zz h9zz tk9zz F9zz N9zz ⟨⟨t9zz, e9zz⟩, d9zz⟩; subst e9zz; subst d9zz)
  k_with "Exists" => (k_here; refine kda_made_str (by k_asm) (by k_asm) (Top.nolimit (by k_asm)) (by rfl) (of_decide_eq_true (by rfl)) (by rfl) ?_; intro hpzz opzz Fpzz Npzz l1zz lopzz hdpzz; (try k_lt l1zz))
  k_with "eval Dict" => (k_here; (with_reducible refine Dict_made_str (by with_unfolding_all rfl) (by k_asm) (by with_unfolding_all rfl) (by with_unfolding_all rfl) (List.cons_ne_nil _ _) (by with_unfolding_all decide) ?_; intro _))
  k_with "exec Assign cons Dict" => (with_reducible refine wpAny_Assign_Name ?_ ?_; rotate_left; with_unfolding_all rfl)
  k_with "call builtin:sorted" => (k_here; refine Hold.mk ?_)
  k_with "call ref" => (k_here; refine' Spec.go (Post := BoolP _ _) (C := by with_reducible first | exact nt_leaf _ | exact nt_gate _ | exact tm_leaf _ | exact tm_gate _) (ret := ?_); rintro r9zz n9zz h9zz tk9zz F9zz N9zz ⟨e9zz, d9zz⟩; subst e9zz; subst d9zz)
  k_with "call ref" => (k_here; refine Hold.mk ?_)
  k_with "setItem ref int" => (k_here; refine Hold.mk ?_)
  exact True.intro
set_option maxHeartbeats 8000000 in
theorem wth_spec {prog : Program} {w : World} {t : AT} {q b0 : Addr} {d0 k0 v : Nat} {t0 tv : Tok} {news : List (Addr × Obj)} (ok : t.tr.ok) (h : t.In lI gI news) (hq : (q, listOf [lI d0 t0, .ref b0].toArray k0) ∈ news) (hv : v < 9) :
    Spec prog w (t.tr.dep + 3) 250 [.ref t.addr, .ref q, .int v tv] news (IntP (t.put q v).tr.due news) := by
  refine' Spec.of [(Str.ofString "root", .ref t.addr), (Str.ofString "leaf", .ref q), (Str.ofString "level", .int v tv)] ?_ ?_ ?_ ?_ ?_ ?_ ?_ ?_ ?_
  k_extra "sol"
  intro p loose mean mg mb dp un gd outer A₀ base g L' s A1 m0 E1 B F X N T hdp hun
  have hin := fun tv' => AT.put_in (v := v) (tv := tv') N hq h
  have hso := sub_off N hq
  have C := fun nw hi => lig_spec (prog := prog) (w := w) (t.put q v) (AT.put_ok hv ok) nw hi
  rw [AT.put_addr, AT.put_dep] at C
  k_steps
  rename Fr _ _ _ _ => F1
  rename News _ _ _ _ => N1
  refine Hold.un ?_
  refine setAt (j := 0) (vs := [lI d0 t0, .ref b0]) F1 (News.pull N1 hq) off_ne rfl (Nat.zero_lt_succ _) (show 2 < 2 ^ 62 by decide) ?_
  intro h' F2 N2
  clear F1 N1
  k_steps
  rename Fr _ _ _ _ => F3
  rename News _ _ _ _ => N3
  refine Hold.un ?_
  refine Spec.use (C _ (hin _)) B F3 X N3 T (by exact rfl) (by k_extra "dp") (by k_extra "un") ?_
  rintro r9 n9 h9 tk9 F9 N9 ⟨⟨t9, e9⟩, d9⟩
  subst e9; subst d9
  clear F3 N3
  k_steps
  rename Fr _ _ _ _ => F1
  rename News _ _ _ _ => N1
  refine Hold.un ?_
  refine setAt (j := 0) (vs := [Value.int (256 + v) _, .ref b0]) F1 N1 off_ne rfl (Nat.zero_lt_succ _) (show 2 < 2 ^ 62 by decide) ?_
  intro h' F2 N2
  clear F1 N1
  k_steps
  rename Fr _ _ _ _ => F3
  exact doneI F3 N2 hso rfl
end
section
theorem kw_Fsum_0 : True := by
  k_with_none
  k_with "vat" => repeat' (first | exact List.forall_mem_nil _ | refine' List.forall_mem_cons.mpr ⟨?_, ?_⟩ | with_unfolding_all rfl)
  k_with "vrest" => first | ((repeat' (first | exact Vars.rest (by assumption) | exact vr_nil | exact vr_base | refine vr_upd ?_ (by with_unfolding_all rfl) | refine vr_set ?_ (by with_unfolding_all rfl))); done) | (intro zzz hzzz; (simp only [List.contains_cons, List.contains_nil, Bool.or_false, Bool.or_eq_false_iff, beq_eq_false_iff_ne, ne_eq] at hzzz); (simp [hzzz, upd, setL, baseOf, List.lookup]))
  k_with "exec For Name Name cons nil" => (refine' wpAny_For ?h ?hs; (case hs => (intro _; with_unfolding_all rfl)))
  k_with "exec For Name Call cons nil" => (refine' wpAny_For ?h ?hs; (case hs => (intro _; with_unfolding_all rfl)))
  k_with "exec For Name Attribute cons nil" => (refine' wpAny_For ?h ?hs; (case hs => (intro _; with_unfolding_all rfl)))
  k_with "sol" => all_goals (try (first | k_is | exact rfl | decide))
  k_with "sz" => first | omega | (simp only [List.length_append, List.length_cons, List.length_nil, List.length_map, List.length_replicate, List.length_reverse, List.length_set]; omega)
  k_with "sub" => first | exact Sub.refl _ | with_reducible assumption | exact Sub.nil | (refine Sub.cons ?_; k_extra "sub") | (refine Sub.trans (by with_reducible assumption) ?_; k_extra "sub") | fail "sub"
  k_with "member" => assumption
  k_with "ite" => first | with_reducible refine ite_tt ?_ | with_reducible refine ite_ff ?_
  k_with "execs nil" => refine wpAny_execs_nil ?_
  k_with "dp" => first | exact dpLe | omega
  k_with "un" => first | exact unLe | omega
  k_with "storeName" => (k_here; k_dflt (first | (refine' storeI ?_; intro q1zz) | (refine' storeS ?_; intro q1zz) | (refine' storeF ?_; intro q1zz) | refine' storeR ?_); k_whole; intro hpzz kpzz mpzz Fpzz Npzz; (try k_sweep))
  k_with "execs cons" => first | refine lastK ?_ | (refine cutK ?_; intro Qzz azz) | (refine enterK ?_; intro Qzz azz)
  k_with "KQ" => first | refine nextK (by assumption) ?_ | refine retK (by assumption) ?_ | refine impK (by assumption) ?_ | refine contK (by assumption) ?_ | refine brkK (by assumption) ?_
  k_with "KS" => refine stopK (by assumption) ?_
  k_with "exec If" => (refine ifK ?_; intro Qzz azz)
  k_with "KB" => refine ifB (by assumption) ?_
  k_with "KV" => refine stopV (by assumption) ?_
  k_with "exec While" => refine wpAny_While ?_
  k_with "exec While Compare" => refine wpAny_While ?_
  k_with "exec While BoolOp" => refine wpAny_While ?_
  k_with "eval ListComp" => (k_here; (with_reducible show wpAny _ _ (eval (PySem.Expr.ListComp _ [PySem.Comprehension.mk _ _ [] 0] _ _) _) _ _ _); k_dflt (refine LCg.ListComp_U (F₀ := by k_asm) (by with_unfolding_all rfl) (by decide) (by rfl) (by decide) (by rfl) ?_))
  k_with "eval ListComp" => (k_here; (with_reducible show wpAny _ _ (eval (PySem.Expr.ListComp _ [PySem.Comprehension.mk _ _ [_] 0] _ _) _) _ _ _); k_dflt (refine LCt.ListComp_T (F₀ := by k_asm) (by with_unfolding_all rfl) (by decide) (by rfl) (by decide) (by rfl) ?_))
  k_with "exec Assign cons ListComp" => (k_here; (with_reducible show wpAny _ _ (exec (PySem.Stmt.Assign [_] (PySem.Expr.ListComp _ [PySem.Comprehension.mk _ _ [] 0] _ _) _) _) _ _ _); k_dflt (refine LCg.Assign_ListComp_U (F₀ := by k_asm) (by rfl) (by with_unfolding_all rfl) (by with_unfolding_all rfl) (by decide) (by rfl) (by decide) (by rfl) (by rfl) (by rfl) ?_))
  k_with "exec Assign cons ListComp" => (k_here; (with_reducible show wpAny _ _ (exec (PySem.Stmt.Assign [_] (PySem.Expr.ListComp _ [PySem.Comprehension.mk _ _ [_] 0] _ _) _) _) _ _ _); k_dflt (refine LCt.Assign_ListComp_T (F₀ := by k_asm) (by rfl) (by with_unfolding_all rfl) (by with_unfolding_all rfl) (by decide) (by rfl) (by decide) (by rfl) (by rfl) (by rfl) ?_))
  k_with "CompSrc" => (k_here; refine Hold.mk ?_)
  k_with "CompSrcT" => (k_here; refine Hold.mk ?_)
  k_with "CompEnd" => (k_here; refine Hold.mk ?_)
  k_with "FinA" => (k_here; refine Hold.mk ?_)
  k_with "FinE" => (k_here; refine Hold.mk ?_)
  k_with "loadName" => (k_here; k_dflt (refine' ldnX ?k1 ?k2 ?_; (case k1 => k_asm); (case k2 => exact rfl); k_whole))
  k_with "newTuple" => (k_here; k_dflt (refine' tupR ?_); intro Dpzz hpzz kpzz Fpzz Npzz l1zz; (try k_lt l1zz); (try k_sweep))
  k_with "mem" => first | exact List.Mem.head _ | with_reducible assumption | (refine' List.mem_cons_of_mem _ ?_; k_extra "mem") | (refine' Sub.mem ?s ?m; (case s => with_reducible assumption); (case m => k_extra "mem")) | fail "mem"
  k_with "member" => k_extra "mem"
  exact True.intro
def SpecH (prog : Program) (w : World) (need : Nat) (f : Addr) (vs : List Value) (H : Heap → Prop) (news : List (Addr × Obj)) (Post : Value → List (Addr × Obj) → Prop) : Prop :=
  ∀ (p : Program) (loose : List Str) (mean : ExcName → Option Value) (mg mb : Str → Option Value) (dp un : Nat) (gd : Option (List Code)) (cn : Str) (cs : Scope) (L a : Addr) (ccd : Value) (cl : List (Str × Addr)) (outer : List Env) (A₀ : Around) (base h₀ : Heap) (m : Str → Option Value) (s : Shared) (Q E : Value → Shared → Prop),
    Below A₀ base outer h₀ → Fr h₀ L s.heap m → (hd.heap_1 w.params).In h₀ → H h₀ → News h₀ L s.heap news → Top p loose mean mg mb h₀ → cs.kind = .function → dp + need < recursionLimit → un + 8 * need + 100 < cLine →
    (∀ r news' h' tk', Fr h₀ L h' m → News h₀ L h' news' → Post r news' → Q r { s with heap := h', toks := tk' }) →
    wpAny (model prog w) (ktrTop dp un gd cn cs L a ccd cl outer) (call (.ref f) vs) Q E s
theorem SpecH.of {prog : Program} {w : World} {need : Nat} {f : Addr} {vs : List Value} {H : Heap → Prop} (Hk : ∀ h h' : Heap, H h → (∀ b o, h.get? b = some o → h'.get? b = some o) → H h') {news : List (Addr × Obj)} {Post : Value → List (Addr × Obj) → Prop}
    {name qual : Str} {params : Arguments} {body : List Stmt} {scope : Scope} {dV kV doc pm cdv ct oc : Value} {an od : Option Addr} {osl : Array (Option Value)} (binds : List (Str × Value))
    (ho : (hd.heap_1 w.params).lookup f = some ⟨oc, od, .func (fnOf name qual params body scope dV kV doc pm an cdv ct), osl⟩) (hcd : codeIn (hd.heap_1 w.params) cdv qual = true)
    (hbind : bindArgs (fnOf name qual params body scope dV kV doc pm an cdv ct) ⟨vs, []⟩ = pure binds) (hloc : (binds.all fun x => decide (scope.names.lookup x.1 = some .local)) = true)
    (h : ∀ (p : Program) (loose : List Str) (mean : ExcName → Option Value) (mg mb : Str → Option Value) (dp un : Nat) (gd : Option (List Code)) (outer : List Env) (A₀ : Around) (base g : Heap) (L' : Addr) (s : Shared), let A1 := ktrTop dp un gd qual scope L' f cdv [] outer; let m0 := setL (fun _ => none) binds.reverse; let E1 := envOf qual scope L' f cdv;
      Below A₀ base outer g → Fr g L' s.heap m0 → (hd.heap_1 w.params).In g → H g → News g L' s.heap news → Top p loose mean mg mb g → dp + need < recursionLimit → un + 8 * need + 100 < cLine →
      wpAny (model prog w) A1 (execs body E1) (Done g L' s Post) (fun _ _ => False) s)
    (hco : scope.isCoroutine = false) (hgen : scope.isGenerator = false) (hk : scope.kind = .function) (hcell : ∀ x ∈ scope.names, x.2 ≠ .cell) :
    SpecH prog w (need + 1) f vs H news Post := by
  intro p loose mean mg mb dp un gd cn cs L a ccd cl outer A₀ base h₀ m s Q E B F X HH N T hke hdp hun ret
  refine wpAny_call ?_
  refine callX_plain (cl := []) B F N T.nolimit rfl rfl hke ((Frag.In.keeps X F.keep) _ _ ho) rfl (codeRec_of (Frag.In.keeps X F.keep) hcd) (Nat.lt_of_le_of_lt (Nat.le_add_right _ _) hdp) (BindsTo.of_eq hbind) (locs hloc) (fun g L' h₁ FG F' N' B' st _ => ?_) hcell hco hgen hk
  have X' := Frag.In.keeps X st
  have T' := T.keeps st
  have H' := Hk _ _ HH st
  refine wpAny_noRaise ?_
  rw [hm_setL] at F'
  refine wpAny_mono (h p loose mean mg mb (dp + 1) (un + 3) gd (envX cn cs L a ccd cl :: outer) _ base g L' { s with heap := h₁, toks := s.toks + binds.length } B' F' X' H' N' T' (by lia) (by lia)) (fun fl s' hd => ?_) fun _ _ e => e
  obtain ⟨⟨h', tk', rfl⟩, m', news', F₂, N₂, P⟩ := hd
  refine leaveK_ F₂ N₂ fun F₃ N₃ => ?_
  cases fl <;> exact ret _ _ _ _ F₃ N₃ P
theorem isList_keeps {l : Addr} {vs : List Value} (h h' : Heap) (x : h.IsList l vs.toArray) (k : ∀ b o, h.get? b = some o → h'.get? b = some o) : h'.IsList l vs.toArray := x.at fun o e => k _ _ e
def sumI (ns : List Int) : List Int := ((ns.take 60).zipIdx).foldl (fun acc p => acc.set (p.2 % 5) (acc.getD (p.2 % 5) 0 + p.1 % 10 ^ 6)) [2, 1, 9, 3479205, 5]
def sumJ (ns : List Int) : Nat → List Int
  | 0 => [2, 1, 9, 3479205, 5]
  | k + 1 => (sumJ ns k).set (k % 5) ((sumJ ns k).getD (k % 5) 0 + ns.getD k 0 % 1000000)
theorem sumJ_len {ns : List Int} : ∀ k, (sumJ ns k).length = 5
  | 0 => rfl
  | k + 1 => by show (List.set _ _ _).length = 5; rw [List.length_set, sumJ_len k]
theorem sumJ_rng {ns : List Int} : ∀ k, ∀ x ∈ sumJ ns k, 0 ≤ x ∧ x ≤ 3479205 + 1000000 * k
  | 0 => by intro x hx; simp only [sumJ, List.mem_cons, List.not_mem_nil, or_false] at hx; lia
  | k + 1 => fun x hx => by
    rcases List.mem_or_eq_of_mem_set hx with h | h
    · have := sumJ_rng k x h; lia
    · have hl := sumJ_len (ns := ns) k
      have h5 : k % 5 < (sumJ ns k).length := by rw [hl]; exact Nat.mod_lt _ (by decide)
      have hm : (sumJ ns k).getD (k % 5) 0 ∈ sumJ ns k := by
        rw [List.getD_eq_getElem?_getD, List.getElem?_eq_getElem h5]
        exact List.getElem_mem h5
      have := sumJ_rng k _ hm
      have h1 := Int.emod_nonneg (ns.getD k 0) (show (1000000 : Int) ≠ 0 by decide)
      have h2 := Int.emod_lt_of_pos (ns.getD k 0) (show (0 : Int) < 1000000 by decide)
      rw [h]
      lia
def SumP (news : List (Addr × Obj)) (r : Value) (news' : List (Addr × Obj)) : Prop :=
  ∃ l vs ns k, r = .ref l ∧ Sub ((l, listOf (List.toArray vs) k) :: news) news' ∧ (∀ p ∈ news, p.1 ≠ l) ∧ IntsAre vs ns ∧ ns.length = 5 ∧ ∀ x ∈ ns, 0 ≤ x ∧ x ≤ 63479205
theorem kw_Fsum_1 : True := by
  k_with "setItem ref int" => (k_here; refine Hold.mk ?_)
  k_with "getItem ref int" => (k_here; refine Hold.mk ?_)
  k_with "subscriptTail Name Name ref int" => (k_here; refine Hold.mk ?_)
  exact True.intro
theorem old_item {prog : Program} {w : World} {A : Around} {E : Value → Shared → Prop} {s : Shared} {value slice : Expr} {l : Addr} {vs : List Value} {k : Int} {u : Tok} {x : Value} {Q : Value → Shared → Prop}
    (hl : s.heap.IsList l vs.toArray) (h0 : 0 ≤ k) (hhi : k < 2 ^ 63) (hx : vs[k.toNat]? = some x) (h : Q x s)
    (hs : subscripted slice false (.ref l) (.int k u) = operate [.ref l, .int k u] (getItem (.ref l) (.int k u)) := by with_unfolding_all rfl) :
    wpAny (model prog w) A (subscriptTail value slice (.ref l) (.int k u)) Q E s :=
  tail_any hl.typeIs slot_list_getitem.lookup (wpAny_getItem_list hl h0 hhi (by simpa using hx) h) hs
set_option maxHeartbeats 8000000 in
theorem sum_spec {prog : Program} {w : World} {l : Addr} {vs : List Value} {ns : List Int} {news : List (Addr × Obj)} (hi : IntsAre vs ns) (hz : ns.length < 2 ^ 20) :
    SpecH prog w 1 166 [.ref l] (fun h => h.IsList l vs.toArray) news (SumP news) := by
  refine' SpecH.of (fun h h' => isList_keeps h h') [(Str.ofString "script", .ref l)] ?_ ?_ ?_ ?_ ?_ ?_ ?_ ?_ ?_
  k_extra "sol"
  intro p loose mean mg mb dp un gd outer A₀ base g L' s A1 m0 E1 B F X H N T hdp hun
  have hlen := hi.length
  have hgets : ∀ (j : Nat) (h : j < ns.length), ∃ t, vs[j]? = some (.int ns[j] t) := fun j h => hi.get j (ns[j]) (by simp [h])
  k_steps
  rename IsRange _ _ _ _ _ _ _ _ => hR
  rename Fr _ _ _ _ => F1
  rename News _ _ _ _ => N1
  rename (∀ p ∈ news, p.1 < _) => lA
  refine name_it (P := fun b => ∀ p ∈ news, p.1 < b) lA fun la ela => ?_
  subst ela
  refine forR (k := min ns.length 60) (D := [(la, _)]) (news := news) hR ?hsm ?hk F1 N1
    (fun j m' D' => ∃ ws k, D' = [(la, listOf (List.toArray ws) k)] ∧ IntsAre ws (sumJ ns j) ∧ Vars m' (fun _ => none) ["script", "sums", "k"] [("script", .ref l), ("sums", .ref la)]) ?_ ?_ ?_
  case hsm =>
    have h6 : (if (60 : Int) < (ns.length : Int) then (60 : Int) else (ns.length : Int)) ≤ 60 := by split <;> lia
    have h7 : 0 ≤ (if (60 : Int) < (ns.length : Int) then (60 : Int) else (ns.length : Int)) := by split <;> lia
    generalize (if (60 : Int) < (ns.length : Int) then (60 : Int) else (ns.length : Int)) = q at h6 h7
    exact small_one (by lia) (by lia) (by lia) (by lia)
  case hk =>
    unfold Builtin.Range.rangeSize
    rw [if_pos (by decide)]
    split <;> split <;> lia
  · refine' ⟨_, 0, rfl, .cons _ _ (.cons _ _ (.cons _ _ (.cons _ _ (.cons _ _ .nil)))), ⟨?_, ?_⟩⟩
    · k_extra "vat"
    · k_extra "vrest"
  · intro J0 j tk m₁ D₁ rest hh tkk I Q0 a0 hj hq1 hsub hr hI hoI hoff F2 N2
    obtain ⟨ws, k0, rfl, hw, V⟩ := hq1
    refine V.frxL F2 ?_
    intro mv mw F3
    have N3 : News g L' hh ((la, _) :: rest) := N2
    clear F2 F1 N2 N1
    have hd5 : (0 + (j : Int) * 1).fmod 5 = ((j % 5 : Nat) : Int) := by rw [Int.fmod_eq_emod_of_nonneg _ (by decide)]; lia
    have hjl : j < ns.length := by lia
    have hsl := sumJ_len (ns := ns) j
    have hwl : ws.length = 5 := hw.length.trans hsl
    k_steps
    rename Fr _ _ _ _ => F5
    rename News _ _ _ _ => N5
    refine Hold.un ?_
    rw [hd5]
    refine ksa_get N5 (.head _) hw (by lia) (by lia) (by lia) ?_
    rw [show ((j % 5 : Nat) : Int).toNat = j % 5 from Int.toNat_natCast _]
    intro t9
    k_steps
    rename Fr _ _ _ _ => F6
    rename News _ _ _ _ => N6
    refine Hold.un ?_
    have hls : Heap.IsList _ l vs.toArray := H.at fun o e => F6.keep _ _ e
    have hobt := hgets j hjl
    obtain ⟨t8, ht8⟩ := hobt
    refine old_item (x := .int ns[j] t8) hls (by lia) (by lia) (by rw [show (0 + (j : Int) * 1).toNat = j by lia]; exact ht8) ?_
    k_steps
    rename Fr _ _ _ _ => F7
    rename News _ _ _ _ => N7
    refine Hold.un ?_
    have hrl : ∀ p ∈ rest, p.1 ≠ la := fun p hp' => by
      rcases hr p hp' with h | h
      · exact Nat.ne_of_lt (lA p h)
      · rw [h]; exact fun e => hoff _ (.head _) e.symm
    refine setAt (j := j % 5) (vs := ws) F7 N7 hrl rfl (by k_extra "dp") (by k_extra "un") ?_
    intro h' F8 N8
    clear F7 N7
    k_steps
    rename Fr _ _ _ _ => F9
    refine MTurn.next (D' := [(la, _)]) F9 N8 (Sub.refl _) ?_ Same.mk ⟨_, k0, rfl, ?_, ⟨?_, ?_⟩⟩
    · intro p hp'
      rw [List.mem_singleton.mp hp']
      exact hoff (la, listOf (List.toArray ws) k0) (.head _)
    · have e : sumJ ns (j + 1) = (sumJ ns j).set (j % 5) ((sumJ ns j).getD (j % 5) 0 + ns[j].fmod (10 ^ Int.toNat 6)) := by
        show List.set _ _ _ = _
        congr 2
        rw [List.getD_eq_getElem?_getD, List.getElem?_eq_getElem hjl]
        exact (Int.fmod_eq_emod_of_nonneg _ (by decide)).symm
      rw [e]
      exact ints_set hw _
    · k_extra "vat"
    · k_extra "vrest"
  · intro m' D' hh tkk hq1 F2 N2
    obtain ⟨ws, k0, rfl, hw, V⟩ := hq1
    refine V.frL F2 ?_
    intro mv F3
    have N3 : News g L' hh ((la, _) :: news) := N2
    clear F2 F1 N2 N1
    k_steps
    exact ⟨Same.mk, _, _, by assumption, N3, la, ws, _, k0, rfl, Sub.refl _, fun p hp => Nat.ne_of_lt (lA p hp), hw, sumJ_len _, fun x hx => by
      have := sumJ_rng _ x hx
      lia⟩
end
section
theorem kw_Kgro_0 : True := by
  k_with_none
  k_with "vat" => repeat' (first | exact List.forall_mem_nil _ | refine' List.forall_mem_cons.mpr ⟨?_, ?_⟩ | with_unfolding_all rfl)
  k_with "vrest" => first | ((repeat' (first | exact Vars.rest (by assumption) | exact vr_nil | exact vr_base | refine vr_upd ?_ (by with_unfolding_all rfl) | refine vr_set ?_ (by with_unfolding_all rfl))); done) | (intro zzz hzzz; (simp only [List.contains_cons, List.contains_nil, Bool.or_false, Bool.or_eq_false_iff, beq_eq_false_iff_ne, ne_eq] at hzzz); (simp [hzzz, upd, setL, baseOf, List.lookup]))
  k_with "exec For Name Name cons nil" => (refine' wpAny_For ?h ?hs; (case hs => (intro _; with_unfolding_all rfl)))
  k_with "exec For Name Call cons nil" => (refine' wpAny_For ?h ?hs; (case hs => (intro _; with_unfolding_all rfl)))
  k_with "exec For Name Attribute cons nil" => (refine' wpAny_For ?h ?hs; (case hs => (intro _; with_unfolding_all rfl)))
  k_with "sol" => all_goals (try (first | k_is | exact rfl | decide))
  k_with "sz" => first | omega | (simp only [List.length_append, List.length_cons, List.length_nil, List.length_map, List.length_replicate, List.length_reverse, List.length_set]; omega)
  k_with "sub" => first | exact Sub.refl _ | with_reducible assumption | exact Sub.nil | (refine Sub.cons ?_; k_extra "sub") | (refine Sub.trans (by with_reducible assumption) ?_; k_extra "sub") | fail "sub"
  k_with "member" => assumption
  k_with "ite" => first | with_reducible refine ite_tt ?_ | with_reducible refine ite_ff ?_
  k_with "execs nil" => refine wpAny_execs_nil ?_
  k_with "dp" => first | exact dpLe | omega
  k_with "un" => first | exact unLe | omega
  k_with "storeName" => (k_here; k_dflt (first | (refine' storeI ?_; intro q1zz) | (refine' storeS ?_; intro q1zz) | (refine' storeF ?_; intro q1zz) | refine' storeR ?_); k_whole; intro hpzz kpzz mpzz Fpzz Npzz; (try k_sweep))
  k_with "execs cons" => first | refine lastK ?_ | (refine cutK ?_; intro Qzz azz) | (refine enterK ?_; intro Qzz azz)
  k_with "KQ" => first | refine nextK (by assumption) ?_ | refine retK (by assumption) ?_ | refine impK (by assumption) ?_ | refine contK (by assumption) ?_ | refine brkK (by assumption) ?_
  k_with "KS" => refine stopK (by assumption) ?_
  k_with "exec If" => (refine ifK ?_; intro Qzz azz)
  k_with "KB" => refine ifB (by assumption) ?_
  k_with "KV" => refine stopV (by assumption) ?_
  exact True.intro
def UniqL (news : List (Addr × Obj)) : Prop := ∀ a o1 o2, (a, o1) ∈ news → (a, o2) ∈ news → o1 = o2
theorem UniqL.uq {news : List (Addr × Obj)} (N : UniqL news) {a : Addr} {o1 o2 : Obj} (h1 : (a, o1) ∈ news) (h2 : (a, o2) ∈ news) : o1 = o2 := N a o1 o2 h1 h2
theorem UniqL.of {h₀ h : Heap} {L : Addr} {news : List (Addr × Obj)} (N : News h₀ L h news) : UniqL news := fun _ _ _ h1 h2 => News.uniq N h1 h2
theorem UniqL.sub {a b : List (Addr × Obj)} (N : UniqL b) (s : Sub a b) : UniqL a := fun _ _ _ h1 h2 => N _ _ _ (s _ h1) (s _ h2)
theorem item_kinds {i : Int} (h0 : 0 ≤ i) (h3 : i < 3) : Txt.item (Str.ofString "|&^") i = kindS i.toNat := by
  have : i = 0 ∨ i = 1 ∨ i = 2 := by lia
  rcases this with rfl | rfl | rfl <;> decide +kernel
theorem kind_ne {k : Nat} : kindS k ≠ digitS 9 := by
  unfold kindS
  split
  · decide +kernel
  · split <;> decide +kernel
theorem lS_ne_gS {k : Nat} {t u : Tok} : gS k t ≠ lS 9 u := fun e => by
  unfold gS lS at e
  injection e with e1
  exact kind_ne e1
def graftT (k : Nat) (b' : Addr) (x y z : AT) : AT → Nat → AT
  | .leaf a b d, _ => .gate a b' k x y z
  | .gate a b kk u v w, i => match decide (i < u.lvs.length), decide (i - u.lvs.length < v.lvs.length) with
    | true, _ => .gate a b kk (graftT k b' x y z u i) v w
    | false, true => .gate a b kk u (graftT k b' x y z v (i - u.lvs.length)) w
    | false, false => .gate a b kk u v (graftT k b' x y z w (i - u.lvs.length - v.lvs.length))
theorem graftT_addr {k : Nat} {b' : Addr} {x y z : AT} : ∀ {t : AT} {i : Nat}, (graftT k b' x y z t i).addr = t.addr
  | .leaf .., _ => rfl
  | .gate a b kk u v w, i => by unfold graftT; split <;> rfl
theorem graftT_lvs {k : Nat} {b' : Addr} {x y z : AT} : ∀ {t : AT} {i : Nat}, i < t.lvs.length → (graftT k b' x y z t i).lvs = t.lvs.take i ++ (x.lvs ++ (y.lvs ++ z.lvs)) ++ t.lvs.drop (i + 1)
  | .leaf a b d, i, h => by
    have : i = 0 := by have h' : i < 1 := h; lia
    subst this
    show x.lvs ++ (y.lvs ++ z.lvs) = [] ++ (x.lvs ++ (y.lvs ++ z.lvs)) ++ []
    simp
  | .gate a b kk u v w, i, h => by
    have h' : i < (u.lvs ++ (v.lvs ++ w.lvs)).length := h
    rw [List.length_append, List.length_append] at h'
    show (graftT k b' x y z (.gate a b kk u v w) i).lvs = (u.lvs ++ (v.lvs ++ w.lvs)).take i ++ _ ++ (u.lvs ++ (v.lvs ++ w.lvs)).drop (i + 1)
    unfold graftT
    split
    · rename_i h1
      have h1 := of_decide_eq_true h1
      show (graftT k b' x y z u i).lvs ++ (v.lvs ++ w.lvs) = _
      rw [graftT_lvs h1, List.take_append_of_le_length (Nat.le_of_lt h1), List.drop_append_of_le_length h1]
      simp
    · rename_i h1 h2
      have h1 := of_decide_eq_false h1
      have h2 := of_decide_eq_true h2
      show u.lvs ++ ((graftT k b' x y z v (i - u.lvs.length)).lvs ++ w.lvs) = _
      have l1 := Nat.le_of_not_lt h1
      rw [graftT_lvs h2, List.take_append, List.take_of_length_le l1, List.take_append_of_le_length (Nat.le_of_lt h2),
        List.drop_append, List.drop_of_length_le (Nat.le_succ_of_le l1), show i + 1 - u.lvs.length = i - u.lvs.length + 1 from Nat.succ_sub l1, List.drop_append_of_le_length h2]
      simp
    · rename_i h1 h2
      have h1 := of_decide_eq_false h1
      have h2 := of_decide_eq_false h2
      show u.lvs ++ (v.lvs ++ (graftT k b' x y z w (i - u.lvs.length - v.lvs.length)).lvs) = _
      have l1 := Nat.le_of_not_lt h1
      have l2 := Nat.le_of_not_lt h2
      have s1 : i + 1 - u.lvs.length = i - u.lvs.length + 1 := Nat.succ_sub l1
      have s2 : i - u.lvs.length + 1 - v.lvs.length = i - u.lvs.length - v.lvs.length + 1 := Nat.succ_sub l2
      rw [graftT_lvs (Nat.sub_lt_left_of_lt_add l2 (Nat.sub_lt_left_of_lt_add l1 h')), List.take_append, List.take_of_length_le l1, List.take_append, List.take_of_length_le l2,
        List.drop_append, List.drop_of_length_le (Nat.le_succ_of_le l1), s1, List.drop_append, List.drop_of_length_le (Nat.le_succ_of_le l2), s2]
      simp
theorem AT.in_off {q b0 : Addr} {k0 : Nat} {t0 : Tok} {news : List (Addr × Obj)} (N : UniqL news) (hq : (q, listOf [lS 9 t0, .ref b0].toArray k0) ∈ news) :
    ∀ {t : AT}, t.In lS gS news → (∀ p ∈ t.lvs, p.1 ≠ q) → t.In lS gS (off q news)
  | .leaf a b d, ⟨t, k, k', h1, h2⟩, hn => by
    have hb : b ≠ q := fun e => by
      subst e
      have := (listOf_inj (UniqL.uq N h2 hq)).1
      cases this
    exact ⟨t, k, k', off_mem h1 (hn (a, b, d) (.head _)), off_mem h2 hb⟩
  | .gate a b k x y z, ⟨t, kc, kc', h1, h2, hx, hy, hz⟩, hn => by
    have hb : b ≠ q := fun e => by
      subst e
      have := (listOf_inj (UniqL.uq N h2 hq)).1
      cases this
    have ha : a ≠ q := fun e => by
      subst e
      have e1 := (listOf_inj (UniqL.uq N h1 hq)).1
      injection e1 with e2
      exact lS_ne_gS e2
    exact ⟨t, kc, kc', off_mem h1 ha, off_mem h2 hb, AT.in_off N hq hx fun p hp => hn p (List.mem_append_left _ hp), AT.in_off N hq hy fun p hp => hn p (List.mem_append_right _ (List.mem_append_left _ hp)), AT.in_off N hq hz fun p hp => hn p (List.mem_append_right _ (List.mem_append_right _ hp))⟩
def Dist (l : List (Addr × Addr × Nat)) : Prop := (l.map (·.1)).Nodup
theorem dist_app {a b : List (Addr × Addr × Nat)} (h : Dist (a ++ b)) : Dist a ∧ Dist b ∧ ∀ p ∈ a, ∀ q ∈ b, p.1 ≠ q.1 := by
  unfold Dist at h
  rw [List.map_append, List.nodup_append] at h
  exact ⟨h.1, h.2.1, fun p hp q hq => h.2.2 _ (List.mem_map_of_mem hp) _ (List.mem_map_of_mem hq)⟩
theorem graftT_in {q b0 b' : Addr} {k k0 k1 k2 : Nat} {t0 tk : Tok} {x y z : AT} {news nw : List (Addr × Obj)} (N : UniqL news) (hq : (q, listOf [lS 9 t0, .ref b0].toArray k0) ∈ news)
    (hs : Sub (off q news) nw) (h1 : (q, listOf [gS k tk, .ref b'].toArray k1) ∈ nw) (h2 : (b', listOf [.ref x.addr, .ref y.addr, .ref z.addr].toArray k2) ∈ nw) (hx : x.In lS gS nw) (hy : y.In lS gS nw) (hz : z.In lS gS nw) :
    ∀ {t : AT} {i : Nat} {r : Addr × Nat}, t.In lS gS news → t.lvs[i]? = some (q, r) → Dist t.lvs → (graftT k b' x y z t i).In lS gS nw
  | .leaf a b d, i, r, hin, hi, _ => by
    have e : a = q := by
      match i, hi with
      | 0, hi => cases hi; rfl
      | n + 1, hi => cases hi
    subst e
    exact ⟨tk, k1, k2, h1, h2, hx, hy, hz⟩
  | .gate a b kk u v w, i, r, ⟨t, kc, kc', g1, g2, hu, hv, hw⟩, hi, hd => by
    have hd' : Dist (u.lvs ++ (v.lvs ++ w.lvs)) := hd
    obtain ⟨du, dvw, uvw⟩ := dist_app hd'
    obtain ⟨dv, dw, vw⟩ := dist_app dvw
    have hi' : (u.lvs ++ (v.lvs ++ w.lvs))[i]? = some (q, r) := hi
    have hb : b ≠ q := fun e => by
      subst e
      have := (listOf_inj (UniqL.uq N g2 hq)).1
      cases this
    have ha : a ≠ q := fun e => by
      subst e
      have e1 := (listOf_inj (UniqL.uq N g1 hq)).1
      injection e1 with e2
      exact lS_ne_gS e2
    have ga := hs _ (off_mem g1 ha)
    have gb := hs _ (off_mem g2 hb)
    unfold graftT
    split
    · rename_i c1
      have c1 := of_decide_eq_true c1
      rw [List.getElem?_append_left c1] at hi'
      have hm := List.mem_of_getElem? hi'
      refine ⟨t, kc, kc', ga, ?_, graftT_in N hq hs h1 h2 hx hy hz hu hi' du, (AT.in_off N hq hv fun p hp e => uvw _ hm p (List.mem_append_left _ hp) e.symm).mono hs, (AT.in_off N hq hw fun p hp e => uvw _ hm p (List.mem_append_right _ hp) e.symm).mono hs⟩
      rw [graftT_addr]; exact gb
    · rename_i c1 c2
      have c1 := of_decide_eq_false c1
      have c2 := of_decide_eq_true c2
      rw [List.getElem?_append_right (by lia), List.getElem?_append_left c2] at hi'
      have hm := List.mem_of_getElem? hi'
      refine ⟨t, kc, kc', ga, ?_, (AT.in_off N hq hu fun p hp e => uvw p hp _ (List.mem_append_left _ hm) e).mono hs, graftT_in N hq hs h1 h2 hx hy hz hv hi' dv, (AT.in_off N hq hw fun p hp e => vw _ hm p hp e.symm).mono hs⟩
      rw [graftT_addr]; exact gb
    · rename_i c1 c2
      have c1 := of_decide_eq_false c1
      have c2 := of_decide_eq_false c2
      rw [List.getElem?_append_right (by lia), List.getElem?_append_right (by lia)] at hi'
      have hm := List.mem_of_getElem? hi'
      refine ⟨t, kc, kc', ga, ?_, (AT.in_off N hq hu fun p hp e => uvw p hp _ (List.mem_append_right _ hm) e).mono hs, (AT.in_off N hq hv fun p hp e => vw p hp _ hm e).mono hs, graftT_in N hq hs h1 h2 hx hy hz hw hi' dw⟩
      rw [graftT_addr]; exact gb
def Tr.bare : Tr → Tr
  | .leaf _ => .leaf 0
  | .gate _ x y z => .gate 0 x.bare y.bare z.bare
def Tr.nl : Tr → Nat
  | .leaf _ => 1
  | .gate _ x y z => x.nl + (y.nl + z.nl)
def Tr.graft (i : Nat) : Tr → Tr
  | .leaf _ => .gate 0 (.leaf 0) (.leaf 0) (.leaf 0)
  | .gate k u v w => match decide (i < u.nl), decide (i - u.nl < v.nl) with
    | true, _ => .gate k (u.graft i) v w
    | false, true => .gate k u (v.graft (i - u.nl)) w
    | false, false => .gate k u v (w.graft (i - u.nl - v.nl))
def Tr.gok : Tr → Prop
  | .leaf _ => True
  | .gate k x y z => k < 3 ∧ x.gok ∧ y.gok ∧ z.gok
theorem AT.nl_eq : ∀ (t : AT), t.lvs.length = t.tr.nl
  | .leaf .. => rfl
  | .gate a b k x y z => by
    show (x.lvs ++ (y.lvs ++ z.lvs)).length = x.tr.nl + (y.tr.nl + z.tr.nl)
    rw [List.length_append, List.length_append, x.nl_eq, y.nl_eq, z.nl_eq]
theorem Tr.bare_nl : ∀ (t : Tr), t.bare.nl = t.nl
  | .leaf _ => rfl
  | .gate k x y z => by
    show x.bare.nl + (y.bare.nl + z.bare.nl) = _
    rw [x.bare_nl, y.bare_nl, z.bare_nl]; rfl
theorem Tr.bare_dep : ∀ (t : Tr), t.bare.dep = t.dep
  | .leaf _ => rfl
  | .gate k x y z => by
    show max x.bare.dep (max y.bare.dep z.bare.dep) + 1 = _
    rw [x.bare_dep, y.bare_dep, z.bare_dep]; rfl
theorem graftT_bare {k : Nat} {b' a0 c0 a1 c1 a2 c2 : Addr} {d0 d1 d2 : Nat} : ∀ {t : AT} {i : Nat}, (graftT k b' (.leaf a0 c0 d0) (.leaf a1 c1 d1) (.leaf a2 c2 d2) t i).tr.bare = t.tr.bare.graft i
  | .leaf a b d, i => rfl
  | .gate a b kk u v w, i => by
    have eu : u.lvs.length = u.tr.bare.nl := by rw [u.nl_eq, Tr.bare_nl]
    have ev : v.lvs.length = v.tr.bare.nl := by rw [v.nl_eq, Tr.bare_nl]
    show _ = Tr.graft i (.gate 0 u.tr.bare v.tr.bare w.tr.bare)
    unfold graftT Tr.graft
    rw [← eu, ← ev]
    split
    · show Tr.gate 0 _ _ _ = _
      rw [← graftT_bare (t := u)]
    · show Tr.gate 0 _ _ _ = _
      rw [← graftT_bare (t := v)]
    · show Tr.gate 0 _ _ _ = _
      rw [← graftT_bare (t := w)]
theorem graftT_gok {k : Nat} {b' : Addr} {x y z : AT} (hk : k < 3) (hx : x.tr.gok) (hy : y.tr.gok) (hz : z.tr.gok) : ∀ {t : AT} {i : Nat}, t.tr.gok → (graftT k b' x y z t i).tr.gok
  | .leaf a b d, i, _ => ⟨hk, hx, hy, hz⟩
  | .gate a b kk u v w, i, h => by
    unfold graftT
    split
    · exact ⟨h.1, graftT_gok hk hx hy hz h.2.1, h.2.2.1, h.2.2.2⟩
    · exact ⟨h.1, h.2.1, graftT_gok hk hx hy hz h.2.2.1, h.2.2.2⟩
    · exact ⟨h.1, h.2.1, h.2.2.1, graftT_gok hk hx hy hz h.2.2.2⟩
def shp : Nat → List Tr
  | 0 => [.gate 0 (.leaf 0) (.leaf 0) (.leaf 0)]
  | j + 1 => (shp j).flatMap fun t => (List.range t.nl).map fun i => t.graft i
theorem shp_graft {j i : Nat} {t : Tr} (h : t ∈ shp j) (hi : i < t.nl) : t.graft i ∈ shp (j + 1) :=
  List.mem_flatMap.mpr ⟨t, h, List.mem_map.mpr ⟨i, List.mem_range.mpr hi, rfl⟩⟩
theorem shp_nl0 : ∀ t ∈ shp 0, t.nl = 3 := by decide +kernel
theorem shp_nl1 : ∀ t ∈ shp 1, t.nl = 5 := by decide +kernel
theorem shp_nl2 : ∀ t ∈ shp 2, t.nl = 7 ∧ t.dep ≤ 3 := by decide +kernel
theorem shp_nl {j : Nat} (hj : j ≤ 2) {t : Tr} (h : t ∈ shp j) : t.nl = 3 + 2 * j := by
  have : j = 0 ∨ j = 1 ∨ j = 2 := by lia
  rcases this with rfl | rfl | rfl
  · exact shp_nl0 t h
  · exact shp_nl1 t h
  · exact (shp_nl2 t h).1
theorem AT.put_lvs {q : Addr} {v : Nat} : ∀ {t : AT}, (t.put q v).lvs = t.lvs.map fun p => if p.1 = q then (p.1, p.2.1, v) else p
  | .leaf a b d => by
    show [(a, b, (if a = q then v else d))] = [if a = q then (a, b, v) else (a, b, d)]
    split <;> rfl
  | .gate a b k x y z => by
    show (x.put q v).lvs ++ ((y.put q v).lvs ++ (z.put q v).lvs) = (x.lvs ++ (y.lvs ++ z.lvs)).map _
    rw [x.put_lvs, y.put_lvs, z.put_lvs, List.map_append, List.map_append]
theorem AT.put_bare {q : Addr} {v : Nat} : ∀ {t : AT}, (t.put q v).tr.bare = t.tr.bare
  | .leaf .. => rfl
  | .gate a b k x y z => by
    show Tr.gate 0 (x.put q v).tr.bare (y.put q v).tr.bare (z.put q v).tr.bare = _
    rw [x.put_bare, y.put_bare, z.put_bare]; rfl
theorem AT.put_gok {q : Addr} {v : Nat} : ∀ {t : AT}, t.tr.gok → (t.put q v).tr.gok
  | .leaf .., _ => trivial
  | .gate a b k x y z, h => ⟨h.1, x.put_gok h.2.1, y.put_gok h.2.2.1, z.put_gok h.2.2.2⟩
theorem AT.ok_of : ∀ {t : AT}, t.tr.gok → (∀ p ∈ t.lvs, p.2.2 < 9) → t.tr.ok
  | .leaf a b d, _, h => h (a, b, d) (.head _)
  | .gate a b k x y z, g, h => ⟨g.1, AT.ok_of g.2.1 fun p hp => h p (List.mem_append_left _ hp), AT.ok_of g.2.2.1 fun p hp => h p (List.mem_append_right _ (List.mem_append_left _ hp)), AT.ok_of g.2.2.2 fun p hp => h p (List.mem_append_right _ (List.mem_append_right _ hp))⟩
theorem AT.put_inS {q b0 : Addr} {k0 v : Nat} {t0 tv : Tok} {news : List (Addr × Obj)} (N : UniqL news) (hq : (q, listOf [lS 9 t0, .ref b0].toArray k0) ∈ news) :
    ∀ {t : AT}, t.In lS gS news → (t.put q v).In lS gS ((q, listOf [lS v tv, .ref b0].toArray k0) :: off q news)
  | .leaf a b d, ⟨t, k, k', h1, h2⟩ => by
    have hb : b ≠ q := fun e => by
      subst e
      have := (listOf_inj (UniqL.uq N h2 hq)).1
      cases this
    show AT.In lS gS _ (.leaf a b (if a = q then v else d))
    by_cases e : a = q
    · subst e
      rw [if_pos rfl]
      obtain ⟨e1, e2⟩ := listOf_inj (UniqL.uq N h1 hq)
      have e3 : b = b0 := by injection e1 with _ e4; injection e4 with e5; injection e5
      subst e3; subst e2
      exact ⟨tv, k, k', .head _, .tail _ (off_mem h2 hb)⟩
    · rw [if_neg e]
      exact ⟨t, k, k', .tail _ (off_mem h1 e), .tail _ (off_mem h2 hb)⟩
  | .gate a b k x y z, ⟨t, kc, kc', h1, h2, hx, hy, hz⟩ => by
    have hb : b ≠ q := fun e => by
      subst e
      have := (listOf_inj (UniqL.uq N h2 hq)).1
      cases this
    have ha : a ≠ q := fun e => by
      subst e
      have e1 := (listOf_inj (UniqL.uq N h1 hq)).1
      injection e1 with e2
      exact lS_ne_gS e2
    refine ⟨t, kc, kc', .tail _ (off_mem h1 ha), .tail _ (off_mem ?_ hb), AT.put_inS N hq hx, AT.put_inS N hq hy, AT.put_inS N hq hz⟩
    rw [AT.put_addr, AT.put_addr, AT.put_addr]; exact h2
theorem pick_upto (vs : List Value) {y : Int} (h : 0 ≤ y) : (slicePick vs.toArray none (some y) none).toList = vs.take y.toNat := by
  have e : sliceBounds none (some y) none vs.toArray.size = (((0 : Nat) : Int), ((min y.toNat vs.toArray.size : Nat) : Int), 1) := by
    simp only [sliceBounds, Option.getD_none, show (1 : Int) > 0 by decide, if_true, if_neg (show ¬ (y < 0) by lia)]
    congr 1
    congr 1
    obtain ⟨n, rfl⟩ := Int.eq_ofNat_of_zero_le h
    rw [Int.max_eq_right (Int.le_min.2 ⟨h, Int.natCast_nonneg _⟩), Int.toNat_natCast]
    rcases Nat.le_total n vs.length with h | h
    · rw [Nat.min_eq_left (show n ≤ vs.toArray.size from h), Int.min_eq_left (show (n : Int) ≤ (vs.toArray.size : Int) from Int.ofNat_le.2 h)]
    · rw [Nat.min_eq_right (show vs.toArray.size ≤ n from h), Int.min_eq_right (show (vs.toArray.size : Int) ≤ (n : Int) from Int.ofNat_le.2 h)]
  rw [kmk_pick_nat _ e]
  show (vs.drop 0).take (min y.toNat vs.toArray.size - 0) = _
  rw [List.drop_zero, Nat.sub_zero, List.size_toArray, kmk_take_min]
theorem pick_from (vs : List Value) {x : Int} (h : 0 ≤ x) : (slicePick vs.toArray (some x) none none).toList = vs.drop x.toNat := by
  have e : sliceBounds (some x) none none vs.toArray.size = (((min x.toNat vs.toArray.size : Nat) : Int), ((vs.toArray.size : Nat) : Int), 1) := by
    simp only [sliceBounds, Option.getD_none, show (1 : Int) > 0 by decide, if_true, if_neg (show ¬ (x < 0) by lia)]
    congr 1
    obtain ⟨n, rfl⟩ := Int.eq_ofNat_of_zero_le h
    rw [Int.max_eq_right (Int.le_min.2 ⟨h, Int.natCast_nonneg _⟩), Int.toNat_natCast]
    rcases Nat.le_total n vs.length with h | h
    · rw [Nat.min_eq_left (show n ≤ vs.toArray.size from h), Int.min_eq_left (show (n : Int) ≤ (vs.toArray.size : Int) from Int.ofNat_le.2 h)]
    · rw [Nat.min_eq_right (show vs.toArray.size ≤ n from h), Int.min_eq_right (show (vs.toArray.size : Int) ≤ (n : Int) from Int.ofNat_le.2 h)]
  rw [kmk_pick_nat _ e]
  show (vs.drop (min x.toNat vs.toArray.size)).take (vs.toArray.size - min x.toNat vs.toArray.size) = _
  rw [List.size_toArray, kmk_drop_min, List.take_of_length_le (by rw [List.length_drop]; exact Nat.sub_le_sub_left (Nat.min_le_left _ _) _)]
end
section
theorem kw_Kgro2_0 : True := by
  k_with_none
  k_with "vat" => repeat' (first | exact List.forall_mem_nil _ | refine' List.forall_mem_cons.mpr ⟨?_, ?_⟩ | with_unfolding_all rfl)
  k_with "vrest" => first | ((repeat' (first | exact Vars.rest (by assumption) | exact vr_nil | exact vr_base | refine vr_upd ?_ (by with_unfolding_all rfl) | refine vr_set ?_ (by with_unfolding_all rfl))); done) | (intro zzz hzzz; (simp only [List.contains_cons, List.contains_nil, Bool.or_false, Bool.or_eq_false_iff, beq_eq_false_iff_ne, ne_eq] at hzzz); (simp [hzzz, upd, setL, baseOf, List.lookup]))
  k_with "exec For Name Name cons nil" => (refine' wpAny_For ?h ?hs; (case hs => (intro _; with_unfolding_all rfl)))
  k_with "exec For Name Call cons nil" => (refine' wpAny_For ?h ?hs; (case hs => (intro _; with_unfolding_all rfl)))
  k_with "exec For Name Attribute cons nil" => (refine' wpAny_For ?h ?hs; (case hs => (intro _; with_unfolding_all rfl)))
  k_with "sol" => all_goals (try (first | k_is | exact rfl | decide))
  k_with "sz" => first | omega | (simp only [List.length_append, List.length_cons, List.length_nil, List.length_map, List.length_replicate, List.length_reverse, List.length_set]; omega)
  k_with "sub" => first | exact Sub.refl _ | with_reducible assumption | exact Sub.nil | (refine Sub.cons ?_; k_extra "sub") | (refine Sub.trans (by with_reducible assumption) ?_; k_extra "sub") | fail "sub"
  k_with "member" => assumption
  k_with "ite" => first | with_reducible refine ite_tt ?_ | with_reducible refine ite_ff ?_
  k_with "execs nil" => refine wpAny_execs_nil ?_
  k_with "dp" => first | exact dpLe | omega
  k_with "un" => first | exact unLe | omega
  k_with "storeName" => (k_here; k_dflt (first | (refine' storeI ?_; intro q1zz) | (refine' storeS ?_; intro q1zz) | (refine' storeF ?_; intro q1zz) | refine' storeR ?_); k_whole; intro hpzz kpzz mpzz Fpzz Npzz; (try k_sweep))
  k_with "execs cons" => first | refine lastK ?_ | (refine cutK ?_; intro Qzz azz) | (refine enterK ?_; intro Qzz azz)
  k_with "KQ" => first | refine nextK (by assumption) ?_ | refine retK (by assumption) ?_ | refine impK (by assumption) ?_ | refine contK (by assumption) ?_ | refine brkK (by assumption) ?_
  k_with "KS" => refine stopK (by assumption) ?_
  k_with "exec If" => (refine ifK ?_; intro Qzz azz)
  k_with "KB" => refine ifB (by assumption) ?_
  k_with "KV" => refine stopV (by assumption) ?_
  exact True.intro
/-- what stands between two turns: the tree, and the list of its leaves -/
structure Grow (j : Nat) (r bot RL : Addr) (D : List (Addr × Obj)) (T : AT) (lv : Addr) : Prop where
  inn : T.In lS gS D
  lv : ∃ kv, (lv, listOf (T.lvs.map fun q => Value.ref q.1).toArray kv) ∈ D
  adr : T.addr = r
  gok : T.tr.gok
  shp : T.tr.bare ∈ shp j
  nin : ∀ q ∈ T.lvs, q.2.2 = 9
  dist : Dist T.lvs
  low : ∀ p ∈ D, bot ≤ p.1
  rl : ∀ p ∈ D, p.1 ≠ RL
theorem ups {b a0 a1 a2 a3 a4 a5 a6 a7 : Nat} (h : b < a0) (c0 : a0 < a1) (c1 : a1 < a2) (c2 : a2 < a3) (c3 : a3 < a4) (c4 : a4 < a5) (c5 : a5 < a6) (c6 : a6 < a7) : b < a0 ∧ b < a1 ∧ b < a2 ∧ b < a3 ∧ b < a4 ∧ b < a5 ∧ b < a6 ∧ b < a7 :=
  have h1 := Nat.lt_trans h c0; have h2 := Nat.lt_trans h1 c1; have h3 := Nat.lt_trans h2 c2; have h4 := Nat.lt_trans h3 c3; have h5 := Nat.lt_trans h4 c4; have h6 := Nat.lt_trans h5 c5
  ⟨h, h1, h2, h3, h4, h5, h6, Nat.lt_trans h6 c6⟩
theorem Grow.step {j i kk r bot RL lv qa qb nl n2 m2 n1 m1 n0 m0 s4 : Nat} {k0 k5 : Nat} {t0 t1 u0 u1 u2 : Tok} {D : List (Addr × Obj)} {T : AT} (G : Grow j r bot RL D T lv) (N : UniqL D) (hj : j < 2) (hq : T.lvs[i]? = some (qa, qb, 9))
    (hqo : (qa, listOf [lS 9 t0, .ref qb].toArray k0) ∈ D) (hk : kk < 3) (hD : ∀ p ∈ D, p.1 < m0) (hRL : RL < m0) (c0 : m0 < n0) (c1 : n0 < m1) (c2 : m1 < n1) (c3 : n1 < m2) (c4 : m2 < n2) (c5 : n2 < nl) (c6 : nl < s4) :
    Grow (j + 1) r bot RL ((s4, listOf (((T.lvs.map fun q => Value.ref q.1).take i ++ [Value.ref n0, .ref n1, .ref n2]) ++ (T.lvs.map fun q => Value.ref q.1).drop (i + 1)).toArray k5) :: (nl, listOf [.ref n0, .ref n1, .ref n2].toArray 0) :: (n2, listOf [lS 9 u2, .ref m2].toArray 0) :: (m2, listOf ([] : List Value).toArray 0) :: (n1, listOf [lS 9 u1, .ref m1].toArray 0) :: (m1, listOf ([] : List Value).toArray 0) :: (n0, listOf [lS 9 u0, .ref m0].toArray 0) :: (m0, listOf ([] : List Value).toArray 0) :: (qa, listOf [gS kk t1, .ref nl].toArray k0) :: off qa D)
      (graftT kk nl (.leaf n0 m0 9) (.leaf n1 m1 9) (.leaf n2 m2 9) T i) s4 := by
  have hil : i < T.lvs.length := (List.getElem?_eq_some_iff.mp hq).1
  have hlow : bot < m0 := Nat.lt_of_le_of_lt (G.low _ hqo) (hD _ hqo)
  have hlv := graftT_lvs (k := kk) (b' := nl) (x := .leaf n0 m0 9) (y := .leaf n1 m1 9) (z := .leaf n2 m2 9) hil
  have hq9 : ∀ p ∈ T.lvs, p.1 < m0 := fun p hp => by
    obtain ⟨t, k, h⟩ := G.inn.lvsF p hp
    exact hD _ h
  have hall : ∀ {P : Addr → Prop}, P s4 → P nl → P n2 → P m2 → P n1 → P m1 → P n0 → P m0 → (∀ p ∈ D, P p.1) → ∀ p ∈ ((s4, listOf (((T.lvs.map fun q => Value.ref q.1).take i ++ [Value.ref n0, .ref n1, .ref n2]) ++ (T.lvs.map fun q => Value.ref q.1).drop (i + 1)).toArray k5) :: (nl, listOf [.ref n0, .ref n1, .ref n2].toArray 0) :: (n2, listOf [lS 9 u2, .ref m2].toArray 0) :: (m2, listOf ([] : List Value).toArray 0) :: (n1, listOf [lS 9 u1, .ref m1].toArray 0) :: (m1, listOf ([] : List Value).toArray 0) :: (n0, listOf [lS 9 u0, .ref m0].toArray 0) :: (m0, listOf ([] : List Value).toArray 0) :: (qa, listOf [gS kk t1, .ref nl].toArray k0) :: off qa D), P p.1 := by
    intro P a1 a2 a3 a4 a5 a6 a7 a8 a9 p hp
    simp only [List.mem_cons] at hp
    rcases hp with rfl | rfl | rfl | rfl | rfl | rfl | rfl | rfl | rfl | hp
    · exact a1
    · exact a2
    · exact a3
    · exact a4
    · exact a5
    · exact a6
    · exact a7
    · exact a8
    · exact (show P qa from a9 (qa, listOf [lS 9 t0, .ref qb].toArray k0) hqo)
    · exact a9 p (off_sub _ hp)
  refine ⟨?_, ?_, ?_, ?_, ?_, ?_, ?_, ?_, ?_⟩
  · refine graftT_in (x := .leaf n0 m0 9) (y := .leaf n1 m1 9) (z := .leaf n2 m2 9) (k := kk) (b' := nl) N hqo ?_ (t0 := t0) (tk := t1) (k0 := k0) (k1 := k0) (k2 := 0) (b0 := qb) ?_ (.tail _ (.head _)) ?_ ?_ ?_ G.inn hq G.dist
    · intro p hp
      exact .tail _ (.tail _ (.tail _ (.tail _ (.tail _ (.tail _ (.tail _ (.tail _ (.tail _ hp))))))))
    · exact .tail _ (.tail _ (.tail _ (.tail _ (.tail _ (.tail _ (.tail _ (.tail _ (.head _))))))))
    · exact ⟨u0, 0, 0, .tail _ (.tail _ (.tail _ (.tail _ (.tail _ (.tail _ (.head _)))))), .tail _ (.tail _ (.tail _ (.tail _ (.tail _ (.tail _ (.tail _ (.head _))))))) ⟩
    · exact ⟨u1, 0, 0, .tail _ (.tail _ (.tail _ (.tail _ (.head _)))), .tail _ (.tail _ (.tail _ (.tail _ (.tail _ (.head _)))))⟩
    · exact ⟨u2, 0, 0, .tail _ (.tail _ (.head _)), .tail _ (.tail _ (.tail _ (.head _)))⟩
  · refine ⟨k5, ?_⟩
    rw [hlv, List.map_append, List.map_append, List.map_take, List.map_drop]
    exact .head _
  · rw [graftT_addr]; exact G.adr
  · exact graftT_gok (x := .leaf n0 m0 9) (y := .leaf n1 m1 9) (z := .leaf n2 m2 9) hk trivial trivial trivial G.gok
  · rw [graftT_bare]
    exact shp_graft G.shp (by rw [Tr.bare_nl, ← AT.nl_eq]; exact hil)
  · intro q hq'
    rw [hlv] at hq'
    rcases List.mem_append.mp hq' with hq' | hq'
    · rcases List.mem_append.mp hq' with hq' | hq'
      · exact G.nin q (List.mem_of_mem_take hq')
      · have : q ∈ [(n0, m0, 9), (n1, m1, 9), (n2, m2, 9)] := hq'
        simp only [List.mem_cons, List.not_mem_nil, or_false] at this
        rcases this with rfl | rfl | rfl <;> rfl
    · exact G.nin q (List.mem_of_mem_drop hq')
  · unfold Dist
    rw [hlv, List.map_append, List.map_append]
    have hsplit : Dist (T.lvs.take i ++ T.lvs.drop i) := by rw [List.take_append_drop]; exact G.dist
    obtain ⟨d1, d2, d3⟩ := dist_app hsplit
    have hdd : ∀ q ∈ T.lvs.drop (i + 1), q ∈ T.lvs.drop i := fun q hq' => by
      rw [List.drop_eq_getElem_cons hil]; exact .tail _ hq'
    have d2' : ((T.lvs.drop (i + 1)).map (·.1)).Nodup := by
      have d2' : ((T.lvs.drop i).map (·.1)).Nodup := d2
      rw [List.drop_eq_getElem_cons hil, List.map_cons, List.nodup_cons] at d2'
      exact d2'.2
    have ht : ∀ a ∈ (T.lvs.take i).map (·.1), a < m0 := fun a ha => by
      obtain ⟨q, hq', rfl⟩ := List.mem_map.mp ha
      exact hq9 q (List.mem_of_mem_take hq')
    have hdr : ∀ a ∈ (T.lvs.drop (i + 1)).map (·.1), a < m0 := fun a ha => by
      obtain ⟨q, hq', rfl⟩ := List.mem_map.mp ha
      exact hq9 q (List.mem_of_mem_drop hq')
    show (((T.lvs.take i).map (·.1) ++ [n0, n1, n2]) ++ (T.lvs.drop (i + 1)).map (·.1)).Nodup
    rw [List.nodup_append, List.nodup_append]
    refine ⟨⟨d1, ?_, ?_⟩, d2', ?_⟩
    · have e : ([n0, n1, n2] : List Nat).Nodup := by
        simp only [List.nodup_cons, List.mem_cons, List.not_mem_nil, or_false, not_false_eq_true, List.nodup_nil, and_true, not_or]
        exact ⟨⟨by lia, by lia⟩, by lia⟩
      exact e
    · intro a ha b hb e
      have h1 : @LT.lt Nat _ a m0 := ht a ha
      have h2 : @Eq Nat b n0 ∨ @Eq Nat b n1 ∨ @Eq Nat b n2 := by simpa using hb
      have h3 : @Eq Nat a b := e
      lia
    · intro a ha b hb e
      have hb' := hdr b hb
      rcases List.mem_append.mp ha with ha | ha
      · obtain ⟨q, hq', rfl⟩ := List.mem_map.mp ha
        obtain ⟨q2, hq2, rfl⟩ := List.mem_map.mp hb
        exact d3 q hq' q2 (hdd _ hq2) e
      · have h1 : @LT.lt Nat _ b m0 := hb'
        have h2 : @Eq Nat a n0 ∨ @Eq Nat a n1 ∨ @Eq Nat a n2 := by simpa using ha
        have h3 : @Eq Nat a b := e
        lia
  · have g := ups hlow c0 c1 c2 c3 c4 c5 c6
    exact hall (P := fun a => bot ≤ a) (Nat.le_of_lt g.2.2.2.2.2.2.2) (Nat.le_of_lt g.2.2.2.2.2.2.1) (Nat.le_of_lt g.2.2.2.2.2.1) (Nat.le_of_lt g.2.2.2.2.1) (Nat.le_of_lt g.2.2.2.1) (Nat.le_of_lt g.2.2.1) (Nat.le_of_lt g.2.1) (Nat.le_of_lt g.1) G.low
  · have g := ups hRL c0 c1 c2 c3 c4 c5 c6
    exact hall (P := fun a => a ≠ RL) (Nat.ne_of_gt g.2.2.2.2.2.2.2) (Nat.ne_of_gt g.2.2.2.2.2.2.1) (Nat.ne_of_gt g.2.2.2.2.2.1) (Nat.ne_of_gt g.2.2.2.2.1) (Nat.ne_of_gt g.2.2.2.1) (Nat.ne_of_gt g.2.2.1) (Nat.ne_of_gt g.2.1) (Nat.ne_of_gt g.1) G.rl

theorem allGro {P : Addr → Prop} {a1 a2 a3 a4 a5 a6 a7 a8 a9 : Addr} {o1 o2 o3 o4 o5 o6 o7 o8 o9 : Obj} {D : List (Addr × Obj)} (h1 : P a1) (h2 : P a2) (h3 : P a3) (h4 : P a4) (h5 : P a5) (h6 : P a6) (h7 : P a7) (h8 : P a8) (h9 : P a9) (h : ∀ p ∈ D, P p.1) :
    ∀ p ∈ ((a1, o1) :: (a2, o2) :: (a3, o3) :: (a4, o4) :: (a5, o5) :: (a6, o6) :: (a7, o7) :: (a8, o8) :: (a9, o9) :: D), P p.1 := by
  intro p hp
  simp only [List.mem_cons] at hp
  rcases hp with rfl | rfl | rfl | rfl | rfl | rfl | rfl | rfl | rfl | hp
  · exact h1
  · exact h2
  · exact h3
  · exact h4
  · exact h5
  · exact h6
  · exact h7
  · exact h8
  · exact h9
  · exact h p hp
theorem subGro {q : Addr} {p1 x1 x2 x3 p2 p3 p4 p5 p6 p7 p8 p9 : Addr × Obj} {D rest : List (Addr × Obj)} (hr : ∀ p ∈ rest, p.1 ≠ q) :
    Sub ((p1 :: p2 :: p3 :: p4 :: p5 :: p6 :: p7 :: p8 :: p9 :: off q D) ++ rest) (p1 :: x1 :: x2 :: x3 :: p2 :: p3 :: p4 :: p5 :: p6 :: p7 :: p8 :: p9 :: off q (D ++ rest)) := by
  intro p hp
  rcases List.mem_append.mp hp with hp | hp
  · simp only [List.mem_cons] at hp ⊢
    rcases hp with h | h | h | h | h | h | h | h | h | h
    · exact .inl h
    · exact .inr (.inr (.inr (.inr (.inl h))))
    · exact .inr (.inr (.inr (.inr (.inr (.inl h)))))
    · exact .inr (.inr (.inr (.inr (.inr (.inr (.inl h))))))
    · exact .inr (.inr (.inr (.inr (.inr (.inr (.inr (.inl h)))))))
    · exact .inr (.inr (.inr (.inr (.inr (.inr (.inr (.inr (.inl h))))))))
    · exact .inr (.inr (.inr (.inr (.inr (.inr (.inr (.inr (.inr (.inl h)))))))))
    · exact .inr (.inr (.inr (.inr (.inr (.inr (.inr (.inr (.inr (.inr (.inl h))))))))))
    · exact .inr (.inr (.inr (.inr (.inr (.inr (.inr (.inr (.inr (.inr (.inr (.inl h)))))))))))
    · exact .inr (.inr (.inr (.inr (.inr (.inr (.inr (.inr (.inr (.inr (.inr (.inr (off_mem (List.mem_append_left _ (off_sub _ h)) (off_ne p h)))))))))))))
  · exact .tail _ (.tail _ (.tail _ (.tail _ (.tail _ (.tail _ (.tail _ (.tail _ (.tail _ (.tail _ (.tail _ (.tail _ (off_mem (List.mem_append_right _ hp) (hr p hp)))))))))))))
theorem grow0 {k r rb ll a2 b2 a1 b1 a0 b0 RL : Nat} {c : Nat} {t t0 t1 t2 : Tok} (hk : k < 3) (o1 : b0 < a0) (o2 : a0 < b1) (o3 : b1 < a1) (o4 : a1 < b2) (o5 : b2 < a2) (o6 : a2 < ll) (o7 : ll < rb) (o8 : rb < r) (o9 : r < RL) :
    Grow 0 r b0 RL [(r, listOf [gS k t, .ref rb].toArray 0), (rb, listOf [.ref a0, .ref a1, .ref a2].toArray c), (ll, listOf [.ref a0, .ref a1, .ref a2].toArray 0), (a2, listOf [lS 9 t2, .ref b2].toArray 0), (b2, listOf ([] : List Value).toArray 0), (a1, listOf [lS 9 t1, .ref b1].toArray 0), (b1, listOf ([] : List Value).toArray 0), (a0, listOf [lS 9 t0, .ref b0].toArray 0), (b0, listOf ([] : List Value).toArray 0)]
      (.gate r rb k (.leaf a0 b0 9) (.leaf a1 b1 9) (.leaf a2 b2 9)) ll := by
  have hall : ∀ {P : Addr → Prop}, P r → P rb → P ll → P a2 → P b2 → P a1 → P b1 → P a0 → P b0 → ∀ p ∈ [((r, listOf [gS k t, .ref rb].toArray 0) : Addr × Obj), (rb, listOf [.ref a0, .ref a1, .ref a2].toArray c), (ll, listOf [.ref a0, .ref a1, .ref a2].toArray 0), (a2, listOf [lS 9 t2, .ref b2].toArray 0), (b2, listOf ([] : List Value).toArray 0), (a1, listOf [lS 9 t1, .ref b1].toArray 0), (b1, listOf ([] : List Value).toArray 0), (a0, listOf [lS 9 t0, .ref b0].toArray 0), (b0, listOf ([] : List Value).toArray 0)], P p.1 :=
    fun h1 h2 h3 h4 h5 h6 h7 h8 h9 => allGro h1 h2 h3 h4 h5 h6 h7 h8 h9 fun _ h => nomatch h
  refine ⟨?_, ⟨0, ?_⟩, rfl, ⟨hk, trivial, trivial, trivial⟩, .head _, ?_, ?_, ?_, ?_⟩
  · exact ⟨t, 0, c, .head _, .tail _ (.head _), ⟨t0, 0, 0, .tail _ (.tail _ (.tail _ (.tail _ (.tail _ (.tail _ (.tail _ (.head _))))))), .tail _ (.tail _ (.tail _ (.tail _ (.tail _ (.tail _ (.tail _ (.tail _ (.head _))))))))⟩, ⟨t1, 0, 0, .tail _ (.tail _ (.tail _ (.tail _ (.tail _ (.head _))))), .tail _ (.tail _ (.tail _ (.tail _ (.tail _ (.tail _ (.head _))))))⟩, ⟨t2, 0, 0, .tail _ (.tail _ (.tail _ (.head _))), .tail _ (.tail _ (.tail _ (.tail _ (.head _))))⟩⟩
  · exact .tail _ (.tail _ (.head _))
  · intro q hq
    have : q ∈ [(a0, b0, 9), (a1, b1, 9), (a2, b2, 9)] := hq
    simp only [List.mem_cons, List.not_mem_nil, or_false] at this
    rcases this with rfl | rfl | rfl <;> rfl
  · have e : ([a0, a1, a2] : List Nat).Nodup := by
      simp only [List.nodup_cons, List.mem_cons, List.not_mem_nil, or_false, not_false_eq_true, List.nodup_nil, and_true, not_or]
      exact ⟨⟨by lia, by lia⟩, by lia⟩
    exact e
  · have g := ups o1 o2 o3 o4 o5 o6 o7 o8
    exact hall (P := fun a => b0 ≤ a) (Nat.le_of_lt g.2.2.2.2.2.2.2) (Nat.le_of_lt g.2.2.2.2.2.2.1) (Nat.le_of_lt g.2.2.2.2.2.1) (Nat.le_of_lt g.2.2.2.2.1) (Nat.le_of_lt g.2.2.2.1) (Nat.le_of_lt g.2.2.1) (Nat.le_of_lt g.2.1) (Nat.le_of_lt g.1) (Nat.le_refl _)
  · have d8 := o9; have d7 := Nat.lt_trans o8 d8; have d6 := Nat.lt_trans o7 d7; have d5 := Nat.lt_trans o6 d6; have d4 := Nat.lt_trans o5 d5; have d3 := Nat.lt_trans o4 d4; have d2 := Nat.lt_trans o3 d3; have d1 := Nat.lt_trans o2 d2
    exact hall (P := fun a => a ≠ RL) (Nat.ne_of_lt d8) (Nat.ne_of_lt d7) (Nat.ne_of_lt d6) (Nat.ne_of_lt d5) (Nat.ne_of_lt d4) (Nat.ne_of_lt d3) (Nat.ne_of_lt d2) (Nat.ne_of_lt d1) (Nat.ne_of_lt (Nat.lt_trans o1 d1))
structure Lab (j : Nat) (r bot : Addr) (D : List (Addr × Obj)) (T : AT) (lv : Addr) : Prop where
  inn : T.In lS gS D
  lv : ∃ kv, (lv, listOf (T.lvs.map fun q => Value.ref q.1).toArray kv) ∈ D
  adr : T.addr = r
  gok : T.tr.gok
  shp : T.tr.bare ∈ shp 2
  lo : ∀ i q, T.lvs[i]? = some q → i < j → q.2.2 < 9
  hi : ∀ i q, T.lvs[i]? = some q → j ≤ i → q.2.2 = 9
  dist : Dist T.lvs
  low : ∀ p ∈ D, bot ≤ p.1
theorem Grow.lab {r bot RL lv : Addr} {D : List (Addr × Obj)} {T : AT} (G : Grow 2 r bot RL D T lv) : Lab 0 r bot D T lv :=
  ⟨G.inn, G.lv, G.adr, G.gok, G.shp, fun _ _ _ h => absurd h (Nat.not_lt_zero _), fun _ _ h _ => G.nin _ (List.mem_of_getElem? h), G.dist, G.low⟩
theorem dist_inj {l : List (Addr × Addr × Nat)} (h : Dist l) {i j : Nat} {p q : Addr × Addr × Nat} (hi : l[i]? = some p) (hj : l[j]? = some q) (e : p.1 = q.1) : i = j := by
  have h1 : i < (l.map (·.1)).length := by rw [List.length_map]; exact (List.getElem?_eq_some_iff.mp hi).1
  refine (List.getElem?_inj h1 h).mp ?_
  rw [List.getElem?_map, List.getElem?_map, hi, hj]
  exact congrArg some e
theorem AT.put_refs {q : Addr} {v : Nat} {t : AT} : (t.put q v).lvs.map (fun p => Value.ref p.1) = t.lvs.map fun p => Value.ref p.1 := by
  rw [AT.put_lvs, List.map_map]
  refine List.map_congr_left fun p _ => ?_
  show Value.ref (if p.1 = q then (p.1, p.2.1, v) else p).1 = _
  split <;> rfl
theorem AT.put_fst {q : Addr} {v : Nat} {t : AT} : (t.put q v).lvs.map (·.1) = t.lvs.map (·.1) := by
  rw [AT.put_lvs, List.map_map]
  refine List.map_congr_left fun p _ => ?_
  show (if p.1 = q then (p.1, p.2.1, v) else p).1 = _
  split <;> rfl
theorem Lab.step {j v k0 : Nat} {r bot lv qa qb : Addr} {t0 tv : Tok} {D : List (Addr × Obj)} {T : AT} (G : Lab j r bot D T lv) (N : UniqL D) (hq : T.lvs[j]? = some (qa, qb, 9)) (hqo : (qa, listOf [lS 9 t0, .ref qb].toArray k0) ∈ D) (hv : v < 9) :
    Lab (j + 1) r bot ((qa, listOf [lS v tv, .ref qb].toArray k0) :: off qa D) (T.put qa v) lv := by
  have hget : ∀ i q, (T.put qa v).lvs[i]? = some q → ∃ p, T.lvs[i]? = some p ∧ q = if p.1 = qa then (p.1, p.2.1, v) else p := fun i q h => by
    rw [AT.put_lvs, List.getElem?_map] at h
    obtain ⟨p, h1, h2⟩ := Option.map_eq_some_iff.mp h
    exact ⟨p, h1, h2.symm⟩
  obtain ⟨kv, hlv⟩ := G.lv
  have hlq : lv ≠ qa := fun e => by
    subst e
    have e1 := (listOf_inj (N.uq hlv hqo)).1
    have e2 := congrArg List.length e1
    have e3 : T.lvs.length = 2 := by rw [List.length_map] at e2; exact e2
    have e4 := shp_nl (j := 2) (by lia) G.shp
    rw [Tr.bare_nl, ← AT.nl_eq] at e4
    lia
  refine ⟨AT.put_inS N hqo G.inn, ⟨kv, ?_⟩, ?_, AT.put_gok G.gok, ?_, ?_, ?_, ?_, ?_⟩
  · rw [AT.put_refs]
    exact .tail _ (off_mem hlv hlq)
  · rw [AT.put_addr]; exact G.adr
  · rw [AT.put_bare]; exact G.shp
  · intro i q h hij
    obtain ⟨p, h1, rfl⟩ := hget i q h
    by_cases e : p.1 = qa
    · rw [if_pos e]; exact hv
    · rw [if_neg e]
      refine G.lo i p h1 ?_
      rcases Nat.lt_or_ge i j with h2 | h2
      · exact h2
      · have : i = j := by lia
        subst this
        rw [hq] at h1
        cases h1
        exact absurd rfl e
  · intro i q h hij
    obtain ⟨p, h1, rfl⟩ := hget i q h
    have e : p.1 ≠ qa := fun e => by
      have := dist_inj G.dist h1 hq e
      lia
    rw [if_neg e]
    exact G.hi i p h1 (by lia)
  · unfold Dist
    rw [AT.put_fst]; exact G.dist
  · intro p hp
    rcases List.mem_cons.mp hp with rfl | hp
    · exact (show bot ≤ qa from G.low (qa, listOf [lS 9 t0, .ref qb].toArray k0) hqo)
    · exact G.low _ (off_sub _ hp)
def GroP (news : List (Addr × Obj)) (r : Value) (news' : List (Addr × Obj)) : Prop :=
  ∃ T : AT, r = .ref T.addr ∧ T.In lS gS news' ∧ T.tr.ok ∧ T.tr.bare ∈ shp 2 ∧ Sub news news'
theorem Lab.done {r bot lv : Addr} {D : List (Addr × Obj)} {T : AT} (G : Lab 7 r bot D T lv) : T.tr.ok := by
  refine AT.ok_of G.gok fun p hp => ?_
  obtain ⟨i, hi, e⟩ := List.getElem_of_mem hp
  have h7 := shp_nl (j := 2) (by lia) G.shp
  rw [Tr.bare_nl, ← AT.nl_eq] at h7
  exact G.lo i p (by rw [List.getElem?_eq_getElem hi, e]) (by lia)
end
section
theorem kw_Fgro_0 : True := by
  k_with_none
  k_with "vat" => repeat' (first | exact List.forall_mem_nil _ | refine' List.forall_mem_cons.mpr ⟨?_, ?_⟩ | with_unfolding_all rfl)
  k_with "vrest" => first | ((repeat' (first | exact Vars.rest (by assumption) | exact vr_nil | exact vr_base | refine vr_upd ?_ (by with_unfolding_all rfl) | refine vr_set ?_ (by with_unfolding_all rfl))); done) | (intro zzz hzzz; (simp only [List.contains_cons, List.contains_nil, Bool.or_false, Bool.or_eq_false_iff, beq_eq_false_iff_ne, ne_eq] at hzzz); (simp [hzzz, upd, setL, baseOf, List.lookup]))
  k_with "exec For Name Name cons nil" => (refine' wpAny_For ?h ?hs; (case hs => (intro _; with_unfolding_all rfl)))
  k_with "exec For Name Call cons nil" => (refine' wpAny_For ?h ?hs; (case hs => (intro _; with_unfolding_all rfl)))
  k_with "exec For Name Attribute cons nil" => (refine' wpAny_For ?h ?hs; (case hs => (intro _; with_unfolding_all rfl)))
  k_with "sol" => all_goals (try (first | k_is | exact rfl | decide))
  k_with "sz" => first | omega | (simp only [List.length_append, List.length_cons, List.length_nil, List.length_map, List.length_replicate, List.length_reverse, List.length_set]; omega)
  k_with "sub" => first | exact Sub.refl _ | with_reducible assumption | exact Sub.nil | (refine Sub.cons ?_; k_extra "sub") | (refine Sub.trans (by with_reducible assumption) ?_; k_extra "sub") | fail "sub"
  k_with "member" => assumption
  k_with "ite" => first | with_reducible refine ite_tt ?_ | with_reducible refine ite_ff ?_
  k_with "execs nil" => refine wpAny_execs_nil ?_
  k_with "dp" => first | exact dpLe | omega
  k_with "un" => first | exact unLe | omega
  k_with "storeName" => (k_here; k_dflt (first | (refine' storeI ?_; intro q1zz) | (refine' storeS ?_; intro q1zz) | (refine' storeF ?_; intro q1zz) | refine' storeR ?_); k_whole; intro hpzz kpzz mpzz Fpzz Npzz; (try k_sweep))
  k_with "execs cons" => first | refine lastK ?_ | (refine cutK ?_; intro Qzz azz) | (refine enterK ?_; intro Qzz azz)
  k_with "KQ" => first | refine nextK (by assumption) ?_ | refine retK (by assumption) ?_ | refine impK (by assumption) ?_ | refine contK (by assumption) ?_ | refine brkK (by assumption) ?_
  k_with "KS" => refine stopK (by assumption) ?_
  k_with "exec If" => (refine ifK ?_; intro Qzz azz)
  k_with "KB" => refine ifB (by assumption) ?_
  k_with "KV" => refine stopV (by assumption) ?_
  k_with "exec While" => refine wpAny_While ?_
  k_with "exec While Compare" => refine wpAny_While ?_
  k_with "exec While BoolOp" => refine wpAny_While ?_
  k_with "eval ListComp" => (k_here; (with_reducible show wpAny _ _ (eval (PySem.Expr.ListComp _ [PySem.Comprehension.mk _ _ [] 0] _ _) _) _ _ _); k_dflt (refine LCg.ListComp_U (F₀ := by k_asm) (by with_unfolding_all rfl) (by decide) (by rfl) (by decide) (by rfl) ?_))
  k_with "eval ListComp" => (k_here; (with_reducible show wpAny _ _ (eval (PySem.Expr.ListComp _ [PySem.Comprehension.mk _ _ [_] 0] _ _) _) _ _ _); k_dflt (refine LCt.ListComp_T (F₀ := by k_asm) (by with_unfolding_all rfl) (by decide) (by rfl) (by decide) (by rfl) ?_))
  k_with "exec Assign cons ListComp" => (k_here; (with_reducible show wpAny _ _ (exec (PySem.Stmt.Assign [_] (PySem.Expr.ListComp _ [PySem.Comprehension.mk _ _ [] 0] _ _) _) _) _ _ _); k_dflt (refine LCg.Assign_ListComp_U (F₀ := by k_asm) (by rfl) (by with_unfolding_all rfl) (by with_unfolding_all rfl) (by decide) (by rfl) (by decide) (by rfl) (by rfl) (by rfl) ?_))
  k_with "exec Assign cons ListComp" => (k_here; (with_reducible show wpAny _ _ (exec (PySem.Stmt.Assign [_] (PySem.Expr.ListComp _ [PySem.Comprehension.mk _ _ [_] 0] _ _) _) _) _ _ _); k_dflt (refine LCt.Assign_ListComp_T (F₀ := by k_asm) (by rfl) (by with_unfolding_all rfl) (by with_unfolding_all rfl) (by decide) (by rfl) (by decide) (by rfl) (by rfl) (by rfl) ?_))
  k_with "CompSrc" => (k_here; refine Hold.mk ?_)
  k_with "CompSrcT" => (k_here; refine Hold.mk ?_)
  k_with "CompEnd" => (k_here; refine Hold.mk ?_)
  k_with "FinA" => (k_here; refine Hold.mk ?_)
  k_with "FinE" => (k_here; refine Hold.mk ?_)
  k_with "loadName" => (k_here; k_dflt (refine' ldnX ?k1 ?k2 ?_; (case k1 => k_asm); (case k2 => exact rfl); k_whole))
  k_with "newTuple" => (k_here; k_dflt (refine' tupR ?_); intro Dpzz hpzz kpzz Fpzz Npzz l1zz; (try k_lt l1zz); (try k_sweep))
  k_with "mem" => first | exact List.Mem.head _ | with_reducible assumption | (refine' List.mem_cons_of_mem _ ?_; k_extra "mem") | (refine' Sub.mem ?s ?m; (case s => with_reducible assumption); (case m => k_extra "mem")) | fail "mem"
  k_with "member" => k_extra "mem"
  k_with "setItem ref int" => (k_here; refine Hold.mk ?_)
  k_with "getItem ref int" => (k_here; refine Hold.mk ?_)
  k_with "subscriptTail Name Constant ref int" => (k_here; refine Hold.mk ?_)
  k_with "subscriptTail Name Name ref int" => (k_here; refine Hold.mk ?_)
  k_with "subscriptTail Name Slice ref ref" => (k_here; (with_reducible rename Grow _ _ _ _ _ _ => q9zz); refine Hold.mk ?_)
  k_with "binaryOp Add ref ref" => (k_here; refine Hold.mk ?_)
  k_with "call builtin:len" => (k_here; refine' len_lstM (h := ?_))
  k_with "exec For Name Subscript cons nil" => (refine' wpAny_For ?h ?hs; (case hs => (intro _; with_unfolding_all rfl)))
  k_with "binaryOp FloorDiv int int" => (k_here; (with_reducible rename (0 < _) => q9zz); refine floordiv_int (Int.ne_of_gt q9zz) ?_)
  k_with "call type:str" => (k_here; refine str_of_int_fit (N := 2 ^ 40) (by split <;> lia) (by decide) ?_; intro _)
  exact True.intro
theorem name_gro {g h : Heap} {L a1 a2 a3 a4 a5 a6 a7 a8 a9 a10 : Addr} {o1 o2 o3 o4 o5 o6 o7 o8 o9 o10 : Obj} {news : List (Addr × Obj)} (N : News g L h ((a1, o1) :: (a2, o2) :: (a3, o3) :: (a4, o4) :: (a5, o5) :: (a6, o6) :: (a7, o7) :: (a8, o8) :: (a9, o9) :: (a10, o10) :: news)) {C : Prop}
    (k : ∀ b1 b2 b3 b4 b5 b6 b7 b8 b9 b10 : Addr, b1 = a1 → b2 = a2 → b3 = a3 → b4 = a4 → b5 = a5 → b6 = a6 → b7 = a7 → b8 = a8 → b9 = a9 → b10 = a10 → C) : C := k _ _ _ _ _ _ _ _ _ _ rfl rfl rfl rfl rfl rfl rfl rfl rfl rfl
theorem rotA {D l : List (Addr × Obj)} {p : Addr × Obj} : Sub (D ++ p :: l) (p :: (D ++ l)) := fun q hq => by
  rcases List.mem_append.mp hq with h | h
  · exact .tail _ (List.mem_append_left _ h)
  · rcases List.mem_cons.mp h with rfl | h
    · exact .head _
    · exact .tail _ (List.mem_append_right _ h)
theorem setAtU {prog : Program} {w : World} {A : Around} {E : Value → Shared → Prop} {s : Shared} {h₀ : Heap} {L D : Addr} {m : Str → Option Value} {news news' : List (Addr × Obj)} {vs : List Value} {n j : Nat} {k : Int} {t : Tok} {v : Value} {Q : Unit → Shared → Prop}
    (F : Fr h₀ L s.heap m) (N : News h₀ L s.heap news) (U : Upd D (listOf vs.toArray n) (listOf (vs.set j v).toArray n) news news') (hk : k = (j : Int)) (hj : j < vs.length) (hz : vs.length < 2 ^ 62)
    (h : ∀ h', Fr h₀ L h' m → News h₀ L h' news' → Q () { s with heap := h' }) : wpAny (model prog w) A (setItem (.ref D) (.int k t) v) Q E s := by
  subst hk
  have hobt := U.split
  obtain ⟨pre, post, rfl, rfl, a, b⟩ := hobt
  have z := N (D, listOf vs.toArray n) (List.mem_append.mpr (.inr (.head _)))
  refine ki_setAt z.1 (by lia) (by lia) (by rw [List.size_toArray]; lia) (h _ (F.change (Heap.SameBut.update ..) z.2.1 z.2.2) (ki_turn _ N a b ?_ ?_))
  · show vs.toArray.setIfInBounds (j : Int).toNat v = (vs.set j v).toArray
    apply Array.toList_inj.mp
    simp
  · simp
theorem name8 {g h : Heap} {L a1 a2 a3 a4 a5 a6 a7 : Addr} {o1 o2 o3 o4 o5 o6 o7 : Obj} {news : List (Addr × Obj)} (N : News g L h ((a1, o1) :: (a2, o2) :: (a3, o3) :: (a4, o4) :: (a5, o5) :: (a6, o6) :: (a7, o7) :: news)) {C : Prop}
    (k : ∀ b1 b2 b3 b4 b5 b6 b7 : Addr, b1 = a1 → b2 = a2 → b3 = a3 → b4 = a4 → b5 = a5 → b6 = a6 → b7 = a7 → C) : C := k _ _ _ _ _ _ _ rfl rfl rfl rfl rfl rfl rfl
theorem tokL {g h : Heap} {L qa qb : Addr} {f : Tok → Value} {k0 : Nat} {rest : List (Addr × Obj)} {tz : Tok} {C : Prop} (N : News g L h ((qa, listOf [f tz, .ref qb].toArray k0) :: rest)) (k : ∀ tz, News g L h ((qa, listOf [f tz, .ref qb].toArray k0) :: rest) → C) : C := k tz N
set_option maxHeartbeats 8000000 in
theorem gro_spec {prog : Program} {w : World} {l : Addr} {vs : List Value} {ns : List Int} {kc : Nat} {news : List (Addr × Obj)} (hm : (l, listOf vs.toArray kc) ∈ news) (hi : IntsAre vs ns) (hl : ns.length = 5) (hr : ∀ x ∈ ns, 0 ≤ x ∧ x ≤ 63479205) :
    Spec prog w 1 173 [.ref l] news (GroP news) := by
  refine' Spec.of [(Str.ofString "sums", .ref l)] ?_ ?_ ?_ ?_ ?_ ?_ ?_ ?_ ?_
  k_extra "sol"
  intro p loose mean mg mb dp un gd outer A₀ base g L' s A1 m0 E1 B F X N T hdp hun
  have hlen := hi.length
  k_steps
  refine Hold.un ?_
  rename News _ _ _ _ => N5
  refine lst_ints (j := 0) N5 (by k_extra "mem") hi rfl (by lia) (by lia) fun t9 => ?_
  have r0 := hr (ns.getD 0 0) (by rw [List.getD_eq_getElem?_getD, List.getElem?_eq_getElem (by lia)]; exact List.getElem_mem _)
  k_steps
  rename Fr _ _ _ _ => F1
  rename News _ _ _ _ => N1
  rename IntsAre _ (List.take _ _) => hx
  refine name_gro N1 fun RL r rb ll a2 b2 a1 b1 a0 b0 e1 e2 e3 e4 e5 e6 e7 e8 e9 e10 => ?_
  subst e1; subst e2; subst e3; subst e4; subst e5; subst e6; subst e7; subst e8; subst e9; subst e10
  refine name_it (P := fun xs => IntsAre xs _) hx fun xs exs => ?_
  subst exs
  have hk0 : 0 ≤ (ns.getD 0 0).fmod 3 ∧ (ns.getD 0 0).fmod 3 < 3 := ⟨by rw [Int.fmod_eq_emod_of_nonneg _ (by decide)]; exact Int.emod_nonneg _ (by decide), by rw [Int.fmod_eq_emod_of_nonneg _ (by decide)]; exact Int.emod_lt_of_pos _ (by decide)⟩
  rw [item_kinds hk0.1 hk0.2] at N1
  have hxr : ∀ (i : Nat) v, xs[i]? = some v → ∃ (x : Int) (t : Tok), v = .int x t ∧ 0 ≤ x ∧ x ≤ 63479205 := by
    intro i v hv
    have hil : i < (List.take (min 3 ns.length - 1) (List.drop 1 ns)).length := by rw [← hx.length]; exact (List.getElem?_eq_some_iff.mp hv).1
    have hobt := hx.get i _ (List.getElem?_eq_getElem hil)
    obtain ⟨t, ht⟩ := hobt
    rw [hv] at ht
    cases ht
    exact ⟨_, t, rfl, hr _ (List.mem_of_mem_drop (List.mem_of_mem_take (List.getElem_mem hil)))⟩
  have hxl : xs.length = 2 := by
    rw [hx.length, List.length_take, List.length_drop, hl]; rfl
  refine forL (vs := xs) (D := [(r, _), (rb, _), (ll, _), (a2, _), (b2, _), (a1, _), (b1, _), (a0, _), (b0, _)]) (news := (RL, listOf (List.toArray xs) 0) :: news) (News.isList N1 (.head _)) (N1 _ (.head _)).2.1 F1 (News.sub N1 rotA)
    (fun j m' D' => ∃ T lv tk, Grow j r b0 RL D' T lv ∧ Vars m' (fun _ => none) ["sums", "kinds", "leaves", "root", "x", "pick", "gate", "k"] [("sums", .ref l), ("kinds", .str (Str.ofString "|&^") tk), ("leaves", .ref lv), ("root", .ref r)]) ?_ ?_ ?_
  · refine' ⟨_, ll, _, grow0 ?_ ?_ ?_ ?_ ?_ ?_ ?_ ?_ ?_ ?_, ⟨?_, ?_⟩⟩
    all_goals first | lia | skip
    rotate_left
    · k_extra "vat"
    · k_extra "vrest"
  · intro J0 j v m₁ D₁ rest hh tkk I Q0 a0 hj hq1 hsub hrr hI hoI hoff F2 N2
    obtain ⟨T1, lv, tkK, G, V⟩ := hq1
    refine V.frxL F2 ?_
    intro mv mw F3
    have N3 : News g L' hh (D₁ ++ rest) := N2
    have U3 : UniqL D₁ := UniqL.of (News.sub N3 Sub.left)
    clear F2 F1 N2 N1
    have hobt := hxr _ _ hj
    obtain ⟨x, tx, rfl, hx0, hx1⟩ := hobt
    have hobt := G.lv
    obtain ⟨kv, hlv⟩ := hobt
    have hlv2 : (lv, listOf (T1.lvs.map fun q => Value.ref q.1).toArray kv) ∈ D₁ ++ rest := List.mem_append_left _ hlv
    have hln : (T1.lvs.map fun q => Value.ref q.1).length = T1.lvs.length := List.length_map _
    have hj2 : j < 2 := hxl ▸ (List.getElem?_eq_some_iff.mp hj).1
    have hnl : T1.lvs.length = 3 + 2 * j := by rw [AT.nl_eq, ← Tr.bare_nl]; exact shp_nl (by lia) G.shp
    k_steps
    rename Fr _ _ _ _ => F5
    rename News _ _ _ _ => N5
    refine Hold.un ?_
    have hfm : x.fmod (T1.lvs.length : Int) = x % (T1.lvs.length : Int) := Int.fmod_eq_emod_of_nonneg _ (by lia)
    have hm0 := Int.emod_nonneg x (show (T1.lvs.length : Int) ≠ 0 by lia)
    have hm1 := Int.emod_lt_of_pos x (show 0 < (T1.lvs.length : Int) by lia)
    have hobt := Int.eq_ofNat_of_zero_le hm0
    obtain ⟨i, hiq⟩ := hobt
    refine frI F5 (hfm.trans hiq) ?_
    clear F5
    intro mx F5
    rw [hfm, hiq]
    have hil : i < T1.lvs.length := by lia
    rcases hq : T1.lvs[i] with ⟨qa, qb, qd⟩
    have hq' : T1.lvs[i]? = some (qa, qb, qd) := by rw [List.getElem?_eq_getElem hil, hq]
    have hqm := List.mem_of_getElem? hq'
    have hqd : qd = 9 := G.nin _ hqm
    subst hqd
    have hobt := G.inn.lvsF _ hqm
    obtain ⟨t0, k0, hqo⟩ := hobt
    have hlq : lv ≠ qa := fun e => by
      subst e
      have e1 := (listOf_inj (News.uniq N5 hlv2 (List.mem_append_left _ hqo))).1
      have e2 := congrArg List.length e1
      rw [hln] at e2
      have e3 : T1.lvs.length = 2 := e2
      lia
    refine lst_at (x := .ref qa) N5 (by k_extra "mem") (by lia) (by rw [Int.toNat_natCast, List.getElem?_map, hq']; rfl) (by lia) ?_
    clear hfm hm0 hm1 hiq
    have hk3 : 0 ≤ (x.fdiv (T1.lvs.length : Int)).fmod 3 ∧ (x.fdiv (T1.lvs.length : Int)).fmod 3 < 3 := ⟨by rw [Int.fmod_eq_emod_of_nonneg _ (by decide)]; exact Int.emod_nonneg _ (by decide), by rw [Int.fmod_eq_emod_of_nonneg _ (by decide)]; exact Int.emod_lt_of_pos _ (by decide)⟩
    have hik := item_kinds hk3.1 hk3.2
    k_steps
    rename Fr _ _ _ _ => F6
    rename News _ _ _ _ => N6
    refine Hold.un ?_
    rw [hik]
    generalize hkk : ((x.fdiv (T1.lvs.length : Int)).fmod 3).toNat = kk
    have hkk3 : kk < 3 := hkk ▸ (Int.toNat_lt hk3.1).2 hk3.2
    clear hik hk3 hkk
    refine setAt (j := 0) (vs := [lS 9 t0, .ref qb]) F6 (News.pull N6 (List.mem_append_left _ hqo)) off_ne rfl (Nat.zero_lt_succ _) (show 2 < 2 ^ 62 by decide) ?_
    intro h' F7 N7
    refine tokL (f := gS kk) N7 ?_
    clear N7 F6 N6
    intro tz7 N7'
    k_steps
    rename Fr _ _ _ _ => F8
    rename News _ _ _ _ => N8
    refine Hold.un ?_
    refine name8 N8 fun nl n2 m2 n1 m1 n0 m0 e1 e2 e3 e4 e5 e6 e7 => ?_
    subst e1; subst e2; subst e3; subst e4; subst e5; subst e6; subst e7
    rename (qa < m0 ∧ AllLt _ (off _ _)) => lt1
    rename (n2 < nl ∧ _) => lt7
    refine setAtU (j := 1) (vs := [gS kk _, .ref qb]) F8 N8 (Upd.tail ?_ <| Upd.tail ?_ <| Upd.tail ?_ <| Upd.tail ?_ <| Upd.tail ?_ <| Upd.tail ?_ <| Upd.tail ?_ <| Upd.head off_ne) rfl (Nat.succ_lt_succ (Nat.zero_lt_succ _)) (show 2 < 2 ^ 62 by decide) ?_
    iterate 7
      · show _ ≠ qa
        exact Nat.ne_of_gt (by lia)
    intro h' F9 N9
    clear F8 N8
    have N9' : News g L' h' ((nl, listOf [.ref n0, .ref n1, .ref n2].toArray 0) :: (n2, listOf [lS 9 _, .ref m2].toArray 0) :: (m2, listOf ([] : List Value).toArray 0) :: (n1, listOf [lS 9 _, .ref m1].toArray 0) :: (m1, listOf ([] : List Value).toArray 0) :: (n0, listOf [lS 9 _, .ref m0].toArray 0) :: (m0, listOf ([] : List Value).toArray 0) :: (qa, listOf [gS kk _, .ref nl].toArray k0) :: off qa (D₁ ++ rest)) := N9
    clear N9
    have hlv3 := fun p => off_mem (D := qa) hlv2 p
    have hlv4 := hlv3 hlq
    clear hlv3
    k_steps
    rename Fr _ _ _ _ => F10
    rename News _ _ _ _ => N10
    refine Hold.un ?_
    have e1 := pick_upto (T1.lvs.map fun q => Value.ref q.1) (y := (i : Int)) (by lia)
    refine kmk_slice_lit F10 N10 (News.isList N10 (by k_extra "mem")) .none (.int _ _) e1 ?_ ?hs ?ht ?hz
    case hs => with_unfolding_all rfl
    case ht => intro _; with_unfolding_all rfl
    case hz => rw [sizeLine_eq, List.size_toArray]; lia
    intro s1 h1 F11 N11 l11
    clear F10 N10
    k_steps
    rename Fr _ _ _ _ => F12
    rename News _ _ _ _ => N12
    refine Hold.un ?_
    refine lst_at (vs := [gS kk _, .ref nl]) (x := .ref nl) N12 (by k_extra "mem") (by decide) rfl (show 2 < 2 ^ 62 by decide) ?_
    k_steps
    rename Fr _ _ _ _ => F13
    rename News _ _ _ _ => N13
    refine Hold.un ?_
    refine kmk_add_lit F13 N13 (News.isList N13 (.head _)) (News.isList N13 (.tail _ (.head _))) rfl ?_ ?_
    rotate_left
    · rw [sizeLine_eq]; show (List.take _ _).length + 3 ≤ _; rw [List.length_take]; exact Nat.le_trans (Nat.add_le_add_right (Nat.min_le_right _ _) 3) (by rw [List.length_map]; lia)
    intro s2 h2 F14 N14 l14
    clear F13 N13
    k_steps
    rename Fr _ _ _ _ => F15
    rename News _ _ _ _ => N15
    refine Hold.un ?_
    have e2 := pick_from (T1.lvs.map fun q => Value.ref q.1) (x := (i : Int) + 1) (by lia)
    refine kmk_slice_lit F15 N15 (News.isList N15 (by k_extra "mem")) (.int _ _) .none e2 ?_ ?hs ?ht ?hz
    case hs => with_unfolding_all rfl
    case ht => intro _; with_unfolding_all rfl
    case hz => rw [sizeLine_eq, List.size_toArray]; lia
    intro s3 h3 F16 N16 l16
    clear F15 N15
    k_steps
    rename Fr _ _ _ _ => F17
    rename News _ _ _ _ => N17
    refine Hold.un ?_
    refine kmk_add_lit F17 N17 (News.isList N17 (.tail _ (.head _))) (News.isList N17 (.head _)) rfl ?_ ?_
    rotate_left
    · rw [sizeLine_eq]; show (List.take _ _ ++ [Value.ref n0, .ref n1, .ref n2]).length + (List.drop _ _).length ≤ _; rw [List.length_append, List.length_take, List.length_drop]; show _ + 3 + _ ≤ _; exact Nat.le_trans (Nat.add_le_add (Nat.add_le_add_right (Nat.min_le_right _ _) 3) (Nat.sub_le _ _)) (by rw [List.length_map]; lia)
    intro s4 h4 F18 N18 l18
    clear F17 N17
    k_steps
    rename Fr _ _ _ _ => F19
    rename News _ _ _ _ => N19
    have hD1 : ∀ p ∈ D₁ ++ rest, p.1 < m0 := fun p hp => by
      by_cases e : p.1 = qa
      · rw [e]; exact lt1.1
      · exact tb_ltOf lt1.2 p (off_mem hp e)
    have hRL : @LT.lt Nat _ RL m0 := hD1 _ (List.mem_append_right _ (hsub _ (.head _)))
    have hrqa : ∀ p ∈ rest, p.1 ≠ qa := fun p hp e => by
      rcases hrr p hp with h | h | h
      · rcases List.mem_cons.mp h with h | h
        · rw [h] at e; exact G.rl _ hqo e.symm
        · have a1 := G.low _ hqo
          have a2 : p.1 < b0 := by
            rename (∀ p ∈ news, p.1 < b0) => lb
            exact lb p h
          rw [e] at a2
          exact Nat.lt_irrefl _ (Nat.lt_of_lt_of_le a2 a1)
      · exact hoff _ hqo (e.symm.trans h)
      · exact G.rl _ hqo (e.symm.trans h)
    have hs4 : @LT.lt Nat _ nl s4 := l18 _ (.tail _ (.tail _ (.tail _ (.head _))))
    obtain ⟨oI, hoI⟩ := hoI
    have hIm : @LT.lt Nat _ I m0 := hD1 _ (List.mem_append_right _ hoI)
    rename (m0 < n0 ∧ _) => w1
    rename (n0 < m1 ∧ _) => w2
    rename (m1 < n1 ∧ _) => w3
    rename (n1 < m2 ∧ _) => w4
    rename (m2 < n2 ∧ _) => w5
    have wI := ups hIm w1.1 w2.1 w3.1 w4.1 w5.1 lt7.1 hs4
    refine' MTurn.next (D' := (s4, _) :: (nl, _) :: (n2, _) :: (m2, _) :: (n1, _) :: (m1, _) :: (n0, _) :: (m0, _) :: (qa, _) :: off qa D₁) F19 N19 (subGro hrqa) ?_ Same.mk ⟨graftT kk nl (.leaf n0 m0 9) (.leaf n1 m1 9) (.leaf n2 m2 9) T1 i, s4, tkK, Grow.step G U3 hj2 hq' hqo hkk3 (fun p hp => hD1 p (List.mem_append_left _ hp)) hRL ?_ ?_ ?_ ?_ ?_ ?_ hs4, ⟨?_, ?_⟩⟩
    all_goals first | exact w1.1 | exact w2.1 | exact w3.1 | exact w4.1 | exact w5.1 | exact lt7.1 | skip
    · exact allGro (P := fun a => a ≠ I) (Nat.ne_of_gt wI.2.2.2.2.2.2.2) (Nat.ne_of_gt wI.2.2.2.2.2.2.1) (Nat.ne_of_gt wI.2.2.2.2.2.1) (Nat.ne_of_gt wI.2.2.2.2.1) (Nat.ne_of_gt wI.2.2.2.1) (Nat.ne_of_gt wI.2.2.1) (Nat.ne_of_gt wI.2.1) (Nat.ne_of_gt wI.1) (hoff _ hqo) (fun p hp => hoff p (off_sub _ hp))
    · k_extra "vat"
    · k_extra "vrest"
  · intro m' D' hh tkk hq1 F2 N2
    obtain ⟨T1, lv, tkK, G, V⟩ := hq1
    refine V.frL F2 ?_
    intro mv F3
    have N3 : News g L' hh (D' ++ ((RL, listOf (List.toArray xs) 0) :: news)) := N2
    clear F2 F1 N2 N1
    rw [hxl] at G
    have hobt := G.lv
    obtain ⟨kv, hlv⟩ := hobt
    have hlv2 : (lv, listOf (T1.lvs.map fun q => Value.ref q.1).toArray kv) ∈ D' ++ ((RL, listOf (List.toArray xs) 0) :: news) := List.mem_append_left _ hlv
    have hln : (T1.lvs.map fun q => Value.ref q.1).length = 7 := by rw [List.length_map, AT.nl_eq, ← Tr.bare_nl]; exact shp_nl (by lia) G.shp
    have GL := G.lab
    clear G
    k_steps
    rename IsRange _ _ _ _ _ _ _ _ => hR
    rename Fr _ _ _ _ => F4
    rename News _ _ _ _ => N4
    rename (∀ p ∈ news, p.1 < b0) => lb
    have N4' : News g L' _ (D' ++ news) := News.sub N4 (Sub.app Sub.left fun p hp => List.mem_append_right _ (.tail _ hp))
    clear N4
    refine forR (k := 7) (D := D') (news := news) hR (by decide) (by decide) F4 N4'
      (fun j m' D' => ∃ T, Lab j r b0 D' T lv ∧ Vars m' (fun _ => none) ["sums", "kinds", "leaves", "root", "x", "pick", "gate", "k"] [("sums", .ref l), ("leaves", .ref lv), ("root", .ref r)]) ?_ ?_ ?_
    · refine' ⟨T1, GL, ⟨?_, ?_⟩⟩
      · k_extra "vat"
      · k_extra "vrest"
    · intro J0 j tk m₁ D₁ rest hh2 tkk2 I Q0 a0 hj hq1 hsub hrr hI hoI hoff F2 N2
      obtain ⟨T2, G, V⟩ := hq1
      refine V.frxL F2 ?_
      intro mv mw F5
      have N5 : News g L' hh2 (D₁ ++ rest) := N2
      have U5 : UniqL D₁ := UniqL.of (News.sub N5 Sub.left)
      clear F2 F4 N2 N4'
      have r3 := hr (ns.getD 3 0) (by rw [List.getD_eq_getElem?_getD, List.getElem?_eq_getElem (by lia)]; exact List.getElem_mem _)
      have hm2 : (l, listOf vs.toArray kc) ∈ D₁ ++ rest := List.mem_append_right _ (hsub _ hm)
      k_steps
      rename News _ _ _ _ => N6
      refine Hold.un ?_
      refine lst_ints (j := 3) N6 hm2 hi rfl (by lia) (by lia) fun t9 => ?_
      k_steps
      have hp9 : (0 : Int) < 9 ^ (0 + (j : Int) * 1).toNat := Int.pow_pos (by decide)
      have hp10 : (9 : Int) ^ (0 + (j : Int) * 1).toNat < 1000000 := by
        rw [show (0 + (j : Int) * 1).toNat = j by lia]
        exact (by decide : ∀ j < 7, (9 : Int) ^ j < 1000000) j hj
      generalize (9 : Int) ^ (0 + (j : Int) * 1).toNat = P9 at hp9 hp10 ⊢
      have hd0 : 0 ≤ ((ns.getD 3 0).fdiv P9).fmod 9 ∧ ((ns.getD 3 0).fdiv P9).fmod 9 < 9 := ⟨by rw [Int.fmod_eq_emod_of_nonneg _ (by decide)]; exact Int.emod_nonneg _ (by decide), by rw [Int.fmod_eq_emod_of_nonneg _ (by decide)]; exact Int.emod_lt_of_pos _ (by decide)⟩
      refine floordiv_int (Int.ne_of_gt hp9) ?_ (Or.inl (PyProof.noPylong_small ?_))
      rotate_left
      · lia
      k_steps
      rename Fr _ _ _ _ => F7
      rename News _ _ _ _ => N7
      refine Hold.un ?_
      have hobt := G.lv
      obtain ⟨kv2, hlv⟩ := hobt
      have hnl : T2.lvs.length = 7 := by rw [AT.nl_eq, ← Tr.bare_nl]; exact shp_nl (j := 2) (by lia) G.shp
      rcases hq : T2.lvs[j] with ⟨qa, qb, qd⟩
      have hq' : T2.lvs[j]? = some (qa, qb, qd) := by rw [List.getElem?_eq_getElem (by lia), hq]
      have hqd : qd = 9 := G.hi _ _ hq' (Nat.le_refl _)
      subst hqd
      have hobt := G.inn.lvsF _ (List.mem_of_getElem? hq')
      obtain ⟨t0, k0, hqo⟩ := hobt
      refine lst_at (x := .ref qa) N7 (List.mem_append_left _ hlv) (by lia) (by rw [show (0 + (j : Int) * 1).toNat = j by lia, List.getElem?_map, hq']; rfl) (by rw [List.length_map]; lia) ?_
      k_steps
      rename Fr _ _ _ _ => F8
      rename News _ _ _ _ => N8
      refine Hold.un ?_
      have hobt := Int.eq_ofNat_of_zero_le hd0.1
      obtain ⟨v, hv⟩ := hobt
      rw [hv] at hd0 ⊢
      have hv9 : v < 9 := by lia
      have hdv : Str.ofString (toString (v : Int)) = digitS v := by unfold digitS; rw [if_pos hv9]
      rw [hdv]
      refine setAt (j := 0) (vs := [lS 9 t0, .ref qb]) F8 (News.pull N8 (List.mem_append_left _ hqo)) off_ne rfl (Nat.zero_lt_succ _) (show 2 < 2 ^ 62 by decide) ?_
      intro h' F9 N9
      refine tokL (f := lS v) N9 ?_
      clear N9 F8 N8
      intro tz9 N9'
      k_steps
      rename Fr _ _ _ _ => F10
      rename News _ _ _ _ => N10
      have hrqa : ∀ p ∈ rest, p.1 ≠ qa := fun p hp e => by
        rcases hrr p hp with h | h
        · have a1 := G.low _ hqo
          have a2 := lb p h
          rw [e] at a2
          exact Nat.lt_irrefl _ (Nat.lt_of_lt_of_le a2 a1)
        · exact hoff _ hqo (e.symm.trans h)
      refine' MTurn.next (D' := (qa, _) :: off qa D₁) F10 N10 ?_ ?_ Same.mk ⟨T2.put qa v, Lab.step G U5 hq' hqo hv9, ⟨?_, ?_⟩⟩
      · intro p hp
        rcases List.mem_cons.mp hp with rfl | hp
        · exact .head _
        · rcases List.mem_append.mp hp with hp | hp
          · exact .tail _ (off_mem (List.mem_append_left _ (off_sub _ hp)) (off_ne p hp))
          · exact .tail _ (off_mem (List.mem_append_right _ hp) (hrqa p hp))
      · intro p hp
        rcases List.mem_cons.mp hp with rfl | hp
        · exact (show qa ≠ I from hoff (qa, listOf [lS 9 t0, .ref qb].toArray k0) hqo)
        · exact hoff p (off_sub _ hp)
      · k_extra "vat"
      · k_extra "vrest"
    · intro m2 D2 hh2 tkk2 hq1 F2 N2
      obtain ⟨T2, G, V⟩ := hq1
      refine V.frL F2 ?_
      intro mv F5
      have N5 : News g L' hh2 (D2 ++ news) := N2
      clear F2 F4 N2 N4'
      k_steps
      exact ⟨Same.mk, _, _, by assumption, N5, T2, by rw [← G.adr]; rfl, G.inn.mono Sub.left, G.done, G.shp, Sub.right⟩
end
section
theorem kw_Kwrt_0 : True := by
  k_with_none
  k_with "vat" => repeat' (first | exact List.forall_mem_nil _ | refine' List.forall_mem_cons.mpr ⟨?_, ?_⟩ | with_unfolding_all rfl)
  k_with "vrest" => first | ((repeat' (first | exact Vars.rest (by assumption) | exact vr_nil | exact vr_base | refine vr_upd ?_ (by with_unfolding_all rfl) | refine vr_set ?_ (by with_unfolding_all rfl))); done) | (intro zzz hzzz; (simp only [List.contains_cons, List.contains_nil, Bool.or_false, Bool.or_eq_false_iff, beq_eq_false_iff_ne, ne_eq] at hzzz); (simp [hzzz, upd, setL, baseOf, List.lookup]))
  k_with "exec For Name Name cons nil" => (refine' wpAny_For ?h ?hs; (case hs => (intro _; with_unfolding_all rfl)))
  k_with "exec For Name Call cons nil" => (refine' wpAny_For ?h ?hs; (case hs => (intro _; with_unfolding_all rfl)))
  k_with "exec For Name Attribute cons nil" => (refine' wpAny_For ?h ?hs; (case hs => (intro _; with_unfolding_all rfl)))
  k_with "sol" => all_goals (try (first | k_is | exact rfl | decide))
  k_with "sz" => first | omega | (simp only [List.length_append, List.length_cons, List.length_nil, List.length_map, List.length_replicate, List.length_reverse, List.length_set]; omega)
  k_with "sub" => first | exact Sub.refl _ | with_reducible assumption | exact Sub.nil | (refine Sub.cons ?_; k_extra "sub") | (refine Sub.trans (by with_reducible assumption) ?_; k_extra "sub") | fail "sub"
  k_with "member" => assumption
  k_with "ite" => first | with_reducible refine ite_tt ?_ | with_reducible refine ite_ff ?_
  k_with "execs nil" => refine wpAny_execs_nil ?_
  k_with "dp" => first | exact dpLe | omega
  k_with "un" => first | exact unLe | omega
  k_with "storeName" => (k_here; k_dflt (first | (refine' storeI ?_; intro q1zz) | (refine' storeS ?_; intro q1zz) | (refine' storeF ?_; intro q1zz) | refine' storeR ?_); k_whole; intro hpzz kpzz mpzz Fpzz Npzz; (try k_sweep))
  k_with "execs cons" => first | refine lastK ?_ | (refine cutK ?_; intro Qzz azz) | (refine enterK ?_; intro Qzz azz)
  k_with "KQ" => first | refine nextK (by assumption) ?_ | refine retK (by assumption) ?_ | refine impK (by assumption) ?_ | refine contK (by assumption) ?_ | refine brkK (by assumption) ?_
  k_with "KS" => refine stopK (by assumption) ?_
  k_with "exec If" => (refine ifK ?_; intro Qzz azz)
  k_with "KB" => refine ifB (by assumption) ?_
  k_with "KV" => refine stopV (by assumption) ?_
  exact True.intro
def strL (l : List Nat) : Str := ⟨l.toArray⟩
theorem strL_add (a b : List Nat) : strL a ++ strL b = strL (a ++ b) := by
  show Str.mk (a.toArray ++ b.toArray) = _
  unfold strL
  simp
theorem strL_len (a : List Nat) : (strL a).length = a.length := by
  show (a.toArray).size = _
  simp
theorem mul_blank {n : Nat} (h : n ≤ 20) : Txt.mul (Str.ofString " ") (n : Int) = strL (List.replicate n 32) := by
  exact (by decide +kernel : ∀ n ≤ 20, Txt.mul (Str.ofString " ") ((n : Nat) : Int) = strL (List.replicate n 32)) n h
theorem mulOk_blank {n : Nat} (h : n ≤ 20) : PySem.MulOk (Str.ofString " ") (n : Int) := by
  have hl : (Str.ofString " ").length = 1 := by decide +kernel
  refine ⟨by simp; lia, fun _ _ => ?_, fun _ _ => ?_⟩
  · rw [hl]
    have : ((1 : Nat) : Int) ≤ (2 ^ 63 - 1) / (n : Int) ∨ (n : Int) = 0 := by
      rcases Nat.eq_zero_or_pos n with h0 | h0
      · right; lia
      · left
        exact (Int.le_ediv_iff_mul_le (by lia)).mpr (by lia)
    rcases this with h1 | h1
    · lia
    · rename_i a _; exact absurd (by lia) a
  · rw [hl]
    unfold PySem.Builtin.Str.tooLong
    rw [sizeLine_eq]
    simp; lia
theorem tab_strL : Str.ofString "\t" = strL [9] := by decide +kernel
theorem emp_strL : Str.ofString "" = strL [] := by decide +kernel
theorem join_strL : ∀ (ls : List (List Nat)), Txt.join (Str.ofString "") (ls.map strL) = strL ls.flatten := by
  intro ls
  rw [show Txt.join (Str.ofString "") (ls.map strL) = Str.join (Str.ofString "") (ls.map strL) from StrLaws.glued_eq_join _ _]
  induction ls with
  | nil => exact emp_strL
  | cons a r ih =>
    cases r with
    | nil => show strL a = _; simp
    | cons b r =>
      show strL a ++ Str.ofString "" ++ Str.join (Str.ofString "") ((b :: r).map strL) = _
      rw [ih, emp_strL, strL_add, strL_add]
      simp
def toldL (r : Nat) : List Nat := List.replicate r 32 ++ [9]
def leadL (rs : List Nat) (b n : Nat) : List Nat := (if n % 2 = 1 then (rs.map toldL).reverse else rs.map toldL).flatten ++ List.replicate b 32
def Tr.lbl : Tr → Str
  | .leaf d => digitS d
  | .gate k _ _ _ => kindS k
def lineS (rs : List Nat) (b n : Nat) (lbl : Str) : Str := strL (leadL rs b n) ++ lbl
def Tr.sz : Tr → Nat
  | .leaf _ => 1
  | .gate _ x y z => 1 + (x.sz + (y.sz + z.sz))
/-- the lines of the outline of t, the first one being line n of the page -/
def wr : Tr → List Nat → Nat → Nat → List Str
  | .leaf d, rs, b, n => [lineS rs b n (digitS d)]
  | .gate k x y z, rs, b, n => lineS rs b n (kindS k) :: (wr x (rs ++ [b]) 0 (n + 1) ++ (wr y rs (b + 2) (n + 1 + x.sz) ++ wr z (rs ++ [b + 1]) 0 (n + 1 + x.sz + y.sz)))
theorem wr_len : ∀ (t : Tr) (rs : List Nat) (b n : Nat), (wr t rs b n).length = t.sz
  | .leaf _, _, _, _ => rfl
  | .gate k x y z, rs, b, n => by
    show (_ :: _).length = _
    rw [List.length_cons, List.length_append, List.length_append, wr_len x, wr_len y, wr_len z]
    show _ = 1 + (x.sz + (y.sz + z.sz))
    lia
def AT.kid : AT → Addr
  | .leaf _ b _ => b
  | .gate _ b _ _ _ _ => b
theorem AT.In.head {news : List (Addr × Obj)} {t : AT} (h : t.In lS gS news) : ∃ u k, (t.addr, listOf [.str t.tr.lbl u, .ref t.kid].toArray k) ∈ news := by
  cases t with
  | leaf a b d => obtain ⟨t, k, k', h1, h2⟩ := h; exact ⟨t, k, h1⟩
  | gate a b d x y z => obtain ⟨t, k, k', h1, h⟩ := h; exact ⟨t, k, h1⟩
theorem toldL_len {r : Nat} : (toldL r).length = r + 1 := by unfold toldL; simp
theorem told_sum {rs : List Nat} {B : Nat} (h : ∀ r ∈ rs, r ≤ B) : ((rs.map fun r => strL (toldL r)).map (·.length)).sum ≤ rs.length * (B + 1) := by
  induction rs with
  | nil => simp
  | cons r rs ih =>
    have h1 := h r (.head _)
    have h2 := ih fun x hx => h x (.tail _ hx)
    simp only [List.map_cons, List.sum_cons, strL_len, toldL_len, List.length_cons, Nat.succ_mul] at h2 ⊢
    lia
def WrtP (pg : Addr) (ls : List Str) (rest : List (Addr × Obj)) (r : Value) (news' : List (Addr × Obj)) : Prop :=
  ∃ pv' k', r = .ref pg ∧ news' = (pg, listOf (List.toArray pv') k') :: rest ∧ StrsAre pv' ls
structure WrtB (t : Tr) (rs : List Nat) (bl n : Nat) : Prop where
  b : bl + 2 * t.dep ≤ 10
  r : rs.length + t.dep ≤ 10
  e : ∀ r ∈ rs, r ≤ 10
  n : n + t.sz ≤ 100
def WrtC (prog : Program) (w : World) (n : Nat) (c : AT) : Prop := ∀ (lr pg : Addr) (kr kp : Nat) (rv pv : List Value) (rs : List Nat) (bl : Nat) (tb : Tok) (lines : List Str) (rest : List (Addr × Obj)),
  c.In lS gS rest → (lr, listOf rv.toArray kr) ∈ rest → IntsAre rv (rs.map (fun (r : Nat) => (r : Int))) → (∀ p ∈ rest, p.1 ≠ pg) → StrsAre pv lines → WrtB c.tr rs bl lines.length →
  Spec prog w n 178 [.ref c.addr, .ref lr, .int bl tb, .ref pg] ((pg, listOf pv.toArray kp) :: rest) (WrtP pg (lines ++ wr c.tr rs bl lines.length) rest)

theorem strs_rev : ∀ {vs : List Value} {ss : List Str}, StrsAre vs ss → StrsAre vs.reverse ss.reverse
  | _, _, .nil => .nil
  | _, _, .cons y t h => by
    rw [List.reverse_cons, List.reverse_cons]
    exact StrsAre.append' (strs_rev h) (.cons y t .nil)
/-- what the first two statements make: the row of runs, turned round on each second line -/
structure Told (rs : List Nat) (bl n : Nat) (tw : List Value) (tl : List (List Nat)) : Prop where
  w : StrsAre tw (tl.map strL)
  e : tl.flatten ++ List.replicate bl 32 = leadL rs bl n
  s : ((tl.map strL).map (·.length)).sum ≤ rs.length * 11
theorem told_fwd {rs : List Nat} {bl n : Nat} {ys : List Value} (hy : StrsAre ys (rs.map fun r => strL (toldL r))) (he : ∀ r ∈ rs, r ≤ 10) (h : ¬ n % 2 = 1) : Told rs bl n ys (rs.map toldL) := by
  refine ⟨by rw [List.map_map]; exact hy, by unfold leadL; rw [if_neg h], ?_⟩
  have e : (rs.map toldL).map strL = rs.map fun r => strL (toldL r) := by rw [List.map_map]; rfl
  rw [e]
  exact told_sum he
theorem sum_rev (l : List Nat) : l.reverse.sum = l.sum := by
  induction l with
  | nil => rfl
  | cons a l ih => rw [List.reverse_cons, List.sum_append, ih]; simp; lia
theorem told_rev {rs : List Nat} {bl n : Nat} {ys : List Value} (hy : StrsAre ys (rs.map fun r => strL (toldL r))) (he : ∀ r ∈ rs, r ≤ 10) (h : n % 2 = 1) : Told rs bl n ys.reverse (rs.map toldL).reverse := by
  refine ⟨?_, by unfold leadL; rw [if_pos h], ?_⟩
  · rw [List.map_reverse, List.map_map]
    exact strs_rev hy
  · have := told_sum he
    have e : (rs.map toldL).map strL = rs.map fun r => strL (toldL r) := by rw [List.map_map]; rfl
    rw [List.map_reverse, List.map_reverse, sum_rev, e]
    exact this
theorem lbl_len {t : Tr} (ok : t.ok) : t.lbl.length ≤ 1 := by
  cases t with
  | leaf d => exact (by decide +kernel : ∀ d < 9, (digitS d).length ≤ 1) d ok
  | gate k x y z =>
    show (kindS k).length ≤ 1
    unfold kindS
    split
    · decide +kernel
    · split <;> decide +kernel
theorem lead_len {rs : List Nat} {bl n : Nat} {tw : List Value} {tl : List (List Nat)} (TT : Told rs bl n tw tl) : (leadL rs bl n).length ≤ rs.length * 11 + bl := by
  rw [← TT.e, List.length_append, List.length_replicate]
  have h := TT.s
  have e : (tl.map strL).map (·.length) = tl.map (·.length) := by
    rw [List.map_map]
    exact List.map_congr_left fun a _ => strL_len a
  rw [e] at h
  have e2 : tl.flatten.length = (tl.map (·.length)).sum := List.length_flatten
  lia
end
section
theorem kw_Fwrt_0 : True := by
  k_with_none
  k_with "vat" => repeat' (first | exact List.forall_mem_nil _ | refine' List.forall_mem_cons.mpr ⟨?_, ?_⟩ | with_unfolding_all rfl)
  k_with "vrest" => first | ((repeat' (first | exact Vars.rest (by assumption) | exact vr_nil | exact vr_base | refine vr_upd ?_ (by with_unfolding_all rfl) | refine vr_set ?_ (by with_unfolding_all rfl))); done) | (intro zzz hzzz; (simp only [List.contains_cons, List.contains_nil, Bool.or_false, Bool.or_eq_false_iff, beq_eq_false_iff_ne, ne_eq] at hzzz); (simp [hzzz, upd, setL, baseOf, List.lookup]))
  k_with "exec For Name Name cons nil" => (refine' wpAny_For ?h ?hs; (case hs => (intro _; with_unfolding_all rfl)))
  k_with "exec For Name Call cons nil" => (refine' wpAny_For ?h ?hs; (case hs => (intro _; with_unfolding_all rfl)))
  k_with "exec For Name Attribute cons nil" => (refine' wpAny_For ?h ?hs; (case hs => (intro _; with_unfolding_all rfl)))
  k_with "sol" => all_goals (try (first | k_is | exact rfl | decide))
  k_with "sz" => first | omega | (simp only [List.length_append, List.length_cons, List.length_nil, List.length_map, List.length_replicate, List.length_reverse, List.length_set]; omega)
  k_with "sub" => first | exact Sub.refl _ | with_reducible assumption | exact Sub.nil | (refine Sub.cons ?_; k_extra "sub") | (refine Sub.trans (by with_reducible assumption) ?_; k_extra "sub") | fail "sub"
  k_with "member" => assumption
  k_with "ite" => first | with_reducible refine ite_tt ?_ | with_reducible refine ite_ff ?_
  k_with "execs nil" => refine wpAny_execs_nil ?_
  k_with "dp" => first | exact dpLe | omega
  k_with "un" => first | exact unLe | omega
  k_with "storeName" => (k_here; k_dflt (first | (refine' storeI ?_; intro q1zz) | (refine' storeS ?_; intro q1zz) | (refine' storeF ?_; intro q1zz) | refine' storeR ?_); k_whole; intro hpzz kpzz mpzz Fpzz Npzz; (try k_sweep))
  k_with "execs cons" => first | refine lastK ?_ | (refine cutK ?_; intro Qzz azz) | (refine enterK ?_; intro Qzz azz)
  k_with "KQ" => first | refine nextK (by assumption) ?_ | refine retK (by assumption) ?_ | refine impK (by assumption) ?_ | refine contK (by assumption) ?_ | refine brkK (by assumption) ?_
  k_with "KS" => refine stopK (by assumption) ?_
  k_with "exec If" => (refine ifK ?_; intro Qzz azz)
  k_with "KB" => refine ifB (by assumption) ?_
  k_with "KV" => refine stopV (by assumption) ?_
  k_with "exec While" => refine wpAny_While ?_
  k_with "exec While Compare" => refine wpAny_While ?_
  k_with "exec While BoolOp" => refine wpAny_While ?_
  k_with "eval ListComp" => (k_here; (with_reducible show wpAny _ _ (eval (PySem.Expr.ListComp _ [PySem.Comprehension.mk _ _ [] 0] _ _) _) _ _ _); k_dflt (refine LCg.ListComp_U (F₀ := by k_asm) (by with_unfolding_all rfl) (by decide) (by rfl) (by decide) (by rfl) ?_))
  k_with "eval ListComp" => (k_here; (with_reducible show wpAny _ _ (eval (PySem.Expr.ListComp _ [PySem.Comprehension.mk _ _ [_] 0] _ _) _) _ _ _); k_dflt (refine LCt.ListComp_T (F₀ := by k_asm) (by with_unfolding_all rfl) (by decide) (by rfl) (by decide) (by rfl) ?_))
  k_with "exec Assign cons ListComp" => (k_here; (with_reducible show wpAny _ _ (exec (PySem.Stmt.Assign [_] (PySem.Expr.ListComp _ [PySem.Comprehension.mk _ _ [] 0] _ _) _) _) _ _ _); k_dflt (refine LCg.Assign_ListComp_U (F₀ := by k_asm) (by rfl) (by with_unfolding_all rfl) (by with_unfolding_all rfl) (by decide) (by rfl) (by decide) (by rfl) (by rfl) (by rfl) ?_))
  k_with "exec Assign cons ListComp" => (k_here; (with_reducible show wpAny _ _ (exec (PySem.Stmt.Assign [_] (PySem.Expr.ListComp _ [PySem.Comprehension.mk _ _ [_] 0] _ _) _) _) _ _ _); k_dflt (refine LCt.Assign_ListComp_T (F₀ := by k_asm) (by rfl) (by with_unfolding_all rfl) (by with_unfolding_all rfl) (by decide) (by rfl) (by decide) (by rfl) (by rfl) (by rfl) ?_))
  k_with "CompSrc" => (k_here; refine Hold.mk ?_)
  k_with "CompSrcT" => (k_here; refine Hold.mk ?_)
  k_with "CompEnd" => (k_here; refine Hold.mk ?_)
  k_with "FinA" => (k_here; refine Hold.mk ?_)
  k_with "FinE" => (k_here; refine Hold.mk ?_)
  k_with "loadName" => (k_here; k_dflt (refine' ldnX ?k1 ?k2 ?_; (case k1 => k_asm); (case k2 => exact rfl); k_whole))
  k_with "newTuple" => (k_here; k_dflt (refine' tupR ?_); intro Dpzz hpzz kpzz Fpzz Npzz l1zz; (try k_lt l1zz); (try k_sweep))
  k_with "mem" => first | exact List.Mem.head _ | with_reducible assumption | (refine' List.mem_cons_of_mem _ ?_; k_extra "mem") | (refine' Sub.mem ?s ?m; (case s => with_reducible assumption); (case m => k_extra "mem")) | fail "mem"
  k_with "member" => k_extra "mem"
  k_with "binaryOp Mult str int" => (k_here; refine Hold.mk ?_)
  k_with "call builtin:str.join" => (k_here; refine Hold.mk ?_)
  k_with "call builtin:list.reverse" => (k_here; refine Hold.mk ?_)
  k_with "call builtin:list.append" => (k_here; refine Hold.mk ?_)
  k_with "subscriptTail Name Constant ref int" => (k_here; refine Hold.mk ?_)
  k_with "subscriptTail Subscript Constant ref int" => (k_here; refine Hold.mk ?_)
  k_with "compareOp NotEq ref ref" => (k_here; refine Hold.mk ?_)
  k_with "binaryOp Add ref ref" => (k_here; refine Hold.mk ?_)
  k_with "binaryOp Add str str" => (k_here; refine Hold.mk ?_)
  k_with "call ref" => (k_here; refine Hold.mk ?_)
  k_with "call builtin:len" => (k_here; refine' len_lstM (h := ?_))
  k_with "exec If" => (k_here; (with_reducible show wpAny _ _ (exec (PySem.Stmt.If (PySem.Expr.Compare _ [PySem.CmpOp.Eq] _ _) _ _ _) _) _ _ _); refine Hold.mk ?_)
  exact True.intro
set_option maxHeartbeats 8000000 in
theorem wrt_node {prog : Program} {w : World} {n : Nat} {T : AT} (ok : T.tr.ok) (dT : T.tr.dep ≤ 3) (ih : ∀ k a b x y z, T = .gate a b k x y z → WrtC prog w (n + 1) x ∧ WrtC prog w (n + 1) y ∧ WrtC prog w (n + 1) z) : WrtC prog w (n + 2) T := by
  intro lr pg kr kp rv pv rs bl tb lines rest hT hr hri hp hpv hB
  have hobt := hT.head
  obtain ⟨u0, ku, hhead⟩ := hobt
  have hrl : rv.length = rs.length := by rw [hri.length, List.length_map]
  have hpl : pv.length = lines.length := hpv.length
  have hbb := hB.b
  have hbr := hB.r
  have hbn := hB.n
  refine' Spec.of [(Str.ofString "node", .ref T.addr), (Str.ofString "runs", .ref lr), (Str.ofString "blanks", .int bl tb), (Str.ofString "page", .ref pg)] ?_ ?_ ?_ ?_ ?_ ?_ ?_ ?_ ?_
  k_extra "sol"
  intro p loose mean mg mb dp un gd outer A₀ base g L' s A1 m0 E1 B F X N TP hdp hun
  k_steps
  (try dsimp only)
  rename Fr _ _ _ _ => F4
  rename News _ _ _ _ => N4
  (try dsimp only at N4 F4)
  refine Hold.un ?_
  refine' LCg.CompSrc.ledger ?hh F4 N4 ?hm ?hsz ?_
  case hm => exact .tail _ hr
  case hh => rfl
  case hsz => rw [sizeLine_eq]; simp; lia
  intro g'
  refine comp_turns rv.toArray.size (fun j ys nw => nw = (pg, listOf pv.toArray kp) :: rest ∧ StrsAre ys ((rs.take j).map fun r => strL (toldL r))) ?_ ?_ _ 0 [] _ rfl ⟨rfl, .nil⟩
  · rintro ys nw ⟨rfl, hys⟩
    intro D h tk F6 N6 od
    clear F4
    have hys' : StrsAre ys (rs.map fun r => strL (toldL r)) := by
      have : rs.take rv.toArray.size = rs := by rw [List.take_of_length_le]; simp; lia
      rw [this] at hys; exact hys
    clear hys
    have hsum := told_sum hB.e
    have hyl : ys.length = rs.length := by rw [hys'.length, List.length_map]
    have hod : D ≠ pg ∧ ∀ p ∈ rest, p.1 ≠ D := by
      refine ⟨fun e => off1_mem od _ (.head _) e.symm, fun p hp => off1_mem od _ (.tail _ hp)⟩
    k_steps
    rename Fr _ _ _ _ => F7
    rename News _ _ _ _ => N7
    refine Hold.un (cutN (X := List Value × List (List Nat) × Nat) F7 (fun q => (D, listOf (List.toArray q.1) q.2.2) :: (pg, listOf pv.toArray kp) :: rest) (fun q => Told rs bl lines.length q.1 q.2.1) ?_ ?_)
    · refine wpAny_If ?_
      k_steps
      · rename (Int.fmod _ 2 = 1) => hc
        rename Fr _ _ _ _ => F8
        rename News _ _ _ _ => N8
        refine Hold.un ?_
        refine kl_reverse F8 N8 rfl (Upd.head fun p hp => off1_mem od p hp) (by rw [sizeLine_eq]; simp; lia) ?_
        intro h9 F9 N9
        clear F8 N8
        have TT := told_rev (bl := bl) hys' hB.e (show lines.length % 2 = 1 by (rw [Int.fmod_eq_emod_of_nonneg _ (by decide)] at hc; lia))
        have e9 : ys.toArray.toList.reverse = ys.reverse := rfl
        rw [e9] at N9
        k_steps
        rename Fr _ _ _ _ => F10
        rename News _ _ _ _ => N10
        exact CutN.mk (ys.reverse, _, _) F10 N10 TT
      · rename (¬ (Int.fmod _ 2 = 1)) => hc
        have TT := told_fwd (bl := bl) hys' hB.e (show ¬ lines.length % 2 = 1 by (rw [Int.fmod_eq_emod_of_nonneg _ (by decide)] at hc; lia))
        rename Fr _ _ _ _ => F10
        rename News _ _ _ _ => N10
        exact CutN.mk (ys, _, _) F10 N10 TT
    intro q8 h8 tk8 F8 N8 TT0
    obtain ⟨tw, tl, kk⟩ := q8
    have N8' : News g L' h8 ((D, listOf tw.toArray kk) :: (pg, listOf pv.toArray kp) :: rest) := N8
    have TT : Told rs bl lines.length tw tl := TT0
    clear F7 N7 N8 TT0 hys' hsum
    k_steps
    all_goals
      rename Fr _ _ _ _ => F8
      rename News _ _ _ _ => N8
      rename Told _ _ _ _ _ => TT
      refine Hold.un ?_
      have hll := lead_len TT
      have htl := TT.w.length
      refine join_list (News.isList N8 (.head _)) TT.w ?hok ?_
      case hok =>
        have h1 := TT.s
        rw [show (Str.ofString "").length = 0 by decide +kernel]
        lia
      intro t9 k9
      rw [join_strL]
      k_steps
      refine Hold.un ?_
      refine SB.mul (mulOk_blank (by lia)) ?_
      intro t8 k8
      rw [mul_blank (by lia)]
      k_steps
      refine Hold.un ?_
      have hle := congrArg List.length TT.e
      rw [List.length_append, List.length_replicate] at hle
      refine add_str ?_ (by rw [strL_len, strL_len, List.length_replicate, sizeLine_eq]; lia)
      intro t7 k7
      rw [strL_add, TT.e]
      clear TT hle htl
      k_steps
      rename News _ _ _ _ => N9
      refine Hold.un ?_
      refine lst_at (vs := [.str T.tr.lbl u0, .ref T.kid]) (x := .str T.tr.lbl u0) N9 (.tail _ (.tail _ hhead)) (by decide) rfl (show 2 < 2 ^ 62 by decide) ?_
      k_steps
      refine Hold.un ?_
      have hlb := lbl_len ok
      refine add_str ?_ (by rw [strL_len, sizeLine_eq]; lia)
      intro t6 k6
      have hline : strL (leadL rs bl lines.length) ++ T.tr.lbl = lineS rs bl lines.length T.tr.lbl := rfl
      rw [hline]
      clear hline hll
      k_steps
      rename Fr _ _ _ _ => F10
      rename News _ _ _ _ => N10
      refine Hold.un ?_
      have hDpg := od.1
      refine append_K F10 N10 (Upd.tail (fun e => off1_mem od _ (.head _) e.symm) (Upd.head hp)) ?_ (by rw [sizeLine_eq, List.size_toArray]; lia)
      intro h11 F11 N11
      have N11' : News g L' h11 ((pg, listOf (pv ++ [Value.str (lineS rs bl lines.length T.tr.lbl) t6]).toArray (kp + 1)) :: rest) := by
        have e : pv.toArray.push (Value.str (lineS rs bl lines.length T.tr.lbl) t6) = (pv ++ [Value.str (lineS rs bl lines.length T.tr.lbl) t6]).toArray := by simp
        rw [e] at N11
        exact fun q hq => N11 q (.tail _ hq)
      have hpv1 : StrsAre (pv ++ [Value.str (lineS rs bl lines.length T.tr.lbl) t6]) (lines ++ [lineS rs bl lines.length T.tr.lbl]) := StrsAre.append' hpv (.cons _ _ .nil)
      generalize pv ++ [Value.str (lineS rs bl lines.length T.tr.lbl) t6] = pv1 at N11' hpv1
      clear F10 N10 N11 hDpg
      k_steps
      rename News _ _ _ _ => N12
      refine Hold.un ?_
      refine lst_at (vs := [.str T.tr.lbl u0, .ref T.kid]) (x := .ref T.kid) N12 (.tail _ hhead) (by decide) rfl (show 2 < 2 ^ 62 by decide) ?_
      k_steps
      rename Fr _ _ _ _ => F13
      rename News _ _ _ _ => N13
      refine Hold.un ?_
      cases T with
      | leaf a b d =>
        obtain ⟨_, _, k', _, h2⟩ := hT
        refine ne_nn N13 (.tail _ (.tail _ h2)) (.head _) (by lia) ?_
        k_steps
        rename Fr _ _ _ _ => F14
        rename News _ _ _ _ => N14
        exact ⟨Same.mk, _, _, F14, News.sub N14 (fun q hq => .tail _ hq), pv1, _, rfl, rfl, hpv1⟩
      | gate a b k x y z =>
        obtain ⟨_, _, k', _, h2, hx, hy, hz⟩ := hT
        have hobt := ih k a b x y z rfl
        obtain ⟨ihx, ihy, ihz⟩ := hobt
        clear ih hod
        have dd : max x.tr.dep (max y.tr.dep z.tr.dep) + 1 ≤ 3 := dT
        have bb : bl + 2 * (max x.tr.dep (max y.tr.dep z.tr.dep) + 1) ≤ 10 := hbb
        have br : rs.length + (max x.tr.dep (max y.tr.dep z.tr.dep) + 1) ≤ 10 := hbr
        have bn : lines.length + (1 + (x.tr.sz + (y.tr.sz + z.tr.sz))) ≤ 100 := hbn
        have hobt := m3 x.tr.dep y.tr.dep z.tr.dep
        obtain ⟨mx, my, mz⟩ := hobt
        generalize max x.tr.dep (max y.tr.dep z.tr.dep) = M at dd bb br mx my mz
        have cast9 : ∀ {m : Nat} {t : Tok}, IntsAre [Value.int (m : Int) t] ([m].map (fun (r : Nat) => (r : Int))) := .cons _ _ .nil
        refine ne_gn N13 (.tail _ (.tail _ h2)) (hx.mono fun q hq => .tail _ (.tail _ hq)) (hy.mono fun q hq => .tail _ (.tail _ hq)) (hz.mono fun q hq => .tail _ (.tail _ hq)) (by lia) (by lia) (by lia) (.head _) (by lia) ?_
        k_steps
        rename News _ _ _ _ => N14
        refine Hold.un ?_
        refine lst_at (vs := [.str (AT.gate a b k x y z).tr.lbl u0, .ref b]) (x := .ref b) N14 (.tail _ (.tail _ hhead)) (by decide) rfl (show 2 < 2 ^ 62 by decide) ?_
        k_steps
        rename News _ _ _ _ => N15
        refine Hold.un ?_
        refine lst_at (vs := [.ref x.addr, .ref y.addr, .ref z.addr]) (x := .ref x.addr) N15 (.tail _ (.tail _ h2)) (by decide) rfl (show 3 < 2 ^ 62 by decide) ?_
        k_steps
        rename Fr _ _ _ _ => F16
        rename News _ _ _ _ => N16
        refine Hold.un ?_
        refine kmk_add_lit F16 N16 (News.isList N16 (.tail _ (.tail _ (.tail _ hr)))) (News.isList N16 (.head _)) rfl ?_ ?_
        rotate_left
        · rw [sizeLine_eq]; show rv.length + 1 ≤ _; lia
        intro nr h17 F17 N17 l17
        clear F16 N16
        have hnpg : nr ≠ pg := Nat.ne_of_gt (l17 _ (.tail _ (.tail _ (.head _))))
        k_steps
        rename Fr _ _ _ _ => F18
        rename News _ _ _ _ => N18
        refine Hold.un ?_
        have N18' : News g L' _ ((pg, listOf pv1.toArray (kp + 1)) :: (nr, listOf (rv ++ [Value.int (bl : Int) tb]).toArray 0) :: rest) := News.sub N18 (fun q hq => by
          rcases List.mem_cons.mp hq with rfl | hq
          · exact .tail _ (.tail _ (.tail _ (.head _)))
          · rcases List.mem_cons.mp hq with rfl | hq
            · exact .head _
            · exact .tail _ (.tail _ (.tail _ (.tail _ hq))))
        refine Spec.use (ihx nr pg 0 (kp + 1) (rv ++ [Value.int (bl : Int) tb]) pv1 (rs ++ [bl]) 0 _ _ _ (hx.mono fun q hq => .tail _ hq) (.head _) (by rw [List.map_append]; exact IntsAre.append hri cast9) ?_ hpv1 ?_) B F18 X N18' TP (by exact rfl) (by k_extra "dp") (by k_extra "un") ?_
        · intro q hq
          rcases List.mem_cons.mp hq with rfl | hq
          · exact hnpg
          · exact hp q hq
        · refine ⟨by lia, by rw [List.length_append]; show _ + 1 + _ ≤ 10; lia, fun r hr' => ?_, by rw [List.length_append]; show _ + 1 + _ ≤ 100; lia⟩
          rcases List.mem_append.mp hr' with h | h
          · exact hB.e r h
          · rw [List.mem_singleton.mp h]; lia
        rintro r9 n9 h9 tk9 F9 N9 ⟨pv2, k2, rfl, rfl, hpv2⟩
        clear F18 N18 N18'
        have hl1 : (lines ++ [lineS rs bl lines.length (AT.gate a b k x y z).tr.lbl]).length = lines.length + 1 := by rw [List.length_append]; rfl
        rw [hl1] at hpv2
        have hl2 := congrArg (fun n => (lines ++ [lineS rs bl lines.length (AT.gate a b k x y z).tr.lbl]).length + n) (wr_len x.tr (rs ++ [bl]) 0 (lines.length + 1))
        (try dsimp only at hl2)
        rw [← List.length_append, hl1] at hl2
        k_steps
        rename News _ _ _ _ => N20
        refine Hold.un ?_
        refine lst_at (vs := [.str (AT.gate a b k x y z).tr.lbl u0, .ref b]) (x := .ref b) N20 (.tail _ (.tail _ hhead)) (by decide) rfl (show 2 < 2 ^ 62 by decide) ?_
        k_steps
        rename News _ _ _ _ => N21
        refine Hold.un ?_
        refine lst_at (vs := [.ref x.addr, .ref y.addr, .ref z.addr]) (x := .ref y.addr) N21 (.tail _ (.tail _ h2)) (by decide) rfl (show 3 < 2 ^ 62 by decide) ?_
        k_steps
        rename Fr _ _ _ _ => F22
        rename News _ _ _ _ => N22
        refine Hold.un ?_
        have N22' : News g L' _ ((pg, listOf pv2.toArray k2) :: rest) := News.sub N22 (fun q hq => by
          rcases List.mem_cons.mp hq with rfl | hq
          · exact .head _
          · exact .tail _ (.tail _ hq))
        refine Spec.use (ihy lr pg kr k2 rv pv2 rs (bl + 2) _ _ _ hy hr hri hp hpv2 ?_) B F22 X N22' TP (by exact rfl) (by k_extra "dp") (by k_extra "un") ?_
        · rw [hl2]
          exact ⟨by lia, by lia, hB.e, by lia⟩
        rintro r9 n9 h9 tk9 F23 N23 ⟨pv3, k3, rfl, rfl, hpv3⟩
        clear F22 N22 N22'
        rw [hl2] at hpv3
        have hl3 := congrArg (fun n => ((lines ++ [lineS rs bl lines.length (AT.gate a b k x y z).tr.lbl]) ++ wr x.tr (rs ++ [bl]) 0 (lines.length + 1)).length + n) (wr_len y.tr rs (bl + 2) (lines.length + 1 + x.tr.sz))
        (try dsimp only at hl3)
        rw [← List.length_append, hl2] at hl3
        k_steps
        rename News _ _ _ _ => N24
        refine Hold.un ?_
        refine lst_at (vs := [.str (AT.gate a b k x y z).tr.lbl u0, .ref b]) (x := .ref b) N24 (.tail _ hhead) (by decide) rfl (show 2 < 2 ^ 62 by decide) ?_
        k_steps
        rename News _ _ _ _ => N25
        refine Hold.un ?_
        refine lst_at (vs := [.ref x.addr, .ref y.addr, .ref z.addr]) (x := .ref z.addr) N25 (.tail _ h2) (by decide) rfl (show 3 < 2 ^ 62 by decide) ?_
        k_steps
        rename Fr _ _ _ _ => F26
        rename News _ _ _ _ => N26
        refine Hold.un ?_
        refine kmk_add_lit F26 N26 (News.isList N26 (.tail _ (.tail _ hr))) (News.isList N26 (.head _)) rfl ?_ ?_
        rotate_left
        · rw [sizeLine_eq]; show rv.length + 1 ≤ _; lia
        intro nr2 h27 F27 N27 l27
        clear F26 N26
        have hnpg2 : nr2 ≠ pg := Nat.ne_of_gt (l27 _ (.tail _ (.head _)))
        k_steps
        rename Fr _ _ _ _ => F28
        rename News _ _ _ _ => N28
        refine Hold.un ?_
        have N28' : News g L' _ ((pg, listOf pv3.toArray k3) :: (nr2, listOf (rv ++ [Value.int (((bl + 1 : Nat) : Int)) _]).toArray 0) :: rest) := News.sub N28 (fun q hq => by
          rcases List.mem_cons.mp hq with rfl | hq
          · exact .tail _ (.tail _ (.head _))
          · rcases List.mem_cons.mp hq with rfl | hq
            · exact .head _
            · exact .tail _ (.tail _ (.tail _ hq)))
        refine Spec.use (ihz nr2 pg 0 k3 (rv ++ [Value.int (((bl + 1 : Nat) : Int)) _]) pv3 (rs ++ [bl + 1]) 0 _ _ _ (hz.mono fun q hq => .tail _ hq) (.head _) (by rw [List.map_append]; exact IntsAre.append hri cast9) ?_ hpv3 ?_) B F28 X N28' TP (by exact rfl) (by k_extra "dp") (by k_extra "un") ?_
        · intro q hq
          rcases List.mem_cons.mp hq with rfl | hq
          · exact hnpg2
          · exact hp q hq
        · rw [hl3]
          refine ⟨by lia, by rw [List.length_append]; show _ + 1 + _ ≤ 10; lia, fun r hr' => ?_, by lia⟩
          rcases List.mem_append.mp hr' with h | h
          · exact hB.e r h
          · rw [List.mem_singleton.mp h]; lia
        rintro r9 n9 h9 tk9 F29 N29 ⟨pv4, k4, rfl, rfl, hpv4⟩
        clear F28 N28 N28'
        rw [hl3] at hpv4
        k_steps
        rename Fr _ _ _ _ => F30
        rename News _ _ _ _ => N30
        refine ⟨Same.mk, _, _, F30, News.sub N30 ?_, pv4, k4, rfl, rfl, ?_⟩
        · intro q hq
          rcases List.mem_cons.mp hq with rfl | hq
          · exact .head _
          · exact .tail _ (.tail _ hq)
        · have e : lines ++ wr (AT.gate a b k x y z).tr rs bl lines.length = ((lines ++ [lineS rs bl lines.length (AT.gate a b k x y z).tr.lbl]) ++ wr x.tr (rs ++ [bl]) 0 (lines.length + 1) ++ wr y.tr rs (bl + 2) (lines.length + 1 + x.tr.sz)) ++ wr z.tr (rs ++ [bl + 1]) 0 (lines.length + 1 + x.tr.sz + y.tr.sz) := by
            show lines ++ (lineS rs bl lines.length (kindS k) :: (wr x.tr (rs ++ [bl]) 0 (lines.length + 1) ++ (wr y.tr rs (bl + 2) (lines.length + 1 + x.tr.sz) ++ wr z.tr (rs ++ [bl + 1]) 0 (lines.length + 1 + x.tr.sz + y.tr.sz)))) = _
            simp [Tr.lbl, AT.tr]
          rw [e]; exact hpv4
  · rintro j v ys nw I2 oI2 C2 oC2 D2 m₂ h2 tk2 E' hj hv ⟨rfl, hys⟩ hC hx2 F7 N7 o7 ne QC aC
    have hj' : j < rs.length := by simp at hj; lia
    have hx' : rv[j]? = some v := by simpa using hv
    have hobt := hri.get j ((rs[j] : Nat) : Int) (by simp [hj'])
    obtain ⟨t, ht⟩ := hobt
    rw [hx'] at ht
    have hv' := Option.some.inj ht
    subst hv'
    have hb := hB.e _ (List.getElem_mem hj')
    clear F4
    k_steps
    refine Hold.un ?_
    refine SB.mul (mulOk_blank (by lia)) ?_
    intro t8 k8
    rw [mul_blank (by lia)]
    k_steps
    refine Hold.un ?_
    rw [tab_strL]
    refine add_str ?_ (by rw [strL_len, strL_len, List.length_replicate, sizeLine_eq]; show _ + 1 ≤ _; lia)
    intro t7 k7
    rw [strL_add]
    k_steps
    refine Hold.un ⟨_, _, _, rfl, by assumption, by assumption, o7, .inr ⟨_, .tail _ hr, rfl, _, rfl⟩, rfl, ?_⟩
    show StrsAre (ys ++ [_]) _
    rw [List.take_add_one, List.getElem?_eq_getElem hj', List.map_append]
    exact StrsAre.append' hys (.cons _ _ .nil)
end
section
theorem kw_Fwrt2_0 : True := by
  k_with_none
  k_with "vat" => repeat' (first | exact List.forall_mem_nil _ | refine' List.forall_mem_cons.mpr ⟨?_, ?_⟩ | with_unfolding_all rfl)
  k_with "vrest" => first | ((repeat' (first | exact Vars.rest (by assumption) | exact vr_nil | exact vr_base | refine vr_upd ?_ (by with_unfolding_all rfl) | refine vr_set ?_ (by with_unfolding_all rfl))); done) | (intro zzz hzzz; (simp only [List.contains_cons, List.contains_nil, Bool.or_false, Bool.or_eq_false_iff, beq_eq_false_iff_ne, ne_eq] at hzzz); (simp [hzzz, upd, setL, baseOf, List.lookup]))
  k_with "exec For Name Name cons nil" => (refine' wpAny_For ?h ?hs; (case hs => (intro _; with_unfolding_all rfl)))
  k_with "exec For Name Call cons nil" => (refine' wpAny_For ?h ?hs; (case hs => (intro _; with_unfolding_all rfl)))
  k_with "exec For Name Attribute cons nil" => (refine' wpAny_For ?h ?hs; (case hs => (intro _; with_unfolding_all rfl)))
  k_with "sol" => all_goals (try (first | k_is | exact rfl | decide))
  k_with "sz" => first | omega | (simp only [List.length_append, List.length_cons, List.length_nil, List.length_map, List.length_replicate, List.length_reverse, List.length_set]; omega)
  k_with "sub" => first | exact Sub.refl _ | with_reducible assumption | exact Sub.nil | (refine Sub.cons ?_; k_extra "sub") | (refine Sub.trans (by with_reducible assumption) ?_; k_extra "sub") | fail "sub"
  k_with "member" => assumption
  k_with "ite" => first | with_reducible refine ite_tt ?_ | with_reducible refine ite_ff ?_
  k_with "execs nil" => refine wpAny_execs_nil ?_
  k_with "dp" => first | exact dpLe | omega
  k_with "un" => first | exact unLe | omega
  k_with "storeName" => (k_here; k_dflt (first | (refine' storeI ?_; intro q1zz) | (refine' storeS ?_; intro q1zz) | (refine' storeF ?_; intro q1zz) | refine' storeR ?_); k_whole; intro hpzz kpzz mpzz Fpzz Npzz; (try k_sweep))
  k_with "execs cons" => first | refine lastK ?_ | (refine cutK ?_; intro Qzz azz) | (refine enterK ?_; intro Qzz azz)
  k_with "KQ" => first | refine nextK (by assumption) ?_ | refine retK (by assumption) ?_ | refine impK (by assumption) ?_ | refine contK (by assumption) ?_ | refine brkK (by assumption) ?_
  k_with "KS" => refine stopK (by assumption) ?_
  k_with "exec If" => (refine ifK ?_; intro Qzz azz)
  k_with "KB" => refine ifB (by assumption) ?_
  k_with "KV" => refine stopV (by assumption) ?_
  exact True.intro
theorem WrtC.more {prog : Program} {w : World} {n n' : Nat} {c : AT} (C : WrtC prog w n c) (h : n ≤ n') : WrtC prog w n' c := fun lr pg kr kp rv pv rs bl tb lines rest a1 a2 a3 a4 a5 a6 => (C lr pg kr kp rv pv rs bl tb lines rest a1 a2 a3 a4 a5 a6).more h
theorem wrt_spec {prog : Program} {w : World} : ∀ (t : AT), t.tr.ok → t.tr.dep ≤ 3 → WrtC prog w (t.tr.dep + 2) t
  | .leaf a b d, ok, hd => wrt_node (n := 0) ok hd fun k a b x y z e => by cases e
  | .gate a b k x y z, ok, hd => by
    have hd' := d3 (a := x.tr.dep) (b := y.tr.dep) (c := z.tr.dep) (n := 2) hd
    have hx := wrt_spec (prog := prog) (w := w) x ok.2.1 (Nat.le_succ_of_le hd'.1)
    have hy := wrt_spec (prog := prog) (w := w) y ok.2.2.1 (Nat.le_succ_of_le hd'.2.1)
    have hz := wrt_spec (prog := prog) (w := w) z ok.2.2.2 (Nat.le_succ_of_le hd'.2.2)
    refine wrt_node (n := max x.tr.dep (max y.tr.dep z.tr.dep) + 1) ok hd fun k' a' b' x' y' z' e => ?_
    cases e
    exact ⟨hx.more (Nat.add_le_add_right (m3 _ _ _).1 2), hy.more (Nat.add_le_add_right (m3 _ _ _).2.1 2), hz.more (Nat.add_le_add_right (m3 _ _ _).2.2 2)⟩
end
section
theorem kw_Krd_0 : True := by
  k_with_none
  k_with "vat" => repeat' (first | exact List.forall_mem_nil _ | refine' List.forall_mem_cons.mpr ⟨?_, ?_⟩ | with_unfolding_all rfl)
  k_with "vrest" => first | ((repeat' (first | exact Vars.rest (by assumption) | exact vr_nil | exact vr_base | refine vr_upd ?_ (by with_unfolding_all rfl) | refine vr_set ?_ (by with_unfolding_all rfl))); done) | (intro zzz hzzz; (simp only [List.contains_cons, List.contains_nil, Bool.or_false, Bool.or_eq_false_iff, beq_eq_false_iff_ne, ne_eq] at hzzz); (simp [hzzz, upd, setL, baseOf, List.lookup]))
  k_with "exec For Name Name cons nil" => (refine' wpAny_For ?h ?hs; (case hs => (intro _; with_unfolding_all rfl)))
  k_with "exec For Name Call cons nil" => (refine' wpAny_For ?h ?hs; (case hs => (intro _; with_unfolding_all rfl)))
  k_with "exec For Name Attribute cons nil" => (refine' wpAny_For ?h ?hs; (case hs => (intro _; with_unfolding_all rfl)))
  k_with "sol" => all_goals (try (first | k_is | exact rfl | decide))
  k_with "sz" => first | omega | (simp only [List.length_append, List.length_cons, List.length_nil, List.length_map, List.length_replicate, List.length_reverse, List.length_set]; omega)
  k_with "sub" => first | exact Sub.refl _ | with_reducible assumption | exact Sub.nil | (refine Sub.cons ?_; k_extra "sub") | (refine Sub.trans (by with_reducible assumption) ?_; k_extra "sub") | fail "sub"
  k_with "member" => assumption
  k_with "ite" => first | with_reducible refine ite_tt ?_ | with_reducible refine ite_ff ?_
  k_with "execs nil" => refine wpAny_execs_nil ?_
  k_with "dp" => first | exact dpLe | omega
  k_with "un" => first | exact unLe | omega
  k_with "storeName" => (k_here; k_dflt (first | (refine' storeI ?_; intro q1zz) | (refine' storeS ?_; intro q1zz) | (refine' storeF ?_; intro q1zz) | refine' storeR ?_); k_whole; intro hpzz kpzz mpzz Fpzz Npzz; (try k_sweep))
  k_with "execs cons" => first | refine lastK ?_ | (refine cutK ?_; intro Qzz azz) | (refine enterK ?_; intro Qzz azz)
  k_with "KQ" => first | refine nextK (by assumption) ?_ | refine retK (by assumption) ?_ | refine impK (by assumption) ?_ | refine contK (by assumption) ?_ | refine brkK (by assumption) ?_
  k_with "KS" => refine stopK (by assumption) ?_
  k_with "exec If" => (refine ifK ?_; intro Qzz azz)
  k_with "KB" => refine ifB (by assumption) ?_
  k_with "KV" => refine stopV (by assumption) ?_
  exact True.intro
def syI (y : Bool × Nat) : Int := if y.1 = true then kindI y.2 else 256 + (y.2 : Int)
def syS (y : Bool × Nat) : Str := if y.1 = true then kindS y.2 else digitS y.2
def syOk (y : Bool × Nat) : Prop := if y.1 = true then y.2 < 3 else y.2 < 9
theorem syI_pos {y : Bool × Nat} : 0 < syI y ∧ syI y < 2 ^ 40 ∨ ¬ syOk y := by
  unfold syI syOk
  split
  · left; unfold kindI; split; lia; split <;> lia
  · rename_i h
    rcases Nat.lt_or_ge y.2 9 with h1 | h1
    · left; lia
    · right; lia
/-- the pile, its top first, behind what the next line pops -/
def popW (ld : Nat → Ws) (v : Ws) : List Nat → List Nat
  | [] => []
  | j :: r => if (nlw (ld j) v).isEmpty = true then j :: r else popW ld v r
def pileL (ld : Nat → Ws) : Nat → List Nat
  | 0 => []
  | i + 1 => i :: popW ld (ld i) (pileL ld i)
def parL (ld : Nat → Ws) (i : Nat) : Option Nat := (popW ld (ld i) (pileL ld i)).head?
def kidsL (ld : Nat → Ws) (i j : Nat) : List Nat := (List.range i).filter fun c => parL ld c == some j
def rootsL (ld : Nat → Ws) (i : Nat) : List Nat := (List.range i).filter fun c => parL ld c == none
theorem popW_sub {ld : Nat → Ws} {v : Ws} : ∀ {l : List Nat}, ∀ j ∈ popW ld v l, j ∈ l
  | [], j, h => h
  | a :: r, j, h => by
    unfold popW at h
    split at h
    · exact h
    · exact .tail _ (popW_sub j h)
theorem popW_len {ld : Nat → Ws} {v : Ws} : ∀ {l : List Nat}, (popW ld v l).length ≤ l.length
  | [] => Nat.le_refl _
  | a :: r => by
    unfold popW
    split
    · exact Nat.le_refl _
    · exact Nat.le_succ_of_le popW_len
theorem pileL_lt {ld : Nat → Ws} : ∀ {i : Nat}, ∀ j ∈ pileL ld i, j < i
  | 0, j, h => nomatch h
  | i + 1, j, h => by
    rcases List.mem_cons.mp h with rfl | h
    · exact Nat.lt_succ_self _
    · exact Nat.lt_succ_of_lt (pileL_lt j (popW_sub j h))
theorem pileL_len {ld : Nat → Ws} : ∀ {i : Nat}, (pileL ld i).length ≤ i
  | 0 => Nat.le_refl _
  | i + 1 => Nat.succ_le_succ (Nat.le_trans popW_len pileL_len)
theorem parL_lt {ld : Nat → Ws} {c j : Nat} (h : parL ld c = some j) : j < c := pileL_lt j (popW_sub j (List.mem_of_head? h))
theorem kidsL_succ {ld : Nat → Ws} {i j : Nat} : kidsL ld (i + 1) j = kidsL ld i j ++ if parL ld i = some j then [i] else [] := by
  unfold kidsL
  rw [List.range_succ, List.filter_append]
  congr 1
  by_cases h : parL ld i = some j
  · rw [if_pos h]; simp [h]
  · rw [if_neg h]; simp [h]
theorem rootsL_succ {ld : Nat → Ws} {i : Nat} : rootsL ld (i + 1) = rootsL ld i ++ if parL ld i = none then [i] else [] := by
  unfold rootsL
  rw [List.range_succ, List.filter_append]
  congr 1
  by_cases h : parL ld i = none
  · rw [if_pos h]; simp [h]
  · rw [if_neg h]; simp [h]
theorem kidsL_new {ld : Nat → Ws} {i : Nat} : kidsL ld (i + 1) i = [] := by
  unfold kidsL
  refine List.filter_eq_nil_iff.mpr fun c hc h => ?_
  have h1 := parL_lt (by simpa using h)
  have h2 := List.mem_range.mp hc
  lia
theorem kidsL_lt {ld : Nat → Ws} {i j : Nat} : ∀ c ∈ kidsL ld i j, c < i := fun c hc => List.mem_range.mp (List.mem_filter.mp hc).1
theorem rootsL_lt {ld : Nat → Ws} {i : Nat} : ∀ c ∈ rootsL ld i, c < i := fun c hc => List.mem_range.mp (List.mem_filter.mp hc).1
theorem kidsL_len {ld : Nat → Ws} {i j : Nat} : (kidsL ld i j).length ≤ i := by
  have := List.length_filter_le (fun c => parL ld c == some j) (List.range i)
  rwa [List.length_range] at this
theorem rootsL_len {ld : Nat → Ws} {i : Nat} : (rootsL ld i).length ≤ i := by
  have := List.length_filter_le (fun c => parL ld c == none) (List.range i)
  rwa [List.length_range] at this
/-- what is made behind i lines: leads, nodes, entries of the pile and rows of parts -/
structure RdI (P : Params) (ld : Nat → Ws) (sy : Nat → Bool × Nat) (pl ro : Addr) (na ka la pa : Nat → Addr) (i : Nat) (D : List (Addr × Obj)) : Prop where
  ws : ∀ j, j < i → WsIn P D (la j) (ld j)
  nd : ∀ j, j < i → ∃ t k, (na j, listOf [.int (syI (sy j)) t, .ref (ka j)].toArray k) ∈ D
  en : ∀ j, j < i → ∃ k, (pa j, listOf [.ref (la j), .ref (na j)].toArray k) ∈ D
  kd : ∀ j, j < i → ∃ k, (ka j, listOf ((kidsL ld i j).map fun c => Value.ref (na c)).toArray k) ∈ D
  n1 : ∀ j, j < i → na j ≠ pl ∧ na j ≠ ro
  n2 : ∀ j, j < i → pa j ≠ pl ∧ pa j ≠ ro
  n3 : ∀ j, j < i → ka j ≠ pl ∧ ka j ≠ ro
  n4 : ∀ j j', j < i → j' < i → na j ≠ ka j' ∧ pa j ≠ ka j'
  n5 : ∀ j j', j < i → j' < i → j ≠ j' → ka j ≠ ka j'
theorem dict_no : Value.type "dict" ≠ Value.type "list" := by decide
theorem dict_no2 : Value.type "dict" ≠ Value.type "list_iterator" := by decide
theorem tup_no2 : Value.type "tuple" ≠ Value.type "list_iterator" := by decide
theorem tup_no : Value.type "tuple" ≠ Value.type "list" := by decide
theorem WsIn.to {P : Params} {news news' : List (Addr × Obj)} {x : Addr} {u : Ws} (h : WsIn P news x u) (s : ∀ p ∈ news, p.2.cls ≠ .none → p.2.cls ≠ .type "list" → p.2.cls ≠ .type "list_iterator" → p ∈ news') : WsIn P news' x u := by
  cases h with
  | mk h1 h2 h3 h4 h5 => exact .mk (s _ h1 (by nofun) (by nofun) (by nofun)) (s _ h2 (by nofun) dict_no dict_no2) (s _ h3 (by nofun) tup_no tup_no2) (s _ h4 (by nofun) tup_no tup_no2) h5
theorem RdI.to {P : Params} {ld : Nat → Ws} {sy : Nat → Bool × Nat} {pl ro : Addr} {na ka la pa : Nat → Addr} {i : Nat} {D D' : List (Addr × Obj)} (H : RdI P ld sy pl ro na ka la pa i D)
    (s : ∀ p ∈ D, p.2.cls ≠ .none → (p.2.cls = .type "list" → p.1 ≠ pl ∧ p.1 ≠ ro) → p ∈ D') : RdI P ld sy pl ro na ka la pa i D' := by
  obtain ⟨ws, nd, en, kd, n1, n2, n3, n4, n5⟩ := H
  refine ⟨fun j hj => (ws j hj).to fun p hp h1 h2 _ => s p hp h1 fun e => absurd e h2, fun j hj => ?_, fun j hj => ?_, fun j hj => ?_, n1, n2, n3, n4, n5⟩
  · obtain ⟨t, k, h⟩ := nd j hj
    exact ⟨t, k, s _ h (by nofun) fun _ => n1 j hj⟩
  · obtain ⟨k, h⟩ := en j hj
    exact ⟨k, s _ h (by nofun) fun _ => n2 j hj⟩
  · obtain ⟨k, h⟩ := kd j hj
    exact ⟨k, s _ h (by nofun) fun _ => n3 j hj⟩
theorem RdI.mono {P : Params} {ld : Nat → Ws} {sy : Nat → Bool × Nat} {pl ro : Addr} {na ka la pa : Nat → Addr} {i : Nat} {D D' : List (Addr × Obj)} (H : RdI P ld sy pl ro na ka la pa i D) (s : Sub D D') : RdI P ld sy pl ro na ka la pa i D' :=
  H.to fun p hp _ _ => s p hp
def atI (f : Nat → Addr) (i : Nat) (a : Addr) : Nat → Addr := fun j => if j = i then a else f j
theorem atI_here {f : Nat → Addr} {i : Nat} {a : Addr} : atI f i a i = a := if_pos rfl
theorem atI_ne {f : Nat → Addr} {i j : Nat} {a : Addr} (h : j < i) : atI f i a j = f j := if_neg (Nat.ne_of_lt h)
theorem map_atI {f : Nat → Addr} {i : Nat} {a : Addr} {l : List Nat} (h : ∀ c ∈ l, c < i) : (l.map fun c => Value.ref (atI f i a c)) = l.map fun c => Value.ref (f c) := List.map_congr_left fun c hc => by rw [atI_ne (h c hc)]
/-- one line more, its parts row hung in where it belongs -/
theorem RdI.step {P : Params} {ld : Nat → Ws} {sy : Nat → Bool × Nat} {pl ro : Addr} {na ka la pa : Nat → Addr} {i : Nat} {D D' : List (Addr × Obj)} {x nd kd pe : Addr} {t : Tok} {k1 k2 k3 : Nat} (H : RdI P ld sy pl ro na ka la pa i D)
    (s : ∀ p ∈ D, p.2.cls ≠ .none → (p.2.cls = .type "list" → p.1 ≠ pl ∧ p.1 ≠ ro ∧ ∀ j, parL ld i = some j → p.1 ≠ ka j) → p ∈ D')
    (hx : WsIn P D' x (ld i)) (hn : (nd, listOf [.int (syI (sy i)) t, .ref kd].toArray k1) ∈ D') (hk : (kd, listOf ([] : List Value).toArray k2) ∈ D') (he : (pe, listOf [.ref x, .ref nd].toArray k3) ∈ D')
    (hj : ∀ j, parL ld i = some j → ∃ k, (ka j, listOf ((kidsL ld i j).map (fun c => Value.ref (na c)) ++ [Value.ref nd]).toArray k) ∈ D')
    (f1 : ∀ j, j < i → nd ≠ ka j ∧ pe ≠ ka j ∧ kd ≠ ka j ∧ kd ≠ na j ∧ kd ≠ pa j) (f2 : nd ≠ pl ∧ nd ≠ ro ∧ pe ≠ pl ∧ pe ≠ ro ∧ kd ≠ pl ∧ kd ≠ ro) (f3 : nd ≠ kd ∧ pe ≠ kd) :
    RdI P ld sy pl ro (atI na i nd) (atI ka i kd) (atI la i x) (atI pa i pe) (i + 1) D' := by
  obtain ⟨ws, nd', en, kd', n1, n2, n3, n4, n5⟩ := H
  refine ⟨fun j hj' => ?_, fun j hj' => ?_, fun j hj' => ?_, fun j hj' => ?_, fun j hj' => ?_, fun j hj' => ?_, fun j hj' => ?_, fun j j' h1 h2 => ?_, fun j j' h1 h2 h3 => ?_⟩
  · rcases Nat.lt_succ_iff_lt_or_eq.mp hj' with h | rfl
    · rw [atI_ne h]
      exact (ws j h).to fun p hp h1 h2 _ => s p hp h1 fun e => absurd e h2
    · rw [atI_here]; exact hx
  · rcases Nat.lt_succ_iff_lt_or_eq.mp hj' with h | rfl
    · rw [atI_ne h, atI_ne h]
      obtain ⟨t, k, h'⟩ := nd' j h
      exact ⟨t, k, s _ h' (by nofun) fun _ => ⟨(n1 j h).1, (n1 j h).2, fun c hc => (n4 j c h (parL_lt hc)).1⟩⟩
    · rw [atI_here, atI_here]; exact ⟨_, _, hn⟩
  · rcases Nat.lt_succ_iff_lt_or_eq.mp hj' with h | rfl
    · rw [atI_ne h, atI_ne h, atI_ne h]
      obtain ⟨k, h'⟩ := en j h
      exact ⟨k, s _ h' (by nofun) fun _ => ⟨(n2 j h).1, (n2 j h).2, fun c hc => (n4 j c h (parL_lt hc)).2⟩⟩
    · rw [atI_here, atI_here, atI_here]; exact ⟨_, he⟩
  · rcases Nat.lt_succ_iff_lt_or_eq.mp hj' with h | rfl
    · rw [atI_ne h]
      rw [kidsL_succ]
      by_cases hp : parL ld i = some j
      · rw [if_pos hp, List.map_append, map_atI kidsL_lt]
        obtain ⟨k, h'⟩ := hj j hp
        exact ⟨k, by simpa [atI_here] using h'⟩
      · rw [if_neg hp, List.append_nil, map_atI kidsL_lt]
        obtain ⟨k, h'⟩ := kd' j h
        exact ⟨k, s _ h' (by nofun) fun _ => ⟨(n3 j h).1, (n3 j h).2, fun c hc => n5 j c h (parL_lt hc) fun e => hp (by rw [hc, e])⟩⟩
    · rw [atI_here, kidsL_new]; exact ⟨_, hk⟩
  · rcases Nat.lt_succ_iff_lt_or_eq.mp hj' with h | rfl
    · rw [atI_ne h]; exact n1 j h
    · rw [atI_here]; exact ⟨f2.1, f2.2.1⟩
  · rcases Nat.lt_succ_iff_lt_or_eq.mp hj' with h | rfl
    · rw [atI_ne h]; exact n2 j h
    · rw [atI_here]; exact ⟨f2.2.2.1, f2.2.2.2.1⟩
  · rcases Nat.lt_succ_iff_lt_or_eq.mp hj' with h | rfl
    · rw [atI_ne h]; exact n3 j h
    · rw [atI_here]; exact f2.2.2.2.2
  · rcases Nat.lt_succ_iff_lt_or_eq.mp h1 with a | rfl
    · rcases Nat.lt_succ_iff_lt_or_eq.mp h2 with b | rfl
      · rw [atI_ne a, atI_ne a, atI_ne b]; exact n4 j j' a b
      · rw [atI_ne a, atI_ne a, atI_here]; exact ⟨fun e => (f1 j a).2.2.2.1 e.symm, fun e => (f1 j a).2.2.2.2 e.symm⟩
    · rcases Nat.lt_succ_iff_lt_or_eq.mp h2 with b | rfl
      · rw [atI_here, atI_here, atI_ne b]; exact ⟨(f1 j' b).1, (f1 j' b).2.1⟩
      · rw [atI_here, atI_here, atI_here]; exact f3
  · rcases Nat.lt_succ_iff_lt_or_eq.mp h1 with a | rfl
    · rcases Nat.lt_succ_iff_lt_or_eq.mp h2 with b | rfl
      · rw [atI_ne a, atI_ne b]; exact n5 j j' a b h3
      · rw [atI_ne a, atI_here]; exact fun e => (f1 j a).2.2.1 e.symm
    · rcases Nat.lt_succ_iff_lt_or_eq.mp h2 with b | rfl
      · rw [atI_here, atI_ne b]; exact (f1 j' b).2.2.1
      · exact absurd rfl h3
theorem name_led {h₀ h : Heap} {L : Addr} {news : List (Addr × Obj)} (N : News h₀ L h news) {C : Prop} (k : ∀ W, W = news → C) : C := k _ rfl
theorem off2_to {pl : Addr} {ps : Array Value} {vs : Array Value} {k : Nat} {W0 : List (Addr × Obj)} (U : UniqL W0) (m89 : (89, tabObj ps) ∈ W0) (mpl : (pl, listOf vs k) ∈ W0) :
    ∀ p ∈ W0, p.2.cls ≠ .none → (p.2.cls = .type "list" → p.1 ≠ pl) → p ∈ off 89 (off pl W0) := by
  intro p hp h1 h2
  refine off_mem (off_mem hp fun e => ?_) fun e => ?_
  · have q := U p.1 p.2 (listOf vs k) hp (by rw [e]; exact mpl)
    exact h2 (by rw [q]) e
  · have q := U p.1 p.2 (tabObj ps) hp (by rw [e]; exact m89)
    exact h1 (by rw [q])
theorem pull2 {h₀ h : Heap} {L pl : Addr} {o1 o2 : Obj} {W0 : List (Addr × Obj)} (N : News h₀ L h W0) (m1 : (89, o1) ∈ W0) (m2 : (pl, o2) ∈ W0) (ne : pl ≠ 89) : News h₀ L h ([(89, o1), (pl, o2)] ++ off 89 (off pl W0)) := by
  have N2 := News.pull (News.pull N m2) (show (89, o1) ∈ (pl, o2) :: off pl W0 from .tail _ (off_mem m1 fun e => ne e.symm))
  refine News.sub N2 fun p hp => ?_
  rcases List.mem_cons.mp hp with rfl | hp
  · exact .head _
  · rcases List.mem_cons.mp hp with rfl | hp
    · exact .tail _ (off_mem (.head _) ne)
    · exact .tail _ (off_mem (.tail _ (off_sub p hp)) (off_ne p hp))
/-- a while whose turns leave the names alone -/
theorem while_same {prog : Program} {w : World} {A : Around} {s : Shared} {env : Env} {h₀ : Heap} {R : Result → Shared → Prop} {test : Expr} {body : List Stmt} {m : Str → Option Value} {D news : List (Addr × Obj)} {G : Shared → Prop} (n : Nat)
    (F : Fr h₀ env.locals s.heap m) (N : News h₀ env.locals s.heap (D ++ news)) (g0 : G s)
    (J : Nat → List (Addr × Obj) → Prop) (K : List (Addr × Obj) → Prop) (h0 : J n D)
    (step : ∀ k D₁ s₁, J k D₁ → G s₁ → Fr h₀ env.locals s₁.heap m → News h₀ env.locals s₁.heap (D₁ ++ news) →
      wpAny (model prog w) A (isTrue test env (eval test env)) (fun b s₂ => if b = true then wpAny (model prog w) A (execs body env) (WTurn h₀ env.locals news G (fun k m' D' => m' = m ∧ J k D') (fun m' D' => m' = m ∧ K D') (fun f s' => R (.ok f) s') k) (fun _ _ => False) s₂ else WStop h₀ env.locals news G (fun m' D' => m' = m ∧ K D') s₂) (fun _ _ => False) s₁)
    (hR : ∀ D' s', K D' → G s' → Fr h₀ env.locals s'.heap m → News h₀ env.locals s'.heap (D' ++ news) → R (.ok .next) s') :
    codeAny (model prog w) A (.whileLoop test body [] env) R s := by
  refine while_walks n F N g0 (fun k m' D' => m' = m ∧ J k D') (fun m' D' => m' = m ∧ K D') ⟨rfl, h0⟩ ?_ ?_
  · rintro k m₁ D₁ s₁ ⟨e, hJ⟩ g F' N'
    rw [e] at F'
    exact step k D₁ s₁ hJ g F' N'
  · rintro m' D' s' ⟨e, hK⟩ g F' N'
    rw [e] at F'
    exact hR D' s' hK g F' N'
theorem whileG {prog : Program} {w : World} {A : Around} {s : Shared} {env : Env} {h₀ : Heap} {Q : Flow → Shared → Prop} {E : Value → Shared → Prop} {test : Expr} {body : List Stmt} {m : Str → Option Value} {D news : List (Addr × Obj)} {G : Shared → Prop} (n : Nat)
    (F : Fr h₀ env.locals s.heap m) (N : News h₀ env.locals s.heap (D ++ news)) (g0 : G s)
    (J : Nat → List (Addr × Obj) → Prop) (K : List (Addr × Obj) → Prop) (h0 : J n D)
    (step : let J0 := J; let K0 := K; ∀ k D₁ s₁ Q' S', Imp (WTurn h₀ env.locals news G (fun k m' D' => m' = m ∧ J0 k D') (fun m' D' => m' = m ∧ K0 D') Q k) Q' → ImpS (WStop h₀ env.locals news G (fun m' D' => m' = m ∧ K0 D')) S' → J0 k D₁ → G s₁ → Fr h₀ env.locals s₁.heap m → News h₀ env.locals s₁.heap (D₁ ++ news) →
      wpAny (model prog w) A (isTrue test env (eval test env)) (fun b s₂ => if b = true then wpAny (model prog w) A (execs body env) (KQ Q') (fun _ _ => False) s₂ else KS S' s₂) (fun _ _ => False) s₁)
    (hR : ∀ D' s', K D' → G s' → Fr h₀ env.locals s'.heap m → News h₀ env.locals s'.heap (D' ++ news) → Q .next s') :
    codeAny (model prog w) A (.whileLoop test body [] env) (RWhile prog w A env Q E) s :=
  while_same n F N g0 J K h0 (fun k D₁ s₁ hJ g F' N' => step k D₁ s₁ _ _ ⟨fun _ _ h => h⟩ ⟨fun _ h => h⟩ hJ g F' N') hR
end
section
theorem kw_Fex_0 : True := by
  k_with_none
  k_with "vat" => repeat' (first | exact List.forall_mem_nil _ | refine' List.forall_mem_cons.mpr ⟨?_, ?_⟩ | with_unfolding_all rfl)
  k_with "vrest" => first | ((repeat' (first | exact Vars.rest (by assumption) | exact vr_nil | exact vr_base | refine vr_upd ?_ (by with_unfolding_all rfl) | refine vr_set ?_ (by with_unfolding_all rfl))); done) | (intro zzz hzzz; (simp only [List.contains_cons, List.contains_nil, Bool.or_false, Bool.or_eq_false_iff, beq_eq_false_iff_ne, ne_eq] at hzzz); (simp [hzzz, upd, setL, baseOf, List.lookup]))
  k_with "exec For Name Name cons nil" => (refine' wpAny_For ?h ?hs; (case hs => (intro _; with_unfolding_all rfl)))
  k_with "exec For Name Call cons nil" => (refine' wpAny_For ?h ?hs; (case hs => (intro _; with_unfolding_all rfl)))
  k_with "exec For Name Attribute cons nil" => (refine' wpAny_For ?h ?hs; (case hs => (intro _; with_unfolding_all rfl)))
  k_with "sol" => all_goals (try (first | k_is | exact rfl | decide))
  k_with "sz" => first | omega | (simp only [List.length_append, List.length_cons, List.length_nil, List.length_map, List.length_replicate, List.length_reverse, List.length_set]; omega)
  k_with "sub" => first | exact Sub.refl _ | with_reducible assumption | exact Sub.nil | (refine Sub.cons ?_; k_extra "sub") | (refine Sub.trans (by with_reducible assumption) ?_; k_extra "sub") | fail "sub"
  k_with "member" => assumption
  k_with "ite" => first | with_reducible refine ite_tt ?_ | with_reducible refine ite_ff ?_
  k_with "execs nil" => refine wpAny_execs_nil ?_
  k_with "dp" => first | exact dpLe | omega
  k_with "un" => first | exact unLe | omega
  k_with "storeName" => (k_here; k_dflt (first | (refine' storeI ?_; intro q1zz) | (refine' storeS ?_; intro q1zz) | (refine' storeF ?_; intro q1zz) | refine' storeR ?_); k_whole; intro hpzz kpzz mpzz Fpzz Npzz; (try k_sweep))
  k_with "execs cons" => first | refine lastK ?_ | (refine cutK ?_; intro Qzz azz) | (refine enterK ?_; intro Qzz azz)
  k_with "KQ" => first | refine nextK (by assumption) ?_ | refine retK (by assumption) ?_ | refine impK (by assumption) ?_ | refine contK (by assumption) ?_ | refine brkK (by assumption) ?_
  k_with "KS" => refine stopK (by assumption) ?_
  k_with "exec If" => (refine ifK ?_; intro Qzz azz)
  k_with "KB" => refine ifB (by assumption) ?_
  k_with "KV" => refine stopV (by assumption) ?_
  exact True.intro
theorem exact_gate {P : Params} {k : Nat} (hk : k < 3) : ∃ t, nsIn (hd.heap_1 P) 136 (kindS k) = some (some (.int (kindI k) t)) := by
  rcases kind3 hk with rfl | rfl | rfl
  · exact ⟨_, by show nsIn _ _ (Str.ofString "|") = _; k_is⟩
  · exact ⟨_, by show nsIn _ _ (Str.ofString "&") = _; k_is⟩
  · exact ⟨_, by show nsIn _ _ (Str.ofString "^") = _; k_is⟩
theorem exact_emp {P : Params} : nsIn (hd.heap_1 P) 136 (Str.ofString "") = some none := by k_is
theorem exact_digit {P : Params} {d : Nat} (h : d < 9) : nsIn (hd.heap_1 P) 136 (digitS d) = some none := by
  have e : d ∈ [0, 1, 2, 3, 4, 5, 6, 7, 8] := List.mem_range.mpr h
  simp only [List.mem_cons, List.not_mem_nil, or_false] at e
  rcases e with rfl | rfl | rfl | rfl | rfl | rfl | rfl | rfl | rfl
  · show nsIn _ _ (Str.ofString "0") = _; k_is
  · show nsIn _ _ (Str.ofString "1") = _; k_is
  · show nsIn _ _ (Str.ofString "2") = _; k_is
  · show nsIn _ _ (Str.ofString "3") = _; k_is
  · show nsIn _ _ (Str.ofString "4") = _; k_is
  · show nsIn _ _ (Str.ofString "5") = _; k_is
  · show nsIn _ _ (Str.ofString "6") = _; k_is
  · show nsIn _ _ (Str.ofString "7") = _; k_is
  · show nsIn _ _ (Str.ofString "8") = _; k_is
theorem exact_obj {P : Params} : ∃ es n, (hd.heap_1 P).lookup 136 = some ⟨.type "dict", none, .dict es n, #[]⟩ ∧ KeysLit P es.toList := by
  refine ⟨_, _, by k_is, by k_keys⟩
theorem in_exact {prog : Program} {w : World} {A : Around} {E : Value → Shared → Prop} {s : Shared} {h₀ : Heap} {L : Addr} {m : Str → Option Value} {x : Str} {t : Tok} {r : Option Value} {Q : Value → Shared → Prop} (F : Fr h₀ L s.heap m) (X : (hd.heap_1 w.params).In h₀) (e : nsIn (hd.heap_1 w.params) 136 x = some r)
    (b : Bool) (hb : r.isSome = b) (h : Q (.bool b) { s with toks := s.toks + 1 }) : wpAny (model prog w) A (compareOp .In (.str x t) (.ref 136)) Q E s := by
  subst hb
  have hobt := exact_obj (P := w.params)
  obtain ⟨es, n, hl, hk⟩ := hobt
  exact topIn_K F X hl hk e (by decide) h
theorem at_exact {prog : Program} {w : World} {A : Around} {E : Value → Shared → Prop} {s : Shared} {h₀ : Heap} {L : Addr} {m : Str → Option Value} {x : Str} {t : Tok} {v : Value} {value slice : Expr} {Q : Value → Shared → Prop} (F : Fr h₀ L s.heap m) (X : (hd.heap_1 w.params).In h₀) (e : nsIn (hd.heap_1 w.params) 136 x = some (some v))
    (h : Q v { s with toks := s.toks + 1 }) (hs : subscripted slice false (.ref 136) (.str x t) = operate [.ref 136, .str x t] (getItem (.ref 136) (.str x t)) := by with_unfolding_all rfl) :
    wpAny (model prog w) A (subscriptTail value slice (.ref 136) (.str x t)) Q E s := by
  have hobt := exact_obj (P := w.params)
  obtain ⟨es, n, hl, hk⟩ := hobt
  exact topItem_K F X hl hk e h hs
theorem ne_strB {prog : Program} {w : World} {A : Around} {E : Value → Shared → Prop} {s : Shared} {x y : Str} {t u : Tok} {Q : Value → Shared → Prop} {b : Bool} (hb : (x != y) = b) (h : Q (.bool b) s) : wpAny (model prog w) A (compareOp .NotEq (.str x t) (.str y u)) Q E s := by
  subst hb
  exact ne_str h
theorem ne_len {prog : Program} {w : World} {A : Around} {E : Value → Shared → Prop} {s : Shared} {h₀ : Heap} {L a b : Addr} {news : List (Addr × Obj)} {vs us : List Value} {k k' : Nat} {Q : Value → Shared → Prop} (N : News h₀ L s.heap news) (ha : (a, listOf vs.toArray k) ∈ news) (hb : (b, listOf us.toArray k') ∈ news)
    (hn : vs.length ≠ us.length) (hu : A.units < cLine) (h : Q (.bool true) s) : wpAny (model prog w) A (compareOp .NotEq (.ref a) (.ref b)) Q E s :=
  SeqAt.RcNeAt.lists_lengths (News.isList N ha) (News.isList N hb) (by simpa using hn) hu prog w E Q h
theorem eq_len {prog : Program} {w : World} {A : Around} {E : Value → Shared → Prop} {s : Shared} {h₀ : Heap} {L a b : Addr} {news : List (Addr × Obj)} {vs us : List Value} {k k' : Nat} {Q : Value → Shared → Prop} (N : News h₀ L s.heap news) (ha : (a, listOf vs.toArray k) ∈ news) (hb : (b, listOf us.toArray k') ∈ news)
    (hn : vs.length ≠ us.length) (hu : A.units < cLine) (h : Q (.bool false) s) : wpAny (model prog w) A (compareOp .Eq (.ref a) (.ref b)) Q E s :=
  PySem.SeqAt.eq_list_lengthsAt (News.isList N ha) (News.isList N hb) (by simpa using hn) hu h
theorem lst_last {prog : Program} {w : World} {A : Around} {E : Value → Shared → Prop} {s : Shared} {h₀ : Heap} {L c : Addr} {news : List (Addr × Obj)} {vs : List Value} {kc : Nat} {Q : Value → Shared → Prop} {value slice : Expr} {u : Tok} {x : Value} (N : News h₀ L s.heap news) (hm : (c, listOf (vs ++ [x]).toArray kc) ∈ news) (h : Q x s)
    (hs : subscripted slice false (.ref c) (.int (-1) u) = operate [.ref c, .int (-1) u] (getItem (.ref c) (.int (-1) u)) := by with_unfolding_all rfl) (hg : ∀ r, letTemporaryGo value (.ref c) r = pure () := by intro _; with_unfolding_all rfl) :
    wpAny (model prog w) A (subscriptTail value slice (.ref c) (.int (-1) u)) Q E s := by
  have hl : (vs ++ [x]).length = vs.length + 1 := by simp
  refine kim_back N hm rfl rfl (by decide) (by lia) (by decide) (x := x) ?_ h hs hg
  rw [hl, show ((-1 : Int) + ((vs.length + 1 : Nat) : Int)).toNat = vs.length by lia]
  simp
theorem kl_last_app : ∀ {p : List Value} {y : Value}, kl_last (p ++ [y]) = some (p, y)
  | [], y => rfl
  | x :: p, y => by
    show kl_last (x :: (p ++ [y])) = _
    unfold kl_last
    rw [kl_last_app (p := p) (y := y)]
end
section
theorem kw_Krd2_0 : True := by
  k_with_none
  k_with "vat" => repeat' (first | exact List.forall_mem_nil _ | refine' List.forall_mem_cons.mpr ⟨?_, ?_⟩ | with_unfolding_all rfl)
  k_with "vrest" => first | ((repeat' (first | exact Vars.rest (by assumption) | exact vr_nil | exact vr_base | refine vr_upd ?_ (by with_unfolding_all rfl) | refine vr_set ?_ (by with_unfolding_all rfl))); done) | (intro zzz hzzz; (simp only [List.contains_cons, List.contains_nil, Bool.or_false, Bool.or_eq_false_iff, beq_eq_false_iff_ne, ne_eq] at hzzz); (simp [hzzz, upd, setL, baseOf, List.lookup]))
  k_with "exec For Name Name cons nil" => (refine' wpAny_For ?h ?hs; (case hs => (intro _; with_unfolding_all rfl)))
  k_with "exec For Name Call cons nil" => (refine' wpAny_For ?h ?hs; (case hs => (intro _; with_unfolding_all rfl)))
  k_with "exec For Name Attribute cons nil" => (refine' wpAny_For ?h ?hs; (case hs => (intro _; with_unfolding_all rfl)))
  k_with "sol" => all_goals (try (first | k_is | exact rfl | decide))
  k_with "sz" => first | omega | (simp only [List.length_append, List.length_cons, List.length_nil, List.length_map, List.length_replicate, List.length_reverse, List.length_set]; omega)
  k_with "sub" => first | exact Sub.refl _ | with_reducible assumption | exact Sub.nil | (refine Sub.cons ?_; k_extra "sub") | (refine Sub.trans (by with_reducible assumption) ?_; k_extra "sub") | fail "sub"
  k_with "member" => assumption
  k_with "ite" => first | with_reducible refine ite_tt ?_ | with_reducible refine ite_ff ?_
  k_with "execs nil" => refine wpAny_execs_nil ?_
  k_with "dp" => first | exact dpLe | omega
  k_with "un" => first | exact unLe | omega
  k_with "storeName" => (k_here; k_dflt (first | (refine' storeI ?_; intro q1zz) | (refine' storeS ?_; intro q1zz) | (refine' storeF ?_; intro q1zz) | refine' storeR ?_); k_whole; intro hpzz kpzz mpzz Fpzz Npzz; (try k_sweep))
  k_with "execs cons" => first | refine lastK ?_ | (refine cutK ?_; intro Qzz azz) | (refine enterK ?_; intro Qzz azz)
  k_with "KQ" => first | refine nextK (by assumption) ?_ | refine retK (by assumption) ?_ | refine impK (by assumption) ?_ | refine contK (by assumption) ?_ | refine brkK (by assumption) ?_
  k_with "KS" => refine stopK (by assumption) ?_
  k_with "exec If" => (refine ifK ?_; intro Qzz azz)
  k_with "KB" => refine ifB (by assumption) ?_
  k_with "KV" => refine stopV (by assumption) ?_
  exact True.intro
structure RdOk (n : Nat) (lines : List Str) (ld : Nat → Ws) (sy : Nat → Bool × Nat) : Prop where
  len : lines.length = n + 2
  n60 : n ≤ 60
  sz : ∀ i, i ≤ n → (lines.getD i "").cps.size < 2 ^ 13
  ws : ∀ i, i < n → wsOf (lines.getD i "") = ld i
  wd : ∀ i, i < n → Txt.slice (lines.getD i "") (some (ld i).n) none = syS (sy i)
  we : Txt.slice (lines.getD n "") (some (wsOf (lines.getD n "")).n) none = Str.ofString ""
  sk : ∀ i, i < n → syOk (sy i)
  fm : ∀ i, i < n → ∀ j ∈ pileL ld i, FmtOk (nlw (ld j) (ld i)) ∧ (fmtF (nlw (ld j) (ld i)) != Str.ofString "at tab size ") = !(nlw (ld j) (ld i)).isEmpty
abbrev rdVars : List Str := ["page", "pile", "roots", "line", "lead", "word", "symbol", "node"]
/-- what the loop over the lines keeps -/
def RdJ (P : Params) (rest : List (Addr × Obj)) (ld : Nat → Ws) (sy : Nat → Bool × Nat) (pg pl ro : Addr) (i : Nat) (m' : Str → Option Value) (D' : List (Addr × Obj)) : Prop :=
  ∃ (ps' : Array Value) (na ka la pa : Nat → Addr) (kp kr : Nat), TriplesOk ps'.toList ∧ (89, tabObj ps') ∈ D' ∧ (pl, listOf ((pileL ld i).reverse.map fun c => Value.ref (pa c)).toArray kp) ∈ D' ∧ (ro, listOf ((rootsL ld i).map fun c => Value.ref (na c)).toArray kr) ∈ D' ∧
    RdI P ld sy pl ro na ka la pa i D' ∧ (∀ j, j < i → ∀ p ∈ rest, p.1 ≠ ka j) ∧ Vars m' (fun _ => none) rdVars [("page", .ref pg), ("pile", .ref pl), ("roots", .ref ro)]
def RdP (P : Params) (n : Nat) (ld : Nat → Ws) (sy : Nat → Bool × Nat) (rest : List (Addr × Obj)) (r : Value) (news' : List (Addr × Obj)) : Prop :=
  ∃ (ro pl : Addr) (na ka la pa : Nat → Addr) (kr : Nat), r = .ref ro ∧ (ro, listOf ((rootsL ld n).map fun c => Value.ref (na c)).toArray kr) ∈ news' ∧ RdI P ld sy pl ro na ka la pa n news' ∧ Sub rest news' ∧ ∃ ps' : Array Value, (89, tabObj ps') ∈ news'
theorem syS_ne {d : Nat} (h : d < 9) : (digitS d != Str.ofString "") = true := (by decide +kernel : ∀ d < 9, (digitS d != Str.ofString "") = true) d h
theorem list_no : Value.type "list" ≠ Value.type "list_iterator" := by decide
theorem rd_fin {P : Params} {ld : Nat → Ws} {sy : Nat → Bool × Nat} {pl ro pg I x nd kd pe : Nat} {na ka la pa : Nat → Addr} {i : Nat} {D₁ Lf rest : List (Addr × Obj)} {oI : Obj} {ps2 : Array Value} {t : Tok} {kp2 kr2 k1 k2 k3 : Nat} {m' : Str → Option Value}
    (HI : RdI P ld sy pl ro na ka la pa i D₁) (hoff : ∀ p ∈ D₁, p.1 ≠ I) (UL : UniqL Lf) (mI : (I, oI) ∈ Lf) (cI : oI.cls = .type "list_iterator") (ht2 : TriplesOk ps2.toList) (m89 : (89, tabObj ps2) ∈ Lf)
    (mpl : (pl, listOf ((popW ld (ld i) (pileL ld i)).reverse.map (fun c => Value.ref (pa c)) ++ [Value.ref pe]).toArray kp2) ∈ Lf)
    (mro : (ro, listOf ((rootsL ld i).map (fun c => Value.ref (na c)) ++ (if parL ld i = none then [Value.ref nd] else [])).toArray kr2) ∈ Lf)
    (s : ∀ p ∈ D₁, p.2.cls ≠ .none → (p.2.cls = .type "list" → p.1 ≠ pl ∧ p.1 ≠ ro ∧ ∀ j, parL ld i = some j → p.1 ≠ ka j) → p ∈ Lf)
    (hx : WsIn P Lf x (ld i)) (hn : (nd, listOf [.int (syI (sy i)) t, .ref kd].toArray k1) ∈ Lf) (hk : (kd, listOf ([] : List Value).toArray k2) ∈ Lf) (he : (pe, listOf [.ref x, .ref nd].toArray k3) ∈ Lf)
    (hj : ∀ j, parL ld i = some j → ∃ k, (ka j, listOf ((kidsL ld i j).map (fun c => Value.ref (na c)) ++ [Value.ref nd]).toArray k) ∈ Lf)
    (o1 : ∀ p ∈ D₁, @LT.lt Nat _ p.1 kd) (o2 : kd < nd) (o3 : nd < pe) (lpl : pl < kd) (lro : ro < kd) (hfr : ∀ j, j < i → ∀ p ∈ rest, p.1 ≠ ka j) (hfk : ∀ p ∈ rest, p.1 ≠ kd)
    (V : Vars m' (fun _ => none) rdVars [("page", .ref pg), ("pile", .ref pl), ("roots", .ref ro)]) : RdJ P rest ld sy pg pl ro (i + 1) m' (off I Lf) := by
  have ofI : ∀ p ∈ Lf, p.2.cls ≠ .type "list_iterator" → p ∈ off I Lf := fun p hp hc => off_mem hp fun e => hc (by
    have q := UL p.1 p.2 oI hp (by rw [e]; exact mI)
    rw [q]; exact cI)
  have q1 : ∀ j, j < i → @LT.lt Nat _ (na j) kd ∧ @LT.lt Nat _ (pa j) kd ∧ @LT.lt Nat _ (ka j) kd := fun j h => by
    obtain ⟨_, _, h1⟩ := HI.nd j h
    obtain ⟨_, h2⟩ := HI.en j h
    obtain ⟨_, h3⟩ := HI.kd j h
    exact ⟨o1 _ h1, o1 _ h2, o1 _ h3⟩
  refine ⟨ps2, atI na i nd, atI ka i kd, atI la i x, atI pa i pe, kp2, kr2, ht2, ofI _ m89 (by nofun), ofI _ (?_ : (pl, _) ∈ Lf) list_no, ofI _ (?_ : (ro, _) ∈ Lf) list_no, ?_, ?_, V⟩
  · have e : (pileL ld (i + 1)).reverse.map (fun c => Value.ref (atI pa i pe c)) = (popW ld (ld i) (pileL ld i)).reverse.map (fun c => Value.ref (pa c)) ++ [Value.ref pe] := by
      show ((i :: popW ld (ld i) (pileL ld i)).reverse).map _ = _
      rw [List.reverse_cons, List.map_append, map_atI fun c hc => pileL_lt c (popW_sub c (List.mem_reverse.mp hc))]
      show _ ++ [Value.ref (atI pa i pe i)] = _
      rw [atI_here]
    rw [e]; exact mpl
  · have e : (rootsL ld (i + 1)).map (fun c => Value.ref (atI na i nd c)) = (rootsL ld i).map (fun c => Value.ref (na c)) ++ (if parL ld i = none then [Value.ref nd] else []) := by
      rw [rootsL_succ, List.map_append, map_atI rootsL_lt]
      congr 1
      split
      · show [Value.ref (atI na i nd i)] = _
        rw [atI_here]
      · rfl
    rw [e]; exact mro
  · refine HI.step (t := t) (k1 := k1) (k2 := k2) (k3 := k3) (fun p hp h1 h2 => off_mem (s p hp h1 h2) (hoff p hp)) (hx.to fun p hp _ _ h3 => ofI p hp h3) (ofI _ hn list_no) (ofI _ hk list_no) (ofI _ he list_no) (fun j h => ?_) (fun j h => ?_) ?_ ?_
    · obtain ⟨k, h'⟩ := hj j h
      exact ⟨k, ofI _ h' list_no⟩
    · obtain ⟨a, b, c⟩ := q1 j h
      refine ⟨?_, ?_, ?_, ?_, ?_⟩ <;> exact fun (e : @Eq Nat _ _) => by lia
    · refine ⟨?_, ?_, ?_, ?_, ?_, ?_⟩ <;> exact fun (e : @Eq Nat _ _) => by lia
    · refine ⟨?_, ?_⟩ <;> exact fun (e : @Eq Nat _ _) => by lia
  · intro j h p hp
    rcases Nat.lt_succ_iff_lt_or_eq.mp h with h | rfl
    · rw [atI_ne h]; exact hfr j h p hp
    · rw [atI_here]; exact hfk p hp
end
section
theorem kw_Frd_0 : True := by
  k_with_none
  k_with "vat" => repeat' (first | exact List.forall_mem_nil _ | refine' List.forall_mem_cons.mpr ⟨?_, ?_⟩ | with_unfolding_all rfl)
  k_with "vrest" => first | ((repeat' (first | exact Vars.rest (by assumption) | exact vr_nil | exact vr_base | refine vr_upd ?_ (by with_unfolding_all rfl) | refine vr_set ?_ (by with_unfolding_all rfl))); done) | (intro zzz hzzz; (simp only [List.contains_cons, List.contains_nil, Bool.or_false, Bool.or_eq_false_iff, beq_eq_false_iff_ne, ne_eq] at hzzz); (simp [hzzz, upd, setL, baseOf, List.lookup]))
  k_with "exec For Name Name cons nil" => (refine' wpAny_For ?h ?hs; (case hs => (intro _; with_unfolding_all rfl)))
  k_with "exec For Name Call cons nil" => (refine' wpAny_For ?h ?hs; (case hs => (intro _; with_unfolding_all rfl)))
  k_with "exec For Name Attribute cons nil" => (refine' wpAny_For ?h ?hs; (case hs => (intro _; with_unfolding_all rfl)))
  k_with "sol" => all_goals (try (first | k_is | exact rfl | decide))
  k_with "sz" => first | omega | (simp only [List.length_append, List.length_cons, List.length_nil, List.length_map, List.length_replicate, List.length_reverse, List.length_set]; omega)
  k_with "sub" => first | exact Sub.refl _ | with_reducible assumption | exact Sub.nil | (refine Sub.cons ?_; k_extra "sub") | (refine Sub.trans (by with_reducible assumption) ?_; k_extra "sub") | fail "sub"
  k_with "member" => assumption
  k_with "ite" => first | with_reducible refine ite_tt ?_ | with_reducible refine ite_ff ?_
  k_with "execs nil" => refine wpAny_execs_nil ?_
  k_with "dp" => first | exact dpLe | omega
  k_with "un" => first | exact unLe | omega
  k_with "storeName" => (k_here; k_dflt (first | (refine' storeI ?_; intro q1zz) | (refine' storeS ?_; intro q1zz) | (refine' storeF ?_; intro q1zz) | refine' storeR ?_); k_whole; intro hpzz kpzz mpzz Fpzz Npzz; (try k_sweep))
  k_with "execs cons" => first | refine lastK ?_ | (refine cutK ?_; intro Qzz azz) | (refine enterK ?_; intro Qzz azz)
  k_with "KQ" => first | refine nextK (by assumption) ?_ | refine retK (by assumption) ?_ | refine impK (by assumption) ?_ | refine contK (by assumption) ?_ | refine brkK (by assumption) ?_
  k_with "KS" => refine stopK (by assumption) ?_
  k_with "exec If" => (refine ifK ?_; intro Qzz azz)
  k_with "KB" => refine ifB (by assumption) ?_
  k_with "KV" => refine stopV (by assumption) ?_
  k_with "exec While" => refine wpAny_While ?_
  k_with "exec While Compare" => refine wpAny_While ?_
  k_with "exec While BoolOp" => refine wpAny_While ?_
  k_with "eval ListComp" => (k_here; (with_reducible show wpAny _ _ (eval (PySem.Expr.ListComp _ [PySem.Comprehension.mk _ _ [] 0] _ _) _) _ _ _); k_dflt (refine LCg.ListComp_U (F₀ := by k_asm) (by with_unfolding_all rfl) (by decide) (by rfl) (by decide) (by rfl) ?_))
  k_with "eval ListComp" => (k_here; (with_reducible show wpAny _ _ (eval (PySem.Expr.ListComp _ [PySem.Comprehension.mk _ _ [_] 0] _ _) _) _ _ _); k_dflt (refine LCt.ListComp_T (F₀ := by k_asm) (by with_unfolding_all rfl) (by decide) (by rfl) (by decide) (by rfl) ?_))
  k_with "exec Assign cons ListComp" => (k_here; (with_reducible show wpAny _ _ (exec (PySem.Stmt.Assign [_] (PySem.Expr.ListComp _ [PySem.Comprehension.mk _ _ [] 0] _ _) _) _) _ _ _); k_dflt (refine LCg.Assign_ListComp_U (F₀ := by k_asm) (by rfl) (by with_unfolding_all rfl) (by with_unfolding_all rfl) (by decide) (by rfl) (by decide) (by rfl) (by rfl) (by rfl) ?_))
  k_with "exec Assign cons ListComp" => (k_here; (with_reducible show wpAny _ _ (exec (PySem.Stmt.Assign [_] (PySem.Expr.ListComp _ [PySem.Comprehension.mk _ _ [_] 0] _ _) _) _) _ _ _); k_dflt (refine LCt.Assign_ListComp_T (F₀ := by k_asm) (by rfl) (by with_unfolding_all rfl) (by with_unfolding_all rfl) (by decide) (by rfl) (by decide) (by rfl) (by rfl) (by rfl) ?_))
  k_with "CompSrc" => (k_here; refine Hold.mk ?_)
  k_with "CompSrcT" => (k_here; refine Hold.mk ?_)
  k_with "CompEnd" => (k_here; refine Hold.mk ?_)
  k_with "FinA" => (k_here; refine Hold.mk ?_)
  k_with "FinE" => (k_here; refine Hold.mk ?_)
  k_with "loadName" => (k_here; k_dflt (refine' ldnX ?k1 ?k2 ?_; (case k1 => k_asm); (case k2 => exact rfl); k_whole))
  k_with "newTuple" => (k_here; k_dflt (refine' tupR ?_); intro Dpzz hpzz kpzz Fpzz Npzz l1zz; (try k_lt l1zz); (try k_sweep))
  k_with "mem" => first | exact List.Mem.head _ | with_reducible assumption | (refine' List.mem_cons_of_mem _ ?_; k_extra "mem") | (refine' Sub.mem ?s ?m; (case s => with_reducible assumption); (case m => k_extra "mem")) | fail "mem"
  k_with "member" => k_extra "mem"
  k_with "call ref" => (k_here; refine Hold.mk ?_)
  k_with "compareOp In str ref" => (k_here; refine Hold.mk ?_)
  k_with "subscriptTail Name Slice str ref" => (k_here; refine Hold.mk ?_)
  k_with "subscriptTail Name Name ref str" => (k_here; refine Hold.mk ?_)
  k_with "subscriptTail Name UnaryOp ref int" => (k_here; refine Hold.mk ?_)
  k_with "subscriptTail Subscript Constant ref int" => (k_here; refine Hold.mk ?_)
  k_with "compareOp NotEq ref ref" => (k_here; refine Hold.mk ?_)
  k_with "compareOp Eq ref ref" => (k_here; refine Hold.mk ?_)
  k_with "compareOp NotEq str str" => (k_here; refine Hold.mk ?_)
  k_with "call builtin:list.append" => (k_here; refine Hold.mk ?_)
  k_with "call builtin:list.pop" => (k_here; refine Hold.mk ?_)
  k_with "call type:int" => (k_here; refine Hold.mk ?_)
  k_with "exec While BoolOp" => (k_here; refine wpAny_While ?_; refine Hold.mk ?_)
  k_with "exec While BoolOp cons nil" => (k_here; refine wpAny_While ?_; refine Hold.mk ?_)
  k_with "exec If" => (k_here; (with_reducible show wpAny _ _ (exec (PySem.Stmt.If (PySem.Expr.Compare _ [PySem.CmpOp.In] _ _) _ _ _) _) _ _ _); refine Hold.mk ?_)
  exact True.intro
theorem int_syS {prog : Program} {w : World} {A : Around} {E : Value → Shared → Prop} {s : Shared} {Q : Value → Shared → Prop} {t : Tok} {y : Bool × Nat} {d : Nat} (hy : y = (false, d)) (hd : d < 9) (h : Q (.int d s.toks) { s with toks := s.toks + 1 }) : wpAny (model prog w) A (call (.type "int") [.str (syS y) t]) Q E s := by
  subst hy
  exact int_digit hd h
set_option maxHeartbeats 8000000 in
theorem rd_spec {prog : Program} {w : World} {pg : Addr} {vs : List Value} {k0 n : Nat} {lines : List Str} {ld : Nat → Ws} {sy : Nat → Bool × Nat} {ps : Array Value} {rest : List (Addr × Obj)} (hl : (pg, listOf vs.toArray k0) ∈ rest) (hS : StrsAre vs lines) (ok : RdOk n lines ld sy) (ht : TriplesOk ps.toList) (hP : ∀ p ∈ rest, p.1 ≠ 89) :
    SpecG prog w 6 202 [.ref pg] ((89, tabObj ps) :: rest) (RdP w.params n ld sy rest) := by
  refine' SpecG.of [(Str.ofString "page", .ref pg)] ?_ ?_ ?_ ?_ ?_ ?_ ?_ ?_ ?_
  k_extra "sol"
  intro p loose mean mg mb dp un gd outer A₀ base g L' s A1 m0 E1 B F X N TP C0 AB hdp hun
  have hpgL : pg ≠ L' := (N _ (.tail _ hl)).2.1
  k_steps
  rename Fr _ _ _ _ => F1
  rename News _ _ _ _ => N1
  rename (_ < _ ∧ 89 < _ ∧ AllLt _ rest) => lt2
  rename (89 < _ ∧ AllLt _ rest) => lt1
  refine name_it (P := fun b => 89 < b ∧ AllLt b rest) lt1 fun pl epl => ?_
  subst epl
  refine name_it (P := fun b => pl < b ∧ 89 < b ∧ AllLt b rest) lt2 fun ro ero => ?_
  subst ero
  have dpr : pl ≠ ro := Nat.ne_of_lt lt2.1
  have dp9 : pl ≠ 89 := Nat.ne_of_gt lt1.1
  have dr9 : ro ≠ 89 := Nat.ne_of_gt lt2.2.1
  have rpl : ∀ p ∈ rest, p.1 ≠ pl := fun p hp => Nat.ne_of_lt (tb_ltOf lt1.2 p hp)
  have rro : ∀ p ∈ rest, p.1 ≠ ro := fun p hp => Nat.ne_of_lt (tb_ltOf lt2.2.2 p hp)
  have N1' : News g L' _ ([(89, tabObj ps), (pl, listOf ([] : List Value).toArray 0), (ro, listOf ([] : List Value).toArray 0)] ++ rest) := News.sub N1 (fun p hp => by
    simp only [List.mem_append, List.mem_cons, List.not_mem_nil, or_false] at hp ⊢
    rcases hp with (h | h | h) | h
    · exact .inr (.inr (.inl h))
    · exact .inr (.inl h)
    · exact .inl h
    · exact .inr (.inr (.inr h)))
  clear N1
  refine forLG (D := _) (news := rest) (G := OsB s) (News.isList N1' (.tail _ (.tail _ (.tail _ hl)))) hpgL F1 N1' (OsB.free _) (OsB.refl AB)
    (fun i m' D' => i ≤ n ∧ RdJ w.params rest ld sy pg pl ro i m' D') (RdJ w.params rest ld sy pg pl ro n) ?_ ?_ ?_ ?_
  · refine ⟨Nat.zero_le _, ps, fun _ => 0, fun _ => 0, fun _ => 0, fun _ => 0, 0, 0, ht, .head _, .tail _ (.head _), .tail _ (.tail _ (.head _)), ⟨?_, ?_, ?_, ?_, ?_, ?_, ?_, ?_, ?_⟩, ?_, ⟨?_, ?_⟩⟩
    all_goals first
      | (intro j hj; exact absurd hj (Nat.not_lt_zero _))
      | (intro j j' hj; exact absurd hj (Nat.not_lt_zero _))
      | skip
    · k_extra "vat"
    · k_extra "vrest"
  · intro J0 K0 i v m₁ D₁ rest2 s₁ I Q0 a0 hv hq1 hs hr hI hoI hoff hq2 F2 N2
    obtain ⟨hin, ps', na, ka, la, pa, kp, kr, ht', m89, mpl, mro, HI, hfr, V⟩ := hq1
    obtain ⟨eo, ab⟩ := hq2
    have hs' : ∀ p ∈ rest, p ∈ rest2 := hs
    clear F1 N1' hs
    have hsl := hS.length
    have okl := ok.len
    have hil : i < lines.length := by lia
    have hobt := hS.get i lines[i] (by simp [hil])
    obtain ⟨t, ht⟩ := hobt
    rw [hv] at ht
    cases ht
    clear hv
    have hlz := ok.sz i hin
    have hgd : lines.getD i "" = lines[i] := by simp [List.getD, hil]
    rw [hgd] at hlz
    generalize hline : lines[i] = line at F2 hlz
    refine V.frxL F2 ?_
    intro mv mw F3
    clear F2 V
    rw [hline] at hgd
    have hlz2 : line.length ≤ sizeLine := by
      have : line.length = line.cps.size := rfl
      rw [sizeLine_eq]; lia
    k_steps
    refine Hold.un ?_
    rename Fr _ _ _ _ => F4
    refine Spec.use (ws_spec (z := line) hlz) B F4 X N2 TP (by exact rfl) (by k_extra "dp") (by k_extra "un") ?_
    rintro r9 n9 h9 tk9 F5 N5 ⟨x9, rfl, w9, s9⟩
    clear F4 N2
    (have hobt := w9; rcases hobt with ⟨a1, a2, a3, a4, a5⟩)
    k_steps
    rename Fr _ _ _ _ => F6
    rename News _ _ _ _ => N6
    refine Hold.un ?_
    refine slice_strN_sn (s := ⟨_, _, _, _, _⟩) F6 N6 ?_ (hsz := hlz2)
    intro h7 t7 k7 F7 N7
    clear F6 N6
    rcases Nat.lt_or_eq_of_le hin with hin' | rfl
    · have hw := ok.wd i hin'
      have he := ok.ws i hin'
      have hk := ok.sk i hin'
      rw [hgd] at hw he
      clear a1 a2 a3 a4 a5
      rw [he] at w9 ⊢
      rw [hw]
      clear hw he hlz hlz2 hgd hline
      k_steps
      rename Fr _ _ _ _ => F8
      refine Hold.un ?_
      refine cutF (nw := n9) F8 (Str.ofString "symbol") (Value.int (syI (sy i))) ?_ ?_
      · refine wpAny_If ?_
        k_steps
        rename Fr _ _ _ _ => F9
        refine Hold.un ?_
        have hobt : ∃ q, sy i = q := ⟨_, rfl⟩
        obtain ⟨⟨y, d⟩, hy⟩ := hobt
        cases y
        · have hd : d < 9 := by rw [hy] at hk; exact hk
          have hsI : 256 + (d : Int) = syI (sy i) := by rw [hy]; rfl
          refine in_exact (r := none) F9 X (by rw [hy]; exact exact_digit hd) false rfl ?_
          k_steps
          refine Hold.un (ne_strB (b := true) (by rw [hy]; exact syS_ne hd) ?_)
          k_steps
          refine Hold.un ?_
          refine int_syS hy hd ?_
          k_steps
          rename Fr _ _ _ _ => F10
          rename News _ _ _ _ => N10
          refine frI F10 hsI ?_
          clear F10
          intro mx F10
          exact CutQ.mk F10 N10
        · have hd : d < 3 := by rw [hy] at hk; exact hk
          have hobt := exact_gate (P := w.params) hd
          obtain ⟨t9, e9⟩ := hobt
          have hsI : kindI d = syI (sy i) := by rw [hy]; rfl
          rw [hsI] at e9
          refine in_exact (r := some (.int (syI (sy i)) t9)) F9 X (by rw [hy]; rw [hy] at e9; exact e9) true rfl ?_
          k_steps
          rename Fr _ _ _ _ => F10
          refine Hold.un ?_
          refine at_exact F10 X (v := .int (syI (sy i)) t9) (by rw [hy]; rw [hy] at e9; exact e9) ?_
          k_steps
          rename Fr _ _ _ _ => F11
          rename News _ _ _ _ => N11
          exact CutQ.mk F11 N11
      · intro tok h20 tk20 mc F20 N20
        clear F8
        k_steps
        rename Fr _ _ _ _ => F21
        rename News _ _ _ _ => N21
        refine Hold.un ?_
        refine Spec.use (eof_spec _) B F21 X N21 TP (by exact rfl) (by k_extra "dp") (by k_extra "un") ?_
        rintro r9 n8 h9 tk9 F10 N10 ⟨rfl, rfl⟩
        rw [show decide (syI (sy i) = 0) = false from decide_eq_false (by have := (syI_pos (y := sy i)); simp only [hk, not_true_eq_false, or_false] at this; lia)]
        clear F21 N21
        k_steps
        rename Fr _ _ _ _ => F11
        rename News _ _ _ _ => N11
        rename (∀ p ∈ n9, p.1 < _) => lk0
        rename (_ < _ ∧ AllLt _ n9) => ln0
        refine name_it (P := fun b => ∀ p ∈ n9, p.1 < b) lk0 fun kd ekd => ?_
        subst ekd
        refine name_it (P := fun b => kd < b ∧ AllLt b n9) ln0 fun nd end_ => ?_
        subst end_
        have lnd := tb_ltOf ln0.2
        have s9' : ∀ p ∈ D₁, p ∈ n9 := fun p hp => s9 p (List.mem_append_left _ hp)
        refine name_led N11 fun W0 hW0 => ?_
        have U0 : UniqL W0 := by rw [hW0]; exact UniqL.of N11
        have hobt : ∃ t k, (nd, listOf [Value.int (syI (sy i)) t, .ref kd].toArray k) ∈ W0 := by rw [hW0]; exact ⟨_, _, .head _⟩
        obtain ⟨tn, kn, mnd⟩ := hobt
        have mkd : (kd, listOf ([] : List Value).toArray 0) ∈ W0 := by rw [hW0]; exact .tail _ (.head _)
        have sW : ∀ p ∈ n9, p ∈ W0 := by rw [hW0]; exact fun p hp => .tail _ (.tail _ hp)
        rw [← hW0] at N11
        clear hW0
        have lpl : pl < kd := lk0 _ (s9' _ mpl)
        have lro : ro < kd := lk0 _ (s9' _ mro)
        have lkn : kd < nd := ln0.1
        have hto := off2_to U0 (sW _ (s9' _ m89)) (sW _ (s9' _ mpl))
        have NE := pull2 N11 (sW _ (s9' _ m89)) (sW _ (s9' _ mpl)) dp9
        have hobt : ∃ E, E = off 89 (off pl W0) := ⟨_, rfl⟩
        obtain ⟨E0, hE0⟩ := hobt
        have r2E : ∀ p ∈ rest2, p ∈ E0 := by
          rw [hE0]
          intro p hp
          have hpW := sW _ (s9 p (List.mem_append_right _ hp))
          have h12 : p.1 ≠ pl ∧ p.1 ≠ 89 := by
            rcases hr p hp with h | h | h
            · exact ⟨rpl p h, hP p h⟩
            · rw [h]; exact ⟨fun e => hoff _ mpl e.symm, fun e => hoff _ m89 e.symm⟩
            · rw [h]; exact ⟨rpl _ hl, hP _ hl⟩
          exact off_mem (off_mem hpW h12.1) h12.2
        have hE9 : ∀ p ∈ E0, p.1 ≠ 89 := by rw [hE0]; exact fun p hp => off_ne p hp
        have hEp : ∀ p ∈ E0, p.1 ≠ pl := by rw [hE0]; exact fun p hp => off_ne p (off_sub p hp)
        rw [← hE0] at hto NE
        have UE : UniqL E0 := UniqL.sub (UniqL.of NE) fun p hp => .tail _ (.tail _ hp)
        have s9r : ∀ p ∈ rest2, p ∈ n9 := fun p hp => s9 p (List.mem_append_right _ hp)
        have r2o : ∀ p ∈ rest2, p.1 ≠ ro := fun p hp => by
          rcases hr p hp with h | h | h
          · exact rro p h
          · rw [h]; exact fun e => hoff _ mro e.symm
          · rw [h]; exact rro _ hl
        clear hE0 N11 U0 s9
        have HE : RdI w.params ld sy pl ro na ka la pa i E0 := HI.to fun p hp h1 h2 => hto p (sW _ (s9' _ hp)) h1 fun e => (h2 e).1
        have wE : WsIn w.params E0 x9 (ld i) := w9.to fun p hp h1 h2 _ => hto p (sW _ hp) h1 fun e => absurd e h2
        have mrE := hto _ (sW _ (s9' _ mro)) (by nofun) fun _ => dpr.symm
        have mndE := hto _ mnd (by nofun) fun _ => Nat.ne_of_gt (Nat.lt_trans lpl lkn)
        have mkdE := hto _ mkd (by nofun) fun _ => Nat.ne_of_gt lpl
        have mI0 : ∃ o, (I, o) ∈ E0 ∧ o.cls = .type "list_iterator" := hoI.imp fun o h => ⟨r2E _ h.1, h.2⟩
        have dEl : ∀ p ∈ D₁, p.2.cls ≠ .none → (p.2.cls = .type "list" → p.1 ≠ pl) → p ∈ E0 := fun p hp => hto p (sW _ (s9' _ hp))
        have wk := (wsOk_of (ok.sz i hin))
        rw [ok.ws i hin'] at wk
        refine Hold.un ?_
        refine whileG (n := (pileL ld i).length) (D := [(89, tabObj ps'), (pl, listOf ((pileL ld i).reverse.map fun c => Value.ref (pa c)).toArray kp)]) (news := E0) (G := OsB s) F11 NE ⟨eo, ab⟩
          (fun k D' => ∃ (ps2 : Array Value) (P : List Nat) (kp2 : Nat), TriplesOk ps2.toList ∧ D' = [(89, tabObj ps2), (pl, listOf (P.reverse.map fun c => Value.ref (pa c)).toArray kp2)] ∧ P.length = k ∧ P.length ≤ 60 ∧ (∀ j ∈ P, j ∈ pileL ld i) ∧ popW ld (ld i) P = popW ld (ld i) (pileL ld i))
          (fun D' => ∃ (ps2 : Array Value) (kp2 : Nat), TriplesOk ps2.toList ∧ D' = [(89, tabObj ps2), (pl, listOf ((popW ld (ld i) (pileL ld i)).reverse.map fun c => Value.ref (pa c)).toArray kp2)])
          ⟨ps', pileL ld i, kp, ht', rfl, rfl, Nat.le_trans pileL_len (Nat.le_trans hin ok.n60), fun _ h => h, rfl⟩ ?_ ?_
        · intro J0 K0 k D₂ s₂ Q0 S0 a0 b0 hq1 hq2 F12 N12
          obtain ⟨ps2, P, kp2, ht2, rfl, hPl, hP60, hPs, hpop⟩ := hq1
          obtain ⟨eo2, ab2⟩ := hq2
          have N12' : News g L' s₂.heap ((89, tabObj ps2) :: (pl, listOf (P.reverse.map fun c => Value.ref (pa c)).toArray kp2) :: E0) := N12
          have F12' : Fr g L' s₂.heap _ := F12
          clear F11 NE N12 F12
          cases P with
          | nil =>
            k_steps
            rename Fr _ _ _ _ => F13
            rename News _ _ _ _ => N13
            refine Hold.un ?_
            refine ne_nn N13 (.tail _ (.tail _ (.head _))) (.head _) (by lia) ?_
            k_steps
            refine ⟨_, [(89, tabObj ps2), (pl, _)], _, F13, N13, fun p hp => .tail _ hp, ⟨rfl, ps2, kp2, ht2, ?_⟩, ⟨eo2, ab2⟩⟩
            rw [← hpop]
            rfl
          | cons j r =>
            have hji := pileL_lt j (hPs j (.head _))
            have erev : ((j :: r).reverse.map fun c => Value.ref (pa c)) = (r.reverse.map fun c => Value.ref (pa c)) ++ [Value.ref (pa j)] := by simp
            rw [erev] at N12'
            k_steps
            rename Fr _ _ _ _ => F13
            rename News _ _ _ _ => N13
            refine Hold.un ?_
            refine ne_len N13 (.tail _ (.tail _ (.head _))) (.head _) (by simp) (by show un < cLine; lia) ?_
            k_steps
            rename News _ _ _ _ => N13
            refine Hold.un ?_
            refine lst_last N13 (.tail _ (.tail _ (.head _))) ?_
            k_steps
            rename News _ _ _ _ => N13
            refine Hold.un ?_
            have hobt := HE.en j hji
            obtain ⟨ke, hen⟩ := hobt
            refine lst_at (vs := [.ref (la j), .ref (na j)]) (x := .ref (la j)) N13 (.tail _ (.tail _ (.tail _ hen))) (by decide) rfl (show 2 < 2 ^ 62 by decide) ?_
            have wj := HE.ws j hji
            (have hobt := wj; rcases hobt with ⟨b1, b2, b3, b4, b5⟩)
            k_steps
            rename Fr _ _ _ _ => F14
            rename News _ _ _ _ => N14
            refine Hold.un ?_
            have wjk := wsOk_of (ok.sz j (by lia))
            rw [ok.ws j (by lia)] at wjk
            refine Spec.use (nlw_spec (u := ld j) (v := ld i) (wj.mono fun p hp => .tail _ (.tail _ (.tail _ hp))) (wE.mono fun p hp => .tail _ (.tail _ (.tail _ hp))) wjk wk) B F14 X N14 TP (by exact rfl) (by k_extra "dp") (by k_extra "un") ?_
            rintro r9 n8 h8 tk8 F15 N15 ⟨l8, v8, k8, rfl, m8, (d8 : DA _ _ _), s8⟩
            clear b1 b2 b3 b4 b5 F14 N14
            k_steps
            rename Fr _ _ _ _ => F16
            rename News _ _ _ _ => N16
            refine Hold.un ?_
            have hobt := ok.fm i hin' j (hPs j (.head _))
            obtain ⟨okf, okn⟩ := hobt
            refine fmt_call N16 m8 (s8 _ (.tail _ (.head _))) d8 (Sub.refl _) ht2 okf B F16 X TP C0 ab2 rfl (by k_extra "dp") (by k_extra "un") ?_
            intro t8 ps3 h3 g3 tk3 d3 ht3 ab3 F17 N17
            clear F16 N16
            k_steps
            rename Fr _ _ _ _ => F18
            refine Hold.un ?_
            refine ne_strB okn ?_
            have mp3 := off_mem (D := 89) (s8 _ (.tail _ (.tail _ (.head _)))) dp9
            have mE3 : ∀ p ∈ E0, p ∈ off 89 n8 := fun p hp => off_mem (s8 _ (.tail _ (.tail _ (.tail _ hp)))) (hE9 p hp)
            clear m8 d8 s8 okn okf
            cases hem : (nlw (ld j) (ld i)).isEmpty with
            | true =>
              k_steps
              rename Fr _ _ _ _ => F19
              rename News _ _ _ _ => N19
              have hpw : popW ld (ld i) (j :: r) = j :: r := by
                unfold popW
                rw [if_pos hem]
              rw [hpw] at hpop
              refine ⟨_, [(89, tabObj ps3), (pl, listOf ((r.reverse.map fun c => Value.ref (pa c)) ++ [Value.ref (pa j)]).toArray kp2)], _, F19, N19, ?_, ⟨rfl, ps3, kp2, ht3, ?_⟩, ⟨eo2, ab3⟩⟩
              rotate_left
              · rw [← hpop, erev]
              · intro p hp
                rcases List.mem_cons.mp hp with rfl | hp
                · exact .head _
                · rcases List.mem_cons.mp hp with rfl | hp
                  · exact .tail _ mp3
                  · exact .tail _ (mE3 p hp)
            | false =>
              have hpw : popW ld (ld i) (j :: r) = popW ld (ld i) r := by
                rw [popW]
                rw [if_neg (by rw [hem]; exact Bool.false_ne_true)]
              rw [hpw] at hpop
              k_steps
              rename Fr _ _ _ _ => F19
              rename News _ _ _ _ => N19
              refine Hold.un ?_
              refine kl_pop F19 (News.pull N19 (.tail _ mp3)) (kl_last_app (p := r.reverse.map fun c => Value.ref (pa c))) (Upd.head fun p hp => off_ne p hp) ?_ ?_
              · have h60 : r.length + 1 ≤ 60 := hP60
                rw [sizeLine_eq]; simp; lia
              intro h20 F20 N20
              clear F19 N19
              k_steps
              rename Fr _ _ _ _ => F21
              rename News _ _ _ _ => N21
              refine WTurn.next (k := r.length) (D' := [(89, tabObj ps3), (pl, listOf (r.reverse.map fun c => Value.ref (pa c)).toArray (kp2 + 1))]) (by rw [← hPl]; exact Nat.lt_succ_self _) F21 N21 ?_ ⟨eo2, ab3⟩ ⟨rfl, ps3, r, kp2 + 1, ht3, rfl, rfl, Nat.le_trans (Nat.le_succ _) hP60, fun q hq => hPs q (.tail _ hq), hpop⟩
              intro p hp
              rcases List.mem_cons.mp hp with rfl | hp
              · exact .tail _ (off_mem (.head _) fun e => dp9 e.symm)
              · rcases List.mem_cons.mp hp with rfl | hp
                · exact .head _
                · exact .tail _ (off_mem (.tail _ (mE3 p hp)) (hEp p hp))
        · intro D₂ s₂ hq1 hq2 F12 N12
          obtain ⟨ps2, kp2, ht2, rfl⟩ := hq1
          obtain ⟨eo2, ab2⟩ := hq2
          have N12' : News g L' s₂.heap ((89, tabObj ps2) :: (pl, listOf ((popW ld (ld i) (pileL ld i)).reverse.map fun c => Value.ref (pa c)).toArray kp2) :: E0) := N12
          have F12' : Fr g L' s₂.heap _ := F12
          clear F11 NE N12 F12
          have hpl60 : (popW ld (ld i) (pileL ld i)).length ≤ 60 := Nat.le_trans popW_len (Nat.le_trans pileL_len (Nat.le_trans hin ok.n60))
          cases hpW : popW ld (ld i) (pileL ld i) with
          | nil =>
            rw [hpW] at N12' hpl60
            k_steps
            rename Fr _ _ _ _ => F13
            rename News _ _ _ _ => N13
            refine Hold.un ?_
            refine eq_nn N13 (.tail _ (.tail _ (.head _))) (.head _) (by lia) ?_
            k_steps
            rename Fr _ _ _ _ => F14
            rename News _ _ _ _ => N14
            refine Hold.un ?_
            have hrl := rootsL_len (ld := ld) (i := i)
            have hn60 := ok.n60
            refine append_K F14 (News.pull N14 (.tail _ (.tail _ (.tail _ mrE)))) (Upd.head fun p hp => off_ne p hp) ?_ (by rw [sizeLine_eq]; simp; lia)
            intro h15 F15 N15
            have hpar : parL ld i = none := by unfold parL; rw [hpW]; rfl
            have N15' : News g L' h15 ((89, tabObj ps2) :: (pl, listOf #[] kp2) :: (ro, listOf ((rootsL ld i).map (fun c => Value.ref (na c)) ++ [Value.ref nd]).toArray (kr + 1)) :: off ro E0) := News.sub N15 fun p hp => by
              rcases List.mem_cons.mp hp with rfl | hp
              · exact .tail _ (off_mem (.tail _ (.head _)) fun e => dr9 e.symm)
              · rcases List.mem_cons.mp hp with rfl | hp
                · exact .tail _ (off_mem (.tail _ (.tail _ (.head _))) dpr)
                · rcases List.mem_cons.mp hp with rfl | hp
                  · rw [show ((rootsL ld i).map (fun c => Value.ref (na c)) ++ [Value.ref nd]).toArray = ((rootsL ld i).map (fun c => Value.ref (na c))).toArray.push (Value.ref nd) by simp]
                    exact .head _
                  · exact .tail _ (off_mem (.tail _ (.tail _ (.tail _ (off_sub p hp)))) (off_ne p hp))
            clear F14 N14 N15
            have hE1 : ∀ p ∈ off ro E0, p.1 ≠ pl := fun p hp => hEp p (off_sub p hp)
            have tE1 : ∀ p ∈ E0, p.1 ≠ ro → p ∈ off ro E0 := fun p hp h => off_mem hp h
            generalize off ro E0 = E1 at N15' hE1 tE1
            k_steps
            rename Fr _ _ _ _ => F16
            rename News _ _ _ _ => N16
            rename (_ < _ ∧ _ < _ ∧ ro < _ ∧ AllLt _ E1) => lp0
            refine name_it (P := fun b => 89 < b ∧ pl < b ∧ ro < b ∧ AllLt b E1) lp0 fun pe epe => ?_
            subst epe
            have lp1 := tb_ltOf lp0.2.2.2
            refine Hold.un ?_
            refine append_K F16 N16 (Upd.tail (Nat.ne_of_gt lp0.2.1) (Upd.tail dp9.symm (Upd.head fun p hp => ?_))) ?_ (by rw [sizeLine_eq]; decide)
            · rcases List.mem_cons.mp hp with rfl | hp
              · exact dpr.symm
              · exact hE1 p hp
            intro h17 F17 N17
            clear F16 N16
            k_steps
            rename Fr _ _ _ _ => F18
            have U17 := UniqL.of N17
            obtain ⟨oI, mI, cI⟩ := mI0
            have dI : I ≠ ro := fun e => hoff _ mro e.symm
            have mndO := tE1 _ mndE (Nat.ne_of_gt (Nat.lt_trans lro lkn))
            refine MTurn.next (D' := off I _) F18 N17 (Sub.app off_sub ?_) (fun p hp => off_ne p hp) ⟨eo2, ab2⟩ ⟨hin', rd_fin (kp2 := kp2 + 1) (kr2 := kr + 1) (x := x9) (nd := nd) (kd := kd) (pe := pe) HI hoff U17 (.tail _ (.tail _ (.tail _ (.tail _ (tE1 _ mI dI))))) cI ht2 (.tail _ (.head _)) ?_ ?_ ?_ ?_ (.tail _ (.tail _ (.tail _ (.tail _ mndO)))) (.tail _ (.tail _ (.tail _ (.tail _ (tE1 _ mkdE (Nat.ne_of_gt lro)))))) (.head _) ?_ (fun p hp => lk0 p (s9' p hp)) lkn (lp1 _ mndO) lpl lro hfr (fun p hp => Nat.ne_of_lt (lk0 p ?_)) ⟨?_, ?_⟩⟩
            · exact fun p hp => .tail _ (.tail _ (.tail _ (.tail _ (tE1 p (r2E p hp) (r2o p hp)))))
            · rw [hpW]
              exact .tail _ (.tail _ (.head _))
            · rw [if_pos hpar]
              exact .tail _ (.tail _ (.tail _ (.head _)))
            · intro p hp h1 h2
              have hpE := dEl p hp h1 fun e => (h2 e).1
              refine .tail _ (.tail _ (.tail _ (.tail _ (tE1 p hpE fun e => ?_))))
              have q := UE p.1 p.2 _ hpE (by rw [e]; exact mrE)
              exact (h2 (by rw [q])).2.1 e
            · refine wE.to fun p hp _ h2 _ => .tail _ (.tail _ (.tail _ (.tail _ (tE1 p hp fun e => ?_))))
              have q := UE p.1 p.2 _ hp (by rw [e]; exact mrE)
              exact h2 (by rw [q])
            · intro j h
              rw [hpar] at h
              cases h
            · exact s9r p (hs' p hp)
            · k_extra "vat"
            · k_extra "vrest"
          | cons j r =>
            rw [hpW] at N12' hpl60
            have hjP : j ∈ pileL ld i := popW_sub j (by rw [hpW]; exact .head _)
            have hji := pileL_lt j hjP
            have erev : ((j :: r).reverse.map fun c => Value.ref (pa c)) = (r.reverse.map fun c => Value.ref (pa c)) ++ [Value.ref (pa j)] := by simp
            rw [erev] at N12'
            have hpar : parL ld i = some j := by unfold parL; rw [hpW]; rfl
            have hobt := HE.en j hji
            obtain ⟨ke, hen⟩ := hobt
            have hobt := HE.nd j hji
            obtain ⟨te, kne, hne⟩ := hobt
            have hobt := HE.kd j hji
            obtain ⟨kk, hkd⟩ := hobt
            have hobt := HI.kd j hji
            obtain ⟨kk1, hkd1⟩ := hobt
            have dkp : ka j ≠ pl := (HI.n3 j hji).1
            have dkr : ka j ≠ ro := (HI.n3 j hji).2
            have dk9 : ka j ≠ 89 := hE9 _ hkd
            have lkj : ka j < kd := lk0 _ (s9' _ hkd1)
            k_steps
            rename Fr _ _ _ _ => F13
            rename News _ _ _ _ => N13
            refine Hold.un ?_
            refine eq_len N13 (.tail _ (.tail _ (.head _))) (.head _) (by simp) (by show un < cLine; lia) ?_
            k_steps
            rename News _ _ _ _ => N13
            refine Hold.un ?_
            refine lst_last N13 (.tail _ (.tail _ (.head _))) ?_
            k_steps
            rename News _ _ _ _ => N13
            refine Hold.un ?_
            refine lst_at (vs := [.ref (la j), .ref (na j)]) (x := .ref (na j)) N13 (.tail _ (.tail _ (.tail _ hen))) (by decide) rfl (show 2 < 2 ^ 62 by decide) ?_
            k_steps
            rename News _ _ _ _ => N13
            refine Hold.un ?_
            refine lst_at (vs := [.int (syI (sy j)) te, .ref (ka j)]) (x := .ref (ka j)) N13 (.tail _ (.tail _ (.tail _ hne))) (by decide) rfl (show 2 < 2 ^ 62 by decide) ?_
            k_steps
            rename Fr _ _ _ _ => F14
            rename News _ _ _ _ => N14
            refine Hold.un ?_
            have hrl := kidsL_len (ld := ld) (i := i) (j := j)
            have hn60 := ok.n60
            refine append_K F14 (News.pull N14 (.tail _ (.tail _ (.tail _ hkd)))) (Upd.head fun p hp => off_ne p hp) ?_ (by rw [sizeLine_eq]; simp; lia)
            intro h15 F15 N15
            have N15' : News g L' h15 ((89, tabObj ps2) :: (pl, listOf ((r.reverse.map fun c => Value.ref (pa c)) ++ [Value.ref (pa j)]).toArray kp2) :: (ka j, listOf ((kidsL ld i j).map (fun c => Value.ref (na c)) ++ [Value.ref nd]).toArray (kk + 1)) :: off (ka j) E0) := News.sub N15 fun p hp => by
              rcases List.mem_cons.mp hp with rfl | hp
              · exact .tail _ (off_mem (.tail _ (.head _)) fun e => dk9 e.symm)
              · rcases List.mem_cons.mp hp with rfl | hp
                · exact .tail _ (off_mem (.tail _ (.tail _ (.head _))) fun e => dkp e.symm)
                · rcases List.mem_cons.mp hp with rfl | hp
                  · rw [show ((kidsL ld i j).map (fun c => Value.ref (na c)) ++ [Value.ref nd]).toArray = ((kidsL ld i j).map (fun c => Value.ref (na c))).toArray.push (Value.ref nd) by simp]
                    exact .head _
                  · exact .tail _ (off_mem (.tail _ (.tail _ (.tail _ (off_sub p hp)))) (off_ne p hp))
            clear F14 N14 N15
            have hE1 : ∀ p ∈ off (ka j) E0, p.1 ≠ pl := fun p hp => hEp p (off_sub p hp)
            have tE1 : ∀ p ∈ E0, p.1 ≠ ka j → p ∈ off (ka j) E0 := fun p hp h => off_mem hp h
            have dI : I ≠ ka j := fun e => hoff _ hkd1 e.symm
            have r2k : ∀ p ∈ rest2, p.1 ≠ ka j := fun p hp => by
              rcases hr p hp with h | h | h
              · exact hfr j hji p h
              · rw [h]; exact dI
              · rw [h]; exact hfr j hji _ hl
            generalize off (ka j) E0 = E1 at N15' hE1 tE1
            clear hen hne
            k_steps
            rename Fr _ _ _ _ => F16
            rename News _ _ _ _ => N16
            rename (_ < _ ∧ _ < _ ∧ ka j < _ ∧ AllLt _ E1) => lp0
            refine name_it (P := fun b => 89 < b ∧ pl < b ∧ ka j < b ∧ AllLt b E1) lp0 fun pe epe => ?_
            subst epe
            have lp1 := tb_ltOf lp0.2.2.2
            refine Hold.un ?_
            refine append_K F16 N16 (Upd.tail (Nat.ne_of_gt lp0.2.1) (Upd.tail dp9.symm (Upd.head fun p hp => ?_))) ?_ (by have h60 : r.length + 1 ≤ 60 := hpl60; rw [sizeLine_eq]; simp; lia)
            · rcases List.mem_cons.mp hp with rfl | hp
              · exact dkp
              · exact hE1 p hp
            intro h17 F17 N17
            clear F16 N16
            k_steps
            rename Fr _ _ _ _ => F18
            have U17 := UniqL.of N17
            obtain ⟨oI, mI, cI⟩ := mI0
            have mndO := tE1 _ mndE (Nat.ne_of_gt (Nat.lt_trans lkj lkn))
            refine MTurn.next (D' := off I _) F18 N17 (Sub.app off_sub ?_) (fun p hp => off_ne p hp) ⟨eo2, ab2⟩ ⟨hin', rd_fin (kp2 := kp2 + 1) (kr2 := kr) (x := x9) (nd := nd) (kd := kd) (pe := pe) HI hoff U17 (.tail _ (.tail _ (.tail _ (.tail _ (tE1 _ mI dI))))) cI ht2 (.tail _ (.head _)) ?_ ?_ ?_ ?_ (.tail _ (.tail _ (.tail _ (.tail _ mndO)))) (.tail _ (.tail _ (.tail _ (.tail _ (tE1 _ mkdE (Nat.ne_of_gt lkj)))))) (.head _) ?_ (fun p hp => lk0 p (s9' p hp)) lkn (lp1 _ mndO) lpl lro hfr (fun p hp => Nat.ne_of_lt (lk0 p ?_)) ⟨?_, ?_⟩⟩
            · exact fun p hp => .tail _ (.tail _ (.tail _ (.tail _ (tE1 p (r2E p hp) (r2k p hp)))))
            · rw [hpW, erev, show (((r.reverse.map fun c => Value.ref (pa c)) ++ [Value.ref (pa j)]) ++ [Value.ref pe]).toArray = ((r.reverse.map fun c => Value.ref (pa c)) ++ [Value.ref (pa j)]).toArray.push (Value.ref pe) by simp]
              exact .tail _ (.tail _ (.head _))
            · rw [if_neg (by rw [hpar]; nofun), List.append_nil]
              exact .tail _ (.tail _ (.tail _ (.tail _ (tE1 _ mrE fun e => dkr e.symm))))
            · intro p hp h1 h2
              have hpE := dEl p hp h1 fun e => (h2 e).1
              refine .tail _ (.tail _ (.tail _ (.tail _ (tE1 p hpE fun e => ?_))))
              have q := UE p.1 p.2 _ hpE (by rw [e]; exact hkd)
              exact (h2 (by rw [q])).2.2 j hpar e
            · refine wE.to fun p hp _ h2 _ => .tail _ (.tail _ (.tail _ (.tail _ (tE1 p hp fun e => ?_))))
              have q := UE p.1 p.2 _ hp (by rw [e]; exact hkd)
              exact h2 (by rw [q])
            · intro j' h
              rw [hpar] at h
              cases h
              exact ⟨_, .tail _ (.tail _ (.tail _ (.head _)))⟩
            · exact s9r p (hs' p hp)
            · k_extra "vat"
            · k_extra "vrest"
    · have hw := ok.we
      rw [hgd] at hw
      clear a1 a2 a3 a4 a5
      rw [hw]
      clear hw hlz hlz2 hgd hline
      k_steps
      refine Hold.un ?_
      refine wpAny_If ?_
      k_steps
      rename Fr _ _ _ _ => F9
      refine Hold.un ?_
      refine in_exact (r := none) F9 X exact_emp false rfl ?_
      k_steps
      refine Hold.un (ne_strB (b := false) (by decide +kernel) ?_)
      k_steps
      rename Fr _ _ _ _ => F21
      rename News _ _ _ _ => N21
      refine Hold.un ?_
      refine Spec.use (eof_spec _) B F21 X N21 TP (by exact rfl) (by k_extra "dp") (by k_extra "un") ?_
      rintro r9 n8 h9 tk9 F10 N10 ⟨rfl, rfl⟩
      rw [show decide ((0 : Int) = 0) = true from rfl]
      clear F21 N21
      k_steps
      rename Fr _ _ _ _ => F22
      rename News _ _ _ _ => N22
      refine MTurn.brk (D' := D₁) F22 N22 s9 ⟨eo, ab⟩ ⟨ps', na, ka, la, pa, kp, kr, ht', m89, mpl, mro, HI, hfr, ⟨?_, ?_⟩⟩
      · k_extra "vat"
      · k_extra "vrest"
  · rintro m' D' ⟨h, _⟩
    have := hS.length
    have := ok.len
    lia
  · intro m' D' s' hq1 hq2 F2 N2
    obtain ⟨ps', na, ka, la, pa, kp, kr, ht', m89, mpl, mro, HI, hfr, V⟩ := hq1
    obtain ⟨eo, ab⟩ := hq2
    refine V.frL F2 ?_
    intro mv F3
    clear F2 F1 N1' V
    k_steps
    rename Fr _ _ _ _ => F4
    exact ⟨eo, ab, _, _, F4, N2, ro, pl, na, ka, la, pa, kr, rfl, List.mem_append_left _ mro, HI.mono fun p hp => List.mem_append_left _ hp, fun p hp => List.mem_append_right _ hp, ps', List.mem_append_left _ m89⟩
end
section
theorem kw_Klaw_0 : True := by
  k_with_none
  k_with "vat" => repeat' (first | exact List.forall_mem_nil _ | refine' List.forall_mem_cons.mpr ⟨?_, ?_⟩ | with_unfolding_all rfl)
  k_with "vrest" => first | ((repeat' (first | exact Vars.rest (by assumption) | exact vr_nil | exact vr_base | refine vr_upd ?_ (by with_unfolding_all rfl) | refine vr_set ?_ (by with_unfolding_all rfl))); done) | (intro zzz hzzz; (simp only [List.contains_cons, List.contains_nil, Bool.or_false, Bool.or_eq_false_iff, beq_eq_false_iff_ne, ne_eq] at hzzz); (simp [hzzz, upd, setL, baseOf, List.lookup]))
  k_with "exec For Name Name cons nil" => (refine' wpAny_For ?h ?hs; (case hs => (intro _; with_unfolding_all rfl)))
  k_with "exec For Name Call cons nil" => (refine' wpAny_For ?h ?hs; (case hs => (intro _; with_unfolding_all rfl)))
  k_with "exec For Name Attribute cons nil" => (refine' wpAny_For ?h ?hs; (case hs => (intro _; with_unfolding_all rfl)))
  k_with "sol" => all_goals (try (first | k_is | exact rfl | decide))
  k_with "sz" => first | omega | (simp only [List.length_append, List.length_cons, List.length_nil, List.length_map, List.length_replicate, List.length_reverse, List.length_set]; omega)
  k_with "sub" => first | exact Sub.refl _ | with_reducible assumption | exact Sub.nil | (refine Sub.cons ?_; k_extra "sub") | (refine Sub.trans (by with_reducible assumption) ?_; k_extra "sub") | fail "sub"
  k_with "member" => assumption
  k_with "ite" => first | with_reducible refine ite_tt ?_ | with_reducible refine ite_ff ?_
  k_with "execs nil" => refine wpAny_execs_nil ?_
  k_with "dp" => first | exact dpLe | omega
  k_with "un" => first | exact unLe | omega
  k_with "storeName" => (k_here; k_dflt (first | (refine' storeI ?_; intro q1zz) | (refine' storeS ?_; intro q1zz) | (refine' storeF ?_; intro q1zz) | refine' storeR ?_); k_whole; intro hpzz kpzz mpzz Fpzz Npzz; (try k_sweep))
  k_with "execs cons" => first | refine lastK ?_ | (refine cutK ?_; intro Qzz azz) | (refine enterK ?_; intro Qzz azz)
  k_with "KQ" => first | refine nextK (by assumption) ?_ | refine retK (by assumption) ?_ | refine impK (by assumption) ?_ | refine contK (by assumption) ?_ | refine brkK (by assumption) ?_
  k_with "KS" => refine stopK (by assumption) ?_
  k_with "exec If" => (refine ifK ?_; intro Qzz azz)
  k_with "KB" => refine ifB (by assumption) ?_
  k_with "KV" => refine stopV (by assumption) ?_
  exact True.intro
/-- the end of the law: True came back, generators are bare, the tables have grown -/
theorem kn_postB {M : Model} {A : Around} {cd : Code} {s s₁ : Shared} {cw : ClaimW} {cl : Str → Option Addr} {mean : ExcName → Option Value} {args : List WData} {tabs : List (Addr × Addr)} (hT : TabsAt tabs s₁.heap) (hr : ∀ a x, cw.raises a x = false)
    (hp : cw.post args (.bool true) args = true)
    (h : codeAny M A cd (fun r s' => r = .ok (.ret (.bool true)) ∧ (∀ b o, (ghostOf s₁.heap tabs).get? b = some o → s'.heap.get? b = some o) ∧ s'.os = s₁.os ∧ AllBare s'.gens ∧ GrownAll tabs s'.heap) s) : codeAny M A cd (GoodWG cw cl mean args s₁) s :=
  codeAny_mono h fun r s' ⟨he, hk, hos, hg, hgr⟩ => by
    have keep : ∀ b o, b ∉ tabs.map (·.2) → s₁.heap.get? b = some o → s'.heap.get? b = some o := fun b o hb e => hk b o (ghost_ne e hb)
    have grown : ∀ b o, b ∈ tabs.map (·.2) → s₁.heap.get? b = some o → isCodeTable s₁.heap b ∧ o = tabObj #[] ∧ ∃ ps, s'.heap.get? b = some (tabObj ps) := fun b o hb e => by
      obtain ⟨q, hq, rfl⟩ := List.mem_map.mp hb
      have e2 := (hT q hq).2
      rw [e] at e2
      exact ⟨((hT q hq).1.tab (hT q hq).2).isCodeTable, Option.some.inj e2, hgr.get q hq⟩
    refine ⟨.inl ⟨.bool true, .bool true, [], he, fun cls => hr _ _, .bool _, hp, fun _ => ⟨.nil, fun _ h => nomatch h⟩⟩, ⟨fun b o e => ?_, fun b o e => ?_⟩, hos, hg⟩
    · by_cases hb : b ∈ tabs.map (·.2)
      · obtain ⟨ht, rfl, ps, hP⟩ := grown b o hb e
        exact .inr (.inl ⟨ht, rfl, #[], ps, rfl, by rw [Array.empty_append]; exact hP⟩)
      · exact .inl (keep b o hb e)
    · by_cases hb : b ∈ tabs.map (·.2)
      · obtain ⟨_, _, ps, hP⟩ := grown b o hb e
        exact ⟨_, hP⟩
      · exact ⟨o, keep b o hb e⟩
theorem post_ok (args : List WData) : PySem.Challenge.rw_uj0011_01.row.toRowW.claim.post args (.bool true) args = true := by
  show (WShape.has PySem.Challenge.rw_uj0011_01.row.toRowW.records (.bool true) .bool && (WTm.eq .res (.lit (.bool true))).holds PySem.Challenge.rw_uj0011_01.row.toRowW.records { args := args, res := some (.bool true), after := args }) = true
  simp [WShape.has, WShape.arms, WTm.holds, WTm.value, PySem.W.same]
  done
/-- what the plain law says of the outline of a drawn formula -/
structure PlainOk (t : Tr) : Prop where
  len : (wr t [0, 1] 0 0).length = 10
  nag : ∃ ns : Nat → Nat, ∀ i < 3, NagOk ((wr t [0, 1] 0 0).getD (3 + i * 3 - 2) "") ((wr t [0, 1] 0 0).getD (3 + i * 3) "") (ns i)
  rd : ∃ ld sy, RdOk 10 (wr t [0, 1] 0 0 ++ [Str.ofString "\t \t", Str.ofString "\t|"]) ld sy ∧ rootsL ld 10 = [0] ∧
    ∀ (P : Params) (pl ro : Addr) (na ka la pa : Nat → Addr) (news : List (Addr × Obj)), RdI P ld sy pl ro na ka la pa 10 news → ∃ TT : AT, TT.addr = na 0 ∧ TT.In lI gI news ∧ TT.tr = t
theorem SpecH.use {prog : Program} {w : World} {n : Nat} {f : Addr} {vs : List Value} {H : Heap → Prop} {news : List (Addr × Obj)} {Post : Value → List (Addr × Obj) → Prop} (C : SpecH prog w n f vs H news Post)
    {p : Program} {loose : List Str} {mean : ExcName → Option Value} {mg mb : Str → Option Value} {dp un : Nat} {gd : Option (List Code)} {cn : Str} {cs : Scope} {L a : Addr} {ccd : Value} {cl : List (Str × Addr)} {outer : List Env} {A₀ : Around} {base h₀ : Heap} {m : Str → Option Value} {s : Shared} {Q E : Value → Shared → Prop}
    (B : Below A₀ base outer h₀) (F : Fr h₀ L s.heap m) (X : (hd.heap_1 w.params).In h₀) (hH : H h₀) (N : News h₀ L s.heap news) (T : Top p loose mean mg mb h₀) (hke : cs.kind = .function) (hdp : dp + n < recursionLimit) (hun : un + 8 * n + 100 < cLine)
    (ret : ∀ r news' h' tk', Fr h₀ L h' m → News h₀ L h' news' → Post r news' → Q r { s with heap := h', toks := tk' }) :
    wpAny (model prog w) (ktrTop dp un gd cn cs L a ccd cl outer) (call (.ref f) vs) Q E s := C p loose mean mg mb dp un gd cn cs L a ccd cl outer A₀ base h₀ m s Q E B F X hH N T hke hdp hun ret
def LawD (s : Shared) (g : Heap) (L : Addr) (fl : Flow) (s' : Shared) : Prop :=
  fl = .ret (.bool true) ∧ s'.os = s.os ∧ AllBare s'.gens ∧ ∃ m' ps1 ps2 rest', Fr g L s'.heap m' ∧ News g L s'.heap ((252, tabObj ps1) :: (89, tabObj ps2) :: rest')
/-- the law's body, wherever it is entered -/
def LawWalk (prog : Program) (w : World) (qual : Str) (scope : Scope) (body : List Stmt) : Prop :=
  ∀ (dp un : Nat) (gd : Option (List Code)) (L fa l : Addr) (vs : List Value) (ns : List Int) (A₀ : Around) (base g : Heap) (p : Program) (loose : List Str) (mean : ExcName → Option Value) (mg mb : Str → Option Value) (s : Shared) (cells : List (Addr × Obj)), let A1 := ktrTop dp un gd qual scope L fa (.ref 256) (cellsFrom (L + 1) scope.names []) []; let E1 := envX qual scope L fa (.ref 256) (cellsFrom (L + 1) scope.names []);
    Below A₀ base [] g → Fr g L s.heap (bindL (envOfC qual scope L fa (.ref 256)).kindOf [(Str.ofString "script", .ref l)] fun _ => none) → (hd.heap_1 w.params).In g → News g L s.heap (cells ++ [(252, tabObj #[]), (89, tabObj #[])]) →
    CellsAre (bindC (envOfC qual scope L fa (.ref 256)).kindOf [(Str.ofString "script", .ref l)] fun _ => none) (cellsFrom (L + 1) scope.names []) cells →
    Top p loose mean mg mb g → CodeHd g 256 252 → CodeHd g 93 89 → AllBare s.gens → g.IsList l vs.toArray → IntsAre vs ns → ns.length ≤ 63 → @LT.lt Nat _ 252 L ∧ @LT.lt Nat _ 89 L → dp + 100 < recursionLimit → un + 1000 < cLine →
    wpAny (model prog w) A1 (execs body E1) (LawD s g L) (fun _ _ => False) s
def LawS (prog : Program) (w : World) : Prop :=
  ∃ (name qual : Str) (params : Arguments) (body : List Stmt) (scope : Scope) (dV kV doc pm ct oc : Value) (an od : Option Addr) (osl : Array (Option Value)),
    (hd.heap_1 w.params).lookup 257 = some ⟨oc, od, .func (fnOf name qual params body scope dV kV doc pm an (.ref 256) ct), osl⟩ ∧ LawWalk prog w qual scope body
theorem LawS.of {prog : Program} {w : World} {name qual : Str} {params : Arguments} {body : List Stmt} {scope : Scope} {dV kV doc pm ct oc : Value} {an od : Option Addr} {osl : Array (Option Value)}
    (ho : (hd.heap_1 w.params).lookup 257 = some ⟨oc, od, .func (fnOf name qual params body scope dV kV doc pm an (.ref 256) ct), osl⟩) (h : LawWalk prog w qual scope body) : LawS prog w := ⟨_, _, _, _, _, _, _, _, _, _, _, _, _, _, ho, h⟩
theorem LawS.walk {prog : Program} {w : World} {name qual : Str} {params : Arguments} {body : List Stmt} {scope : Scope} {dV kV doc pm ct oc : Value} {an od : Option Addr} {osl : Array (Option Value)} (W : LawS prog w)
    (ho : (hd.heap_1 w.params).lookup 257 = some ⟨oc, od, .func (fnOf name qual params body scope dV kV doc pm an (.ref 256) ct), osl⟩) : LawWalk prog w qual scope body := by
  obtain ⟨_, _, _, _, _, _, _, _, _, _, _, _, _, _, e, h⟩ := W
  rw [e] at ho
  injection ho with ho
  injection ho with q1 q2 q3 q4
  injection q3 with q3
  injection q3 with r1 r2 r3 r4 r5
  injection r4 with r4
  subst r2; subst r4; subst r5
  exact h
theorem off_cell {c : Addr} {o : Obj} {v : Option Value} {news : List (Addr × Obj)} (U : UniqL news) (hc : (c, o) ∈ news) (hd : o.data = .cell v) : ∀ a its k, (a, listOf its k) ∈ news → (a, listOf its k) ∈ off c news := fun a its k h => off_mem h fun e => by
  have q := U a _ _ h (by rw [show a = c from e]; exact hc)
  rw [← q] at hd
  cases hd
theorem off_celltab {c : Addr} {o : Obj} {v : Option Value} {news : List (Addr × Obj)} (U : UniqL news) (hc : (c, o) ∈ news) (hd : o.data = .cell v) : ∀ a ps, (a, tabObj ps) ∈ news → (a, tabObj ps) ∈ off c news := fun a ps h => off_mem h fun e => by
  have q := U a _ _ h (by rw [show a = c from e]; exact hc)
  rw [← q] at hd
  cases hd
theorem ne_intB {prog : Program} {w : World} {A : Around} {E : Value → Shared → Prop} {s : Shared} {x y : Int} {t u : Tok} {Q : Value → Shared → Prop} {b : Bool} (hb : (x != y) = b) (h : Q (.bool b) s) : wpAny (model prog w) A (compareOp .NotEq (.int x t) (.int y u)) Q E s := by
  subst hb
  exact ne_int h
theorem eq_intB {prog : Program} {w : World} {A : Around} {E : Value → Shared → Prop} {s : Shared} {x y : Int} {t u : Tok} {Q : Value → Shared → Prop} {b : Bool} (hb : (x == y) = b) (h : Q (.bool b) s) : wpAny (model prog w) A (compareOp .Eq (.int x t) (.int y u)) Q E s := by
  subst hb
  exact eq_int h
theorem SpecW.use {prog : Program} {w : World} {n : Nat} {f : Addr} {vs : List Value} {kw : List (Str × Value)} {news : List (Addr × Obj)} {Post : Value → List (Addr × Obj) → Prop} (C : SpecW prog w n f vs kw news Post)
    {p : Program} {loose : List Str} {mean : ExcName → Option Value} {mg mb : Str → Option Value} {dp un : Nat} {gd : Option (List Code)} {cn : Str} {cs : Scope} {L a : Addr} {ccd : Value} {cl : List (Str × Addr)} {outer : List Env} {A₀ : Around} {base h₀ : Heap} {m : Str → Option Value} {s : Shared} {Q E : Value → Shared → Prop}
    (B : Below A₀ base outer h₀) (F : Fr h₀ L s.heap m) (X : (hd.heap_1 w.params).In h₀) (N : News h₀ L s.heap news) (T : Top p loose mean mg mb h₀) (hke : cs.kind = .function) (hdp : dp + n < recursionLimit) (hun : un + 8 * n + 100 < cLine)
    (ret : ∀ r news' h' tk', Fr h₀ L h' m → News h₀ L h' news' → Post r news' → Q r { s with heap := h', toks := tk' }) :
    wpAny (model prog w) (ktrTop dp un gd cn cs L a ccd cl outer) (call (.ref f) vs kw) Q E s := C p loose mean mg mb dp un gd cn cs L a ccd cl outer A₀ base h₀ m s Q E B F X N T hke hdp hun ret
def DoneV (g : Heap) (L' : Addr) (s : Shared) (Post : Value → List (Addr × Obj) → Prop) (v : Value) (s' : Shared) : Prop :=
  Same s s' ∧ ∃ m' news', Fr g L' s'.heap m' ∧ News g L' s'.heap news' ∧ Post v news'
/-- a lambda of the ledger -/
theorem Spec.ofLam {prog : Program} {w : World} {need : Nat} {f c' : Addr} {vs : List Value} {news : List (Addr × Obj)} {Post : Value → List (Addr × Obj) → Prop}
    {name qual : Str} {params : Arguments} {body : Expr} {scope : Scope} {cl : List (Str × Addr)} {pm ctv : Value} {oc : Obj} {cvs : Array Value} {tq : Tok} (binds : List (Str × Value))
    (ho : (f, kla_obj name qual params body scope cl pm c' ctv) ∈ news) (hc : (c', oc) ∈ news) (hdd : oc.data = .fields cvs) (hv : cvs[1]? = some (.str qual tq))
    (hbind : bindArgs (kla_fn name qual params body scope cl pm (.ref c') ctv) ⟨vs, []⟩ = pure binds) (hloc : (binds.all fun x => decide (scope.names.lookup x.1 = some .local)) = true)
    (h : ∀ (p : Program) (loose : List Str) (mean : ExcName → Option Value) (mg mb : Str → Option Value) (dp un : Nat) (gd : Option (List Code)) (outer : List Env) (A₀ : Around) (base g : Heap) (L' : Addr) (s : Shared),
      Below A₀ base outer g → Fr g L' s.heap (setL (fun _ => none) binds.reverse) → (hd.heap_1 w.params).In g → News g L' s.heap news → Top p loose mean mg mb g → dp + need < recursionLimit → un + 8 * need + 100 < cLine →
      wpAny (model prog w) (ktrTop dp un gd qual scope L' f (.ref c') cl outer) (eval body (envX qual scope L' f (.ref c') cl)) (DoneV g L' s Post) (fun _ _ => False) s)
    (hco : scope.isCoroutine = false) (hgen : scope.isGenerator = false) (hk : scope.kind = .function) (hcell : ∀ x ∈ scope.names, x.2 ≠ .cell) :
    Spec prog w (need + 1) f vs news Post := by
  intro p loose mean mg mb dp un gd cn cs L a ccd cl₀ outer A₀ base h₀ m s Q E B F X N T hke hdp hun ret
  refine wpAny_call ?_
  refine kla_code (binds := binds) B F X N T rfl rfl hke ho (codeRec_news N hc hdd hv) (Nat.lt_of_le_of_lt (Nat.le_add_right _ _) hdp) hbind (locs hloc) (fun g L' h₁ FG F' N' B' X' T' => ?_) hco hgen hk hcell
  rw [hm_setL] at F'
  refine wpAny_mono (h p loose mean mg mb (dp + 1) (un + 3) gd (envX cn cs L a ccd cl₀ :: outer) _ base g L' { s with heap := h₁, toks := s.toks + binds.length } B' F' X' N' T' (by lia) (by lia)) (fun v s' hd => ?_) fun _ _ e => e.elim
  obtain ⟨⟨h', tk', rfl⟩, m', news', F₂, N₂, P⟩ := hd
  exact leaveK_ F₂ N₂ fun F₃ N₃ => ret _ _ _ _ F₃ N₃ P
theorem hide_it {α : Type} {P : α → Prop} {a : α} (h : P a) {C : Prop} (k : ∀ b, b = a → P b → C) : C := k a rfl h
theorem mem_eq {a : Addr} {o o' : Obj} {n : List (Addr × Obj)} (h : (a, o) ∈ n) (e : o = o') : (a, o') ∈ n := e ▸ h
theorem cnt_due (l : Int) : ∀ t : Tr, t.ok → t.cnt l = decide (l ≤ t.due)
  | .leaf d, _ => by
    show _ = decide (l ≤ (d : Int))
    unfold Tr.cnt
    try rfl
  | .gate k x y z, h => by
    show _ = decide (l ≤ med3 k x.due y.due z.due)
    unfold Tr.cnt
    rw [cnt_due l x h.2.1, cnt_due l y h.2.2.1, cnt_due l z h.2.2.2]
    have D : ∀ a b : Int, decide (l ≤ max a b) = (decide (l ≤ a) || decide (l ≤ b)) := fun a b => (decide_eq_decide.2 le_maxI).trans (Bool.decide_or _ _)
    have d : ∀ a b : Int, decide (l ≤ min a b) = (decide (l ≤ a) && decide (l ≤ b)) := fun a b => (decide_eq_decide.2 Int.le_min).trans (Bool.decide_and _ _)
    have go : ∀ p q r : Bool, decide (1 ≤ p.toNat + q.toNat + r.toNat) = (p || (q || r)) ∧ decide (3 ≤ p.toNat + q.toNat + r.toNat) = (p && (q && r)) ∧ decide (2 ≤ p.toNat + q.toNat + r.toNat) = ((p && q) || ((p || q) && r)) := by decide
    rcases kind3 h.1 with rfl | rfl | rfl
    · show _ = decide (l ≤ max x.due (max y.due z.due))
      rw [D, D]; exact (go _ _ _).1
    · show _ = decide (l ≤ min x.due (min y.due z.due))
      rw [d, d]; exact (go _ _ _).2.1
    · show _ = decide (l ≤ max (min x.due y.due) (min (max x.due y.due) z.due))
      rw [D, d, d, D]; exact (go _ _ _).2.2
theorem due_mem : ∀ t : AT, t.tr.ok → t.tr.due ∈ t.lvs.map fun q => (q.2.2 : Int)
  | .leaf a b d, _ => .head _
  | .gate a b k x y z, h => by
    show med3 k x.tr.due y.tr.due z.tr.due ∈ (x.lvs ++ (y.lvs ++ z.lvs)).map _
    rw [List.map_append, List.map_append]
    exact med3_or (P := fun v => v ∈ _) (List.mem_append_left _ (due_mem x h.2.1)) (List.mem_append_right _ (List.mem_append_left _ (due_mem y h.2.2.1))) (List.mem_append_right _ (List.mem_append_right _ (due_mem z h.2.2.2)))
/-- where bisect lands: the last light not above the worth -/
theorem place_facts {lns : List Int} {due : Int} {np : Nat} (hs : Srt lns) (hm : due ∈ lns) (npl : np ≤ lns.length) (h1 : ∀ i, i < np → lns.getD i 0 ≤ due) (h2 : ∀ i, np ≤ i → i < lns.length → due < lns.getD i 0) :
    1 ≤ np ∧ lns.getD (np - 1) 0 = due ∧ ∀ r, Bis lns due r → r = np := by
  obtain ⟨i, hi, e⟩ := List.getElem_of_mem hm
  have e' : lns.getD i 0 = due := by rw [List.getD_eq_getElem?_getD, List.getElem?_eq_getElem hi]; exact e
  have hin : i < np := by
    rcases Nat.lt_or_ge i np with h | h
    · exact h
    · have := h2 i h hi; lia
  refine ⟨by lia, ?_, fun r hr => ?_⟩
  · have a := hs i (np - 1) (by lia) (by lia)
    have b := h1 (np - 1) (by lia)
    lia
  · obtain ⟨le, lo, hi'⟩ := hr
    rcases Nat.lt_trichotomy r np with h | h | h
    · have a := hi' r (Nat.le_refl _) (by lia)
      have b := h1 r h
      lia
    · exact h
    · have a := h2 np (Nat.le_refl _) (by lia)
      have b := lo np h
      lia
theorem rot3 {a b c : Int} {va vb vc : Value} {ta tb tc : Tok} (n : Nat) (hn : n < 3) (e1 : va = .int a ta) (e2 : vb = .int b tb) (e3 : vc = .int c tc) (ra : 0 ≤ a ∧ a ≤ 8) (rb : 0 ≤ b ∧ b ≤ 8) (rc : 0 ≤ c ∧ c ≤ 8) :
    ∃ a' b' c', IntsAre ([va, vb, vc].drop n ++ [va, vb, vc].take n) [a', b', c'] ∧ medI a' b' c' = medI a b c ∧ (0 ≤ a' ∧ a' ≤ 8) ∧ (0 ≤ b' ∧ b' ≤ 8) ∧ (0 ≤ c' ∧ c' ≤ 8) := by
  subst e1; subst e2; subst e3
  obtain ⟨a, rfl⟩ := Int.eq_ofNat_of_zero_le ra.1
  obtain ⟨b, rfl⟩ := Int.eq_ofNat_of_zero_le rb.1
  obtain ⟨c, rfl⟩ := Int.eq_ofNat_of_zero_le rc.1
  obtain ⟨m1, m2⟩ := (by decide +kernel : ∀ a < 9, ∀ b < 9, ∀ c < 9, medI ((b : Nat) : Int) ((c : Nat) : Int) ((a : Nat) : Int) = medI a b c ∧ medI ((c : Nat) : Int) ((a : Nat) : Int) ((b : Nat) : Int) = medI a b c) a (Nat.lt_succ_of_le (Int.ofNat_le.mp ra.2)) b (Nat.lt_succ_of_le (Int.ofNat_le.mp rb.2)) c (Nat.lt_succ_of_le (Int.ofNat_le.mp rc.2))
  match n, hn with
  | 0, _ => exact ⟨a, b, c, .cons _ _ (.cons _ _ (.cons _ _ .nil)), rfl, ra, rb, rc⟩
  | 1, _ => exact ⟨b, c, a, .cons _ _ (.cons _ _ (.cons _ _ .nil)), m1, rb, rc, ra⟩
  | 2, _ => exact ⟨c, a, b, .cons _ _ (.cons _ _ (.cons _ _ .nil)), m2, rc, ra, rb⟩
theorem lvs_ok : ∀ t : AT, t.tr.ok → ∀ q ∈ t.lvs, q.2.2 < 9
  | .leaf a b d, h, q, hq => by rw [List.mem_singleton.mp hq]; exact h
  | .gate a b k x y z, h, q, hq => by
    rcases List.mem_append.mp hq with hq | hq
    · exact lvs_ok x h.2.1 q hq
    · rcases List.mem_append.mp hq with hq | hq
      · exact lvs_ok y h.2.2.1 q hq
      · exact lvs_ok z h.2.2.2 q hq
theorem name_tok {h₀ h : Heap} {L l3 : Addr} {va vc : Value} {q : Int} {t : Tok} {n : Nat} {W : List (Addr × Obj)} (N : News h₀ L h ((l3, listOf [va, Value.int q t, vc].toArray n) :: W)) {C : Prop} (k : ∀ t', News h₀ L h ((l3, listOf [va, Value.int q t', vc].toArray n) :: W) → C) : C := k t N
theorem LawD.mk {s s' : Shared} {g : Heap} {L : Addr} {m' : Str → Option Value} {p1 p2 : Array Value} {news : List (Addr × Obj)} (F : Fr g L s'.heap m') (N : News g L s'.heap news) (m1 : (252, tabObj p1) ∈ news) (m2 : (89, tabObj p2) ∈ news) (eo : s'.os = s.os) (ab : AllBare s'.gens) :
    LawD s g L (.ret (.bool true)) s' := ⟨rfl, eo, ab, m', p1, p2, [], F, fun p hp => by
  rcases List.mem_cons.mp hp with rfl | hp
  · exact N _ m1
  · rw [List.mem_singleton.mp hp]
    exact N _ m2⟩
end
section
theorem kw_Kpl_0 : True := by
  k_with_none
  k_with "vat" => repeat' (first | exact List.forall_mem_nil _ | refine' List.forall_mem_cons.mpr ⟨?_, ?_⟩ | with_unfolding_all rfl)
  k_with "vrest" => first | ((repeat' (first | exact Vars.rest (by assumption) | exact vr_nil | exact vr_base | refine vr_upd ?_ (by with_unfolding_all rfl) | refine vr_set ?_ (by with_unfolding_all rfl))); done) | (intro zzz hzzz; (simp only [List.contains_cons, List.contains_nil, Bool.or_false, Bool.or_eq_false_iff, beq_eq_false_iff_ne, ne_eq] at hzzz); (simp [hzzz, upd, setL, baseOf, List.lookup]))
  k_with "exec For Name Name cons nil" => (refine' wpAny_For ?h ?hs; (case hs => (intro _; with_unfolding_all rfl)))
  k_with "exec For Name Call cons nil" => (refine' wpAny_For ?h ?hs; (case hs => (intro _; with_unfolding_all rfl)))
  k_with "exec For Name Attribute cons nil" => (refine' wpAny_For ?h ?hs; (case hs => (intro _; with_unfolding_all rfl)))
  k_with "sol" => all_goals (try (first | k_is | exact rfl | decide))
  k_with "sz" => first | omega | (simp only [List.length_append, List.length_cons, List.length_nil, List.length_map, List.length_replicate, List.length_reverse, List.length_set]; omega)
  k_with "sub" => first | exact Sub.refl _ | with_reducible assumption | exact Sub.nil | (refine Sub.cons ?_; k_extra "sub") | (refine Sub.trans (by with_reducible assumption) ?_; k_extra "sub") | fail "sub"
  k_with "member" => assumption
  k_with "ite" => first | with_reducible refine ite_tt ?_ | with_reducible refine ite_ff ?_
  k_with "execs nil" => refine wpAny_execs_nil ?_
  k_with "dp" => first | exact dpLe | omega
  k_with "un" => first | exact unLe | omega
  k_with "storeName" => (k_here; k_dflt (first | (refine' storeI ?_; intro q1zz) | (refine' storeS ?_; intro q1zz) | (refine' storeF ?_; intro q1zz) | refine' storeR ?_); k_whole; intro hpzz kpzz mpzz Fpzz Npzz; (try k_sweep))
  k_with "execs cons" => first | refine lastK ?_ | (refine cutK ?_; intro Qzz azz) | (refine enterK ?_; intro Qzz azz)
  k_with "KQ" => first | refine nextK (by assumption) ?_ | refine retK (by assumption) ?_ | refine impK (by assumption) ?_ | refine contK (by assumption) ?_ | refine brkK (by assumption) ?_
  k_with "KS" => refine stopK (by assumption) ?_
  k_with "exec If" => (refine ifK ?_; intro Qzz azz)
  k_with "KB" => refine ifB (by assumption) ?_
  k_with "KV" => refine stopV (by assumption) ?_
  exact True.intro
/-- the labels of a tree, as they are written -/
def Tr.lbs : Tr → List (Bool × Nat)
  | .leaf d => [(false, d)]
  | .gate k x y z => (true, k) :: (x.lbs ++ (y.lbs ++ z.lbs))
def wl : Tr → List Nat → Nat → Nat → List (List Nat)
  | .leaf _, rs, b, n => [leadL rs b n]
  | .gate _ x y z, rs, b, n => leadL rs b n :: (wl x (rs ++ [b]) 0 (n + 1) ++ (wl y rs (b + 2) (n + 1 + x.sz) ++ wl z (rs ++ [b + 1]) 0 (n + 1 + x.sz + y.sz)))
theorem lbs_len : ∀ t : Tr, t.lbs.length = t.sz
  | .leaf _ => rfl
  | .gate k x y z => by
    show (_ :: (x.lbs ++ (y.lbs ++ z.lbs))).length = 1 + (x.sz + (y.sz + z.sz))
    rw [List.length_cons, List.length_append, List.length_append, lbs_len x, lbs_len y, lbs_len z, Nat.add_comm]
theorem wl_len : ∀ (t : Tr) (rs : List Nat) (b n : Nat), (wl t rs b n).length = t.sz
  | .leaf _, _, _, _ => rfl
  | .gate k x y z, rs, b, n => by
    show (_ :: (wl x _ _ _ ++ (wl y _ _ _ ++ wl z _ _ _))).length = 1 + (x.sz + (y.sz + z.sz))
    rw [List.length_cons, List.length_append, List.length_append, wl_len x, wl_len y, wl_len z, Nat.add_comm]
theorem wr_zip : ∀ (t : Tr) (rs : List Nat) (b n : Nat), wr t rs b n = List.zipWith (fun l y => strL l ++ syS y) (wl t rs b n) t.lbs
  | .leaf _, _, _, _ => rfl
  | .gate k x y z, rs, b, n => by
    show lineS rs b n (kindS k) :: (wr x _ _ _ ++ (wr y _ _ _ ++ wr z _ _ _)) = _ :: List.zipWith _ (wl x _ _ _ ++ (wl y _ _ _ ++ wl z _ _ _)) (x.lbs ++ (y.lbs ++ z.lbs))
    rw [List.zipWith_append (by rw [wl_len, lbs_len]), List.zipWith_append (by rw [wl_len, lbs_len]), wr_zip x, wr_zip y, wr_zip z]
    rfl
theorem sz_bare : ∀ t : Tr, t.bare.sz = t.sz
  | .leaf _ => rfl
  | .gate k x y z => by
    show 1 + (x.bare.sz + (y.bare.sz + z.bare.sz)) = 1 + (x.sz + (y.sz + z.sz))
    rw [sz_bare x, sz_bare y, sz_bare z]
theorem wl_bare : ∀ (t : Tr) (rs : List Nat) (b n : Nat), wl t.bare rs b n = wl t rs b n
  | .leaf _, _, _, _ => rfl
  | .gate k x y z, rs, b, n => by
    show _ :: (wl x.bare _ _ _ ++ (wl y.bare _ _ _ ++ wl z.bare _ _ _)) = _ :: (wl x _ _ _ ++ (wl y _ _ _ ++ wl z _ _ _))
    rw [wl_bare x, wl_bare y, wl_bare z, sz_bare x, sz_bare y]
theorem lbs_ok : ∀ t : Tr, t.ok → ∀ y ∈ t.lbs, syOk y
  | .leaf d, h, y, hy => by rw [List.mem_singleton.mp hy]; exact h
  | .gate k x y z, h, q, hq => by
    rcases List.mem_cons.mp hq with rfl | hq
    · exact h.1
    · rcases List.mem_append.mp hq with hq | hq
      · exact lbs_ok x h.2.1 q hq
      · rcases List.mem_append.mp hq with hq | hq
        · exact lbs_ok y h.2.2.1 q hq
        · exact lbs_ok z h.2.2.2 q hq
/-- a label is one sign, neither blank nor tab -/
def syC (y : Bool × Nat) : Nat := if y.1 = true then (if y.2 = 0 then 124 else if y.2 = 1 then 38 else 94) else 48 + y.2
theorem syS_eq {y : Bool × Nat} (h : syOk y) : syS y = strL [syC y] ∧ syC y ≠ 32 ∧ syC y ≠ 9 := by
  obtain ⟨b, n⟩ := y
  cases b
  · exact (by decide +kernel : ∀ d < 9, syS (false, d) = strL [syC (false, d)] ∧ syC (false, d) ≠ 32 ∧ syC (false, d) ≠ 9) n h
  · exact (by decide +kernel : ∀ d < 3, syS (true, d) = strL [syC (true, d)] ∧ syC (true, d) ≠ 32 ∧ syC (true, d) ≠ 9) n h
theorem strL_cps (l : List Nat) : (strL l).cps.toList = l := by unfold strL; simp
theorem takeWhile_app {p : Nat → Bool} {c : Nat} : ∀ {l : List Nat}, (∀ x ∈ l, p x = true) → p c = false → (l ++ [c]).takeWhile p = l
  | [], _, h => by simp [h]
  | a :: l, hl, h => by
    rw [List.cons_append, List.takeWhile_cons, hl a (.head _), if_pos rfl, takeWhile_app (fun x hx => hl x (.tail _ hx)) h]
theorem wsOf_line {l : List Nat} {y : Bool × Nat} (hl : l.all blank = true) (hy : syOk y) : wsOf (strL l ++ syS y) = wsL l := by
  obtain ⟨e, h1, h2⟩ := syS_eq hy
  rw [e, strL_add]
  unfold wsOf
  rw [strL_cps, takeWhile_app (fun x hx => List.all_eq_true.mp hl x hx) (by unfold blank; simp [h1, h2])]
theorem wsL_n (l : List Nat) : (wsL l).n = l.length := by
  have key : ∀ (l : List Nat) (u : Ws), (l.foldl wsStep u).n = u.n + l.length := by
    intro l
    induction l with
    | nil => intro u; simp
    | cons c l ih =>
      intro u
      rw [List.foldl_cons, ih]
      have : (wsStep u c).n = u.n + 1 := by unfold wsStep; split <;> rfl
      rw [this, List.length_cons]
      lia
  have := key l ⟨[], 0, 0, 0⟩
  unfold wsL
  rw [this]
  simp
end
section
theorem kw_Kpl2_0 : True := by
  k_with_none
  k_with "vat" => repeat' (first | exact List.forall_mem_nil _ | refine' List.forall_mem_cons.mpr ⟨?_, ?_⟩ | with_unfolding_all rfl)
  k_with "vrest" => first | ((repeat' (first | exact Vars.rest (by assumption) | exact vr_nil | exact vr_base | refine vr_upd ?_ (by with_unfolding_all rfl) | refine vr_set ?_ (by with_unfolding_all rfl))); done) | (intro zzz hzzz; (simp only [List.contains_cons, List.contains_nil, Bool.or_false, Bool.or_eq_false_iff, beq_eq_false_iff_ne, ne_eq] at hzzz); (simp [hzzz, upd, setL, baseOf, List.lookup]))
  k_with "exec For Name Name cons nil" => (refine' wpAny_For ?h ?hs; (case hs => (intro _; with_unfolding_all rfl)))
  k_with "exec For Name Call cons nil" => (refine' wpAny_For ?h ?hs; (case hs => (intro _; with_unfolding_all rfl)))
  k_with "exec For Name Attribute cons nil" => (refine' wpAny_For ?h ?hs; (case hs => (intro _; with_unfolding_all rfl)))
  k_with "sol" => all_goals (try (first | k_is | exact rfl | decide))
  k_with "sz" => first | omega | (simp only [List.length_append, List.length_cons, List.length_nil, List.length_map, List.length_replicate, List.length_reverse, List.length_set]; omega)
  k_with "sub" => first | exact Sub.refl _ | with_reducible assumption | exact Sub.nil | (refine Sub.cons ?_; k_extra "sub") | (refine Sub.trans (by with_reducible assumption) ?_; k_extra "sub") | fail "sub"
  k_with "member" => assumption
  k_with "ite" => first | with_reducible refine ite_tt ?_ | with_reducible refine ite_ff ?_
  k_with "execs nil" => refine wpAny_execs_nil ?_
  k_with "dp" => first | exact dpLe | omega
  k_with "un" => first | exact unLe | omega
  k_with "storeName" => (k_here; k_dflt (first | (refine' storeI ?_; intro q1zz) | (refine' storeS ?_; intro q1zz) | (refine' storeF ?_; intro q1zz) | refine' storeR ?_); k_whole; intro hpzz kpzz mpzz Fpzz Npzz; (try k_sweep))
  k_with "execs cons" => first | refine lastK ?_ | (refine cutK ?_; intro Qzz azz) | (refine enterK ?_; intro Qzz azz)
  k_with "KQ" => first | refine nextK (by assumption) ?_ | refine retK (by assumption) ?_ | refine impK (by assumption) ?_ | refine contK (by assumption) ?_ | refine brkK (by assumption) ?_
  k_with "KS" => refine stopK (by assumption) ?_
  k_with "exec If" => (refine ifK ?_; intro Qzz azz)
  k_with "KB" => refine ifB (by assumption) ?_
  k_with "KV" => refine stopV (by assumption) ?_
  exact True.intro
theorem slice_tail (l : List Nat) (c : Nat) : Txt.slice (strL (l ++ [c])) (some (l.length : Int)) none = strL [c] := by
  have hlen : (strL (l ++ [c])).length = l.length + 1 := by rw [strL_len]; simp
  have e : PySem.Builtin.Str.strSliceIndices (some (l.length : Int)) none 1 (l.length + 1) = [l.length] := by
    unfold PySem.Builtin.Str.strSliceIndices PySem.sliceRange
    have h1 : (max 0 (min (if ((l.length : Nat) : Int) < 0 then ((l.length : Nat) : Int) + ((l.length + 1 : Nat) : Int) else ((l.length : Nat) : Int)) ((l.length + 1 : Nat) : Int)) : Int) = ((l.length : Nat) : Int) := by split <;> lia
    simp only [show (1 : Int) > 0 by decide, if_true, h1]
    rw [if_pos (by lia), show (((l.length + 1 : Nat) : Int) - ((l.length : Nat) : Int) + 1 - 1) / 1 = 1 by lia]
    show [(((l.length : Nat) : Int) + 1 * ((0 : Nat) : Int)).toNat] = _
    congr 1
  unfold Txt.slice
  rw [hlen, e]
  cases l with
  | nil => rfl
  | cons a l =>
    rw [if_neg (by simp)]
    have h2 : (strL (a :: l ++ [c])).cps[(a :: l).length]? = some c := by unfold strL; simp
    show Str.mk (List.filterMap _ [_]).toArray = _
    rw [List.filterMap_cons, h2]
    rfl
theorem colF_app {size : Int} {l : List Nat} {c : Nat} (h1 : c ≠ 32) (h2 : c ≠ 9) : colF size (l ++ [c]) = colF size l := by
  unfold colF
  rw [List.foldl_append]
  show colStep size _ c = _
  unfold colStep
  rw [if_neg h1, if_neg h2]
theorem witF_app {u v : List Nat} {c d n : Nat} (c1 : c ≠ 32) (c2 : c ≠ 9) (d1 : d ≠ 32) (d2 : d ≠ 9) : witF (u ++ [c]) (v ++ [d]) n = witF u v n := by
  have e : rowsF (u ++ [c]) (v ++ [d]) n = rowsF u v n := by
    unfold rowsF
    refine List.map_congr_left fun j _ => ?_
    rw [colF_app c1 c2, colF_app d1 d2]
  unfold witF
  rw [e]
/-- m blanks in a row -/
def runL (m : Nat) (l : List Nat) : Bool := (List.range (l.length + 1)).any fun i => decide (i + m ≤ l.length) && ((l.drop i).take m).all (· == 32)
theorem hasRun_eq {z : Str} {m : Nat} (hm : m ≤ 20) : hasRun z (m : Int) = runL m z.cps.toList := by
  have hz : z.length = z.cps.toList.length := by simp [Str.length]
  have key : ∀ i, i + m ≤ z.cps.toList.length → (PySem.Builtin.Str.subAt z (strL (List.replicate m 32)) i = ((z.cps.toList.drop i).take m).all (· == 32)) := by
    intro i hi
    unfold PySem.Builtin.Str.subAt
    rw [strL_len, List.length_replicate]
    rw [Bool.eq_iff_iff, beq_iff_eq, ← Array.toList_inj, Array.toList_extract, strL_cps, List.all_eq_true]
    show List.take (i + m - i) (List.drop i z.cps.toList) = _ ↔ _
    rw [show i + m - i = m by lia, List.eq_replicate_iff]
    constructor
    · rintro ⟨_, h⟩ x hx
      rw [h x hx]; rfl
    · intro h
      exact ⟨by rw [List.length_take, List.length_drop]; lia, fun x hx => by simpa using h x hx⟩
  unfold hasRun
  rw [mul_blank hm]
  rw [Bool.eq_iff_iff, StrLaws.found_iff, strL_len, List.length_replicate, hz]
  unfold runL
  rw [List.any_eq_true]
  constructor
  · rintro ⟨i, h1, h2⟩
    refine ⟨i, List.mem_range.mpr (by lia), ?_⟩
    rw [← key i h1, h2, decide_eq_true h1]; rfl
  · rintro ⟨i, h1, h2⟩
    rw [Bool.and_eq_true] at h2
    have h3 := of_decide_eq_true h2.1
    exact ⟨i, h3, by rw [key i h3]; exact h2.2⟩
/-- only blanks and the rest are told apart -/
def nrm (l : List Nat) : List Nat := l.map fun c => if c = 32 then 32 else 0
theorem all_nrm (l : List Nat) : (nrm l).all (· == 32) = l.all (· == 32) := by
  unfold nrm
  rw [List.all_map]
  congr 1
  funext c
  show ((if c = 32 then 32 else 0) == 32) = (c == 32)
  by_cases h : c = 32
  · rw [if_pos h, h]
  · rw [if_neg h]
    have : (c == 32) = false := by simpa using h
    rw [this]; rfl
theorem runL_nrm (m : Nat) (l : List Nat) : runL m (nrm l) = runL m l := by
  unfold runL
  have hl : (nrm l).length = l.length := by unfold nrm; rw [List.length_map]
  rw [hl]
  congr 1
  funext i
  congr 1
  rw [← all_nrm ((l.drop i).take m)]
  unfold nrm
  rw [List.map_take, List.map_drop]
theorem nrm_line {u v : List Nat} {c d : Nat} (h1 : c ≠ 32) (h2 : d ≠ 32) : nrm ((u ++ [c]) ++ (v ++ [d])) = nrm ((u ++ [0]) ++ (v ++ [0])) := by
  unfold nrm
  simp [h1, h2]
/-- sizes below ten -/
structure Rows9 (rows : List (Int × Int × Int)) : Prop where
  n : rows.length ≤ 9
  b : ∀ r ∈ rows, 0 ≤ r.1 ∧ r.1 < 10
def rows9 (rows : List (Int × Int × Int)) : Bool := decide (rows.length ≤ 9) && rows.all fun r => decide (0 ≤ r.1) && decide (r.1 < 10)
theorem rows9_ok {rows : List (Int × Int × Int)} (h : rows9 rows = true) : Rows9 rows := by
  unfold rows9 at h
  rw [Bool.and_eq_true, List.all_eq_true] at h
  refine ⟨of_decide_eq_true h.1, fun r hr => ?_⟩
  have := h.2 r hr
  rw [Bool.and_eq_true] at this
  exact ⟨of_decide_eq_true this.1, of_decide_eq_true this.2⟩
theorem rowT_len {r : Int × Int × Int} (h : 0 ≤ r.1 ∧ r.1 < 10) : (rowT r).length = 1 := by
  obtain ⟨d, hd⟩ : ∃ d : Nat, r.1 = (d : Int) := ⟨r.1.toNat, by lia⟩
  unfold rowT
  rw [hd]
  exact (by decide +kernel : ∀ d < 10, (Str.ofString (toString ((d : Nat) : Int))).length = 1) d (by lia)
theorem rows_sum {rows : List (Int × Int × Int)} (h : ∀ r ∈ rows, 0 ≤ r.1 ∧ r.1 < 10) : ((rows.map rowT).map (·.length)).sum = rows.length := by
  induction rows with
  | nil => rfl
  | cons r rows ih =>
    rw [List.map_cons, List.map_cons, List.sum_cons, rowT_len (h r (.head _)), ih fun x hx => h x (.tail _ hx), List.length_cons]
    lia
theorem comma_len : (Str.ofString ", ").length = 2 := by decide +kernel
theorem joinF_len {rows : List (Int × Int × Int)} (h : Rows9 rows) : (joinF rows).length ≤ 27 := by
  unfold joinF
  rw [show Txt.join (Str.ofString ", ") (rows.map rowT) = Str.join (Str.ofString ", ") (rows.map rowT) from StrLaws.glued_eq_join _ _]
  have h1 := StrLaws.join_length_le (Str.ofString ", ") (rows.map rowT)
  rw [rows_sum h.b, List.length_map, comma_len] at h1
  have := h.n
  lia
theorem fold_len (sep : Nat) : ∀ (l : List Str) (a : Nat), l.foldl (fun x (y : Str) => x + y.length + sep) a = a + (l.map (·.length)).sum + l.length * sep
  | [], a => by simp
  | x :: l, a => by
    rw [List.foldl_cons, fold_len sep l, List.map_cons, List.sum_cons, List.length_cons, Nat.succ_mul]
    lia
theorem fmtOk9 {rows : List (Int × Int × Int)} (h : Rows9 rows) : FmtOk rows := by
  have hn := h.n
  have hs := rows_sum h.b
  refine ⟨by lia, fun r hr => by have := h.b r hr; lia, ?_, by have := joinF_len h; lia, ?_⟩
  · unfold JoinOk
    rw [List.foldl_toArray, fold_len, hs, List.length_map, comma_len]
    unfold PySem.Builtin.Str.tooLong
    rw [sizeLine_eq]
    simp; lia
  · rw [hs, List.length_map, comma_len]; lia
end
section
theorem kw_Kpl3_0 : True := by
  k_with_none
  k_with "vat" => repeat' (first | exact List.forall_mem_nil _ | refine' List.forall_mem_cons.mpr ⟨?_, ?_⟩ | with_unfolding_all rfl)
  k_with "vrest" => first | ((repeat' (first | exact Vars.rest (by assumption) | exact vr_nil | exact vr_base | refine vr_upd ?_ (by with_unfolding_all rfl) | refine vr_set ?_ (by with_unfolding_all rfl))); done) | (intro zzz hzzz; (simp only [List.contains_cons, List.contains_nil, Bool.or_false, Bool.or_eq_false_iff, beq_eq_false_iff_ne, ne_eq] at hzzz); (simp [hzzz, upd, setL, baseOf, List.lookup]))
  k_with "exec For Name Name cons nil" => (refine' wpAny_For ?h ?hs; (case hs => (intro _; with_unfolding_all rfl)))
  k_with "exec For Name Call cons nil" => (refine' wpAny_For ?h ?hs; (case hs => (intro _; with_unfolding_all rfl)))
  k_with "exec For Name Attribute cons nil" => (refine' wpAny_For ?h ?hs; (case hs => (intro _; with_unfolding_all rfl)))
  k_with "sol" => all_goals (try (first | k_is | exact rfl | decide))
  k_with "sz" => first | omega | (simp only [List.length_append, List.length_cons, List.length_nil, List.length_map, List.length_replicate, List.length_reverse, List.length_set]; omega)
  k_with "sub" => first | exact Sub.refl _ | with_reducible assumption | exact Sub.nil | (refine Sub.cons ?_; k_extra "sub") | (refine Sub.trans (by with_reducible assumption) ?_; k_extra "sub") | fail "sub"
  k_with "member" => assumption
  k_with "ite" => first | with_reducible refine ite_tt ?_ | with_reducible refine ite_ff ?_
  k_with "execs nil" => refine wpAny_execs_nil ?_
  k_with "dp" => first | exact dpLe | omega
  k_with "un" => first | exact unLe | omega
  k_with "storeName" => (k_here; k_dflt (first | (refine' storeI ?_; intro q1zz) | (refine' storeS ?_; intro q1zz) | (refine' storeF ?_; intro q1zz) | refine' storeR ?_); k_whole; intro hpzz kpzz mpzz Fpzz Npzz; (try k_sweep))
  k_with "execs cons" => first | refine lastK ?_ | (refine cutK ?_; intro Qzz azz) | (refine enterK ?_; intro Qzz azz)
  k_with "KQ" => first | refine nextK (by assumption) ?_ | refine retK (by assumption) ?_ | refine impK (by assumption) ?_ | refine contK (by assumption) ?_ | refine brkK (by assumption) ?_
  k_with "KS" => refine stopK (by assumption) ?_
  k_with "exec If" => (refine ifK ?_; intro Qzz azz)
  k_with "KB" => refine ifB (by assumption) ?_
  k_with "KV" => refine stopV (by assumption) ?_
  exact True.intro
theorem str_len_add (a b : Str) : (a ++ b).length = a.length + b.length := by
  show (a.cps ++ b.cps).size = a.cps.size + b.cps.size
  exact Array.size_append
theorem joinF_pos {r : Int × Int × Int} {rows : List (Int × Int × Int)} (h : 0 ≤ r.1 ∧ r.1 < 10) : 1 ≤ (joinF (r :: rows)).length := by
  unfold joinF
  rw [show Txt.join (Str.ofString ", ") ((r :: rows).map rowT) = Str.join (Str.ofString ", ") ((r :: rows).map rowT) from StrLaws.glued_eq_join _ _]
  have hl := rowT_len h
  cases rows with
  | nil => show 1 ≤ (rowT r).length; lia
  | cons q rows =>
    show 1 ≤ (rowT r ++ Str.ofString ", " ++ Str.join (Str.ofString ", ") ((q :: rows).map rowT)).length
    rw [str_len_add, str_len_add]
    lia
theorem fmtF_ne {rows : List (Int × Int × Int)} (h : Rows9 rows) : (fmtF rows != Str.ofString "at tab size ") = !rows.isEmpty := by
  cases rows with
  | nil => decide +kernel
  | cons r rows =>
    have hp := joinF_pos (rows := rows) (h.b r (.head _))
    have e : fmtF (r :: rows) ≠ Str.ofString "at tab size " := fun e => by
      have e2 := congrArg Str.length e
      rw [show (Str.ofString "at tab size ").length = 12 by decide +kernel] at e2
      unfold fmtF at e2
      rw [str_len_add, str_len_add, show (Str.ofString " ").length = 1 by decide +kernel] at e2
      split at e2
      · rw [show (Str.ofString "at tab sizes").length = 12 by decide +kernel] at e2
        lia
      · rw [show (Str.ofString "at tab size").length = 11 by decide +kernel] at e2
        lia
    show (fmtF (r :: rows) != Str.ofString "at tab size ") = true
    exact bne_iff_ne.mpr e
/-- the check of one pair of leads -/
def nagB (u v : List Nat) (n : Nat) : Bool :=
  decide (1 ≤ n) && decide (n ≤ 20) && (List.range n).all (fun m => m == 0 || runL m (nrm ((u ++ [0]) ++ (v ++ [0])))) && !runL n (nrm ((u ++ [0]) ++ (v ++ [0]))) && (nlw (wsL u) (wsL v) == witF u v n) && rows9 (nlw (wsL u) (wsL v))
theorem nagOk_of {u v : List Nat} {y q : Bool × Nat} {n : Nat} (hu : u.all blank = true) (hv : v.all blank = true) (hy : syOk y) (hq : syOk q) (lu : u.length < 200) (lv : v.length < 200) (h : nagB u v n = true) : NagOk (strL u ++ syS y) (strL v ++ syS q) n := by
  unfold nagB at h
  simp only [Bool.and_eq_true, decide_eq_true_eq, Bool.not_eq_true', beq_iff_eq] at h
  obtain ⟨⟨⟨⟨⟨n1, n2⟩, hr⟩, hn⟩, he⟩, h9⟩ := h
  obtain ⟨ey, y1, y2⟩ := syS_eq hy
  obtain ⟨eq, q1, q2⟩ := syS_eq hq
  have w1 := wsOf_line hu hy
  have w2 := wsOf_line hv hq
  have runs : ∀ m : Nat, m ≤ 20 → hasRun ((strL u ++ syS y) ++ (strL v ++ syS q)) (m : Int) = runL m (nrm ((u ++ [0]) ++ (v ++ [0]))) := fun m hm => by
    rw [hasRun_eq hm, ey, eq, strL_add, strL_add, strL_add, strL_cps, ← runL_nrm, nrm_line y1 q1]
  have sz : ∀ (l : List Nat) (c : Nat), l.length < 200 → (strL l ++ strL [c]).cps.size < 2 ^ 13 := fun l c hl => by
    rw [strL_add]
    show ((l ++ [c]).toArray).size < _
    simp; lia
  refine ⟨by rw [ey]; exact sz u _ lu, by rw [eq]; exact sz v _ lv, n1, by lia, fun m m1 m2 => ?_, ?_, ?_, ?_⟩
  · rw [runs m (by lia)]
    have := List.all_eq_true.mp hr m (List.mem_range.mpr m2)
    rw [Bool.or_eq_true] at this
    rcases this with e | e
    · have := beq_iff_eq.mp e; lia
    · exact e
  · rw [runs n n2]; exact hn
  · rw [w1, w2, he, ey, eq, strL_add, strL_add, strL_cps, strL_cps, witF_app y1 y2 q1 q2]
  · rw [w1, w2]
    exact fmtOk9 (rows9_ok h9)
/-- the check of what is read -/
def Tr.kchk (ks : Nat → List Nat) : Tr → Nat → Bool
  | .leaf _, i => ks i == []
  | .gate _ x y z, i => ks i == [i + 1, i + 1 + x.sz, i + 1 + x.sz + y.sz] && (x.kchk ks (i + 1) && (y.kchk ks (i + 1 + x.sz) && z.kchk ks (i + 1 + x.sz + y.sz)))
def mkAT (na ka : Nat → Addr) : Tr → Nat → AT
  | .leaf d, i => .leaf (na i) (ka i) d
  | .gate k x y z, i => .gate (na i) (ka i) k (mkAT na ka x (i + 1)) (mkAT na ka y (i + 1 + x.sz)) (mkAT na ka z (i + 1 + x.sz + y.sz))
theorem mkAT_addr {na ka : Nat → Addr} : ∀ {t : Tr} {i : Nat}, (mkAT na ka t i).addr = na i
  | .leaf _, _ => rfl
  | .gate .., _ => rfl
theorem mkAT_tr {na ka : Nat → Addr} : ∀ (t : Tr) (i : Nat), (mkAT na ka t i).tr = t
  | .leaf _, _ => rfl
  | .gate k x y z, i => by
    show Tr.gate k (mkAT na ka x _).tr (mkAT na ka y _).tr (mkAT na ka z _).tr = _
    rw [mkAT_tr x, mkAT_tr y, mkAT_tr z]
theorem getD_l {α : Type} {a b : List α} {d : α} {j : Nat} (h : j < a.length) : (a ++ b).getD j d = a.getD j d := by
  rw [List.getD_eq_getElem?_getD, List.getD_eq_getElem?_getD, List.getElem?_append_left h]
theorem getD_r {α : Type} {a b : List α} {d : α} {n j : Nat} (h : a.length = n) : (a ++ b).getD (n + j) d = b.getD j d := by
  subst h
  rw [List.getD_eq_getElem?_getD, List.getD_eq_getElem?_getD, List.getElem?_append_right (Nat.le_add_right _ _), Nat.add_sub_cancel_left]
theorem mkAT_in {na ka : Nat → Addr} {ks : Nat → List Nat} {sy : Nat → Bool × Nat} {m : Nat} {news : List (Addr × Obj)}
    (hn : ∀ j, j < m → ∃ t k, (na j, listOf [.int (syI (sy j)) t, .ref (ka j)].toArray k) ∈ news) (hk : ∀ j, j < m → ∃ k, (ka j, listOf ((ks j).map fun c => Value.ref (na c)).toArray k) ∈ news) :
    ∀ (t : Tr) (i : Nat), i + t.sz ≤ m → t.kchk ks i = true → (∀ j, j < t.sz → sy (i + j) = t.lbs.getD j (false, 0)) → (mkAT na ka t i).In lI gI news
  | .leaf d, i, hi, hc, hs => by
    have hi' : i < m := hi
    obtain ⟨t, k, h1⟩ := hn i hi'
    obtain ⟨k', h2⟩ := hk i hi'
    have e0 : sy i = (false, d) := hs 0 (Nat.zero_lt_one)
    have e1 : ks i = [] := by simpa [Tr.kchk] using hc
    rw [e0] at h1
    rw [e1] at h2
    exact ⟨t, k, k', h1, h2⟩
  | .gate kk x y z, i, hi, hc, hs => by
    have hi2 : i + (1 + (x.sz + (y.sz + z.sz))) ≤ m := hi
    obtain ⟨t, k, h1⟩ := hn i (by lia)
    obtain ⟨k', h2⟩ := hk i (by lia)
    have e0 : sy i = (true, kk) := hs 0 (by show 0 < 1 + (x.sz + (y.sz + z.sz)); lia)
    simp only [Tr.kchk, Bool.and_eq_true, beq_iff_eq] at hc
    obtain ⟨e1, cx, cy, cz⟩ := hc
    rw [e0] at h1
    rw [e1] at h2
    have lx := lbs_len x
    have ly := lbs_len y
    have get : ∀ j, j < x.sz + (y.sz + z.sz) → sy (i + 1 + j) = (x.lbs ++ (y.lbs ++ z.lbs)).getD j (false, 0) := fun j hj => by
      have := hs (j + 1) (by show j + 1 < 1 + (x.sz + (y.sz + z.sz)); lia)
      rw [show i + (j + 1) = i + 1 + j by lia] at this
      exact this
    refine ⟨t, k, k', h1, ?_, mkAT_in hn hk x (i + 1) (by lia) cx fun j hj => ?_, mkAT_in hn hk y (i + 1 + x.sz) (by lia) cy fun j hj => ?_, mkAT_in hn hk z (i + 1 + x.sz + y.sz) (by lia) cz fun j hj => ?_⟩
    · rw [mkAT_addr, mkAT_addr, mkAT_addr]; exact h2
    · rw [get j (by lia), getD_l (by lia)]
    · rw [Nat.add_assoc (i + 1), get (x.sz + j) (by lia), getD_r lx, getD_l (by lia)]
    · rw [show i + 1 + x.sz + y.sz + j = i + 1 + (x.sz + (y.sz + j)) by lia, get (x.sz + (y.sz + j)) (by lia), getD_r lx, getD_r ly]
end
section
theorem kw_Kpl4_0 : True := by
  k_with_none
  k_with "vat" => repeat' (first | exact List.forall_mem_nil _ | refine' List.forall_mem_cons.mpr ⟨?_, ?_⟩ | with_unfolding_all rfl)
  k_with "vrest" => first | ((repeat' (first | exact Vars.rest (by assumption) | exact vr_nil | exact vr_base | refine vr_upd ?_ (by with_unfolding_all rfl) | refine vr_set ?_ (by with_unfolding_all rfl))); done) | (intro zzz hzzz; (simp only [List.contains_cons, List.contains_nil, Bool.or_false, Bool.or_eq_false_iff, beq_eq_false_iff_ne, ne_eq] at hzzz); (simp [hzzz, upd, setL, baseOf, List.lookup]))
  k_with "exec For Name Name cons nil" => (refine' wpAny_For ?h ?hs; (case hs => (intro _; with_unfolding_all rfl)))
  k_with "exec For Name Call cons nil" => (refine' wpAny_For ?h ?hs; (case hs => (intro _; with_unfolding_all rfl)))
  k_with "exec For Name Attribute cons nil" => (refine' wpAny_For ?h ?hs; (case hs => (intro _; with_unfolding_all rfl)))
  k_with "sol" => all_goals (try (first | k_is | exact rfl | decide))
  k_with "sz" => first | omega | (simp only [List.length_append, List.length_cons, List.length_nil, List.length_map, List.length_replicate, List.length_reverse, List.length_set]; omega)
  k_with "sub" => first | exact Sub.refl _ | with_reducible assumption | exact Sub.nil | (refine Sub.cons ?_; k_extra "sub") | (refine Sub.trans (by with_reducible assumption) ?_; k_extra "sub") | fail "sub"
  k_with "member" => assumption
  k_with "ite" => first | with_reducible refine ite_tt ?_ | with_reducible refine ite_ff ?_
  k_with "execs nil" => refine wpAny_execs_nil ?_
  k_with "dp" => first | exact dpLe | omega
  k_with "un" => first | exact unLe | omega
  k_with "storeName" => (k_here; k_dflt (first | (refine' storeI ?_; intro q1zz) | (refine' storeS ?_; intro q1zz) | (refine' storeF ?_; intro q1zz) | refine' storeR ?_); k_whole; intro hpzz kpzz mpzz Fpzz Npzz; (try k_sweep))
  k_with "execs cons" => first | refine lastK ?_ | (refine cutK ?_; intro Qzz azz) | (refine enterK ?_; intro Qzz azz)
  k_with "KQ" => first | refine nextK (by assumption) ?_ | refine retK (by assumption) ?_ | refine impK (by assumption) ?_ | refine contK (by assumption) ?_ | refine brkK (by assumption) ?_
  k_with "KS" => refine stopK (by assumption) ?_
  k_with "exec If" => (refine ifK ?_; intro Qzz azz)
  k_with "KB" => refine ifB (by assumption) ?_
  k_with "KV" => refine stopV (by assumption) ?_
  exact True.intro
def ldOf (ls : List (List Nat)) (i : Nat) : Ws := wsL (ls.getD i [])
def nF (u v : List Nat) : Nat := ((List.range 20).find? fun n => decide (1 ≤ n) && !runL n (nrm ((u ++ [0]) ++ (v ++ [0])))).getD 1
def shpOk (t : Tr) : Bool :=
  (wl t [0, 1] 0 0).all (fun l => l.all blank && decide (l.length < 200)) && (t.sz == 10) &&
  (List.range 3).all (fun i => nagB ((wl t [0, 1] 0 0).getD (3 + i * 3 - 2) []) ((wl t [0, 1] 0 0).getD (3 + i * 3) []) (nF ((wl t [0, 1] 0 0).getD (3 + i * 3 - 2) []) ((wl t [0, 1] 0 0).getD (3 + i * 3) []))) &&
  (List.range 10).all (fun i => (pileL (ldOf (wl t [0, 1] 0 0)) i).all fun j => rows9 (nlw (ldOf (wl t [0, 1] 0 0) j) (ldOf (wl t [0, 1] 0 0) i))) &&
  (rootsL (ldOf (wl t [0, 1] 0 0)) 10 == [0]) && t.kchk (kidsL (ldOf (wl t [0, 1] 0 0)) 10) 0
theorem shp_ok : ∀ t ∈ shp 2, shpOk t = true := by decide +kernel
theorem kchk_bare {ks : Nat → List Nat} : ∀ (t : Tr) (i : Nat), t.bare.kchk ks i = t.kchk ks i
  | .leaf _, _ => rfl
  | .gate k x y z, i => by
    show (_ && (x.bare.kchk ks _ && (y.bare.kchk ks _ && z.bare.kchk ks _))) = (_ && (x.kchk ks _ && (y.kchk ks _ && z.kchk ks _)))
    rw [kchk_bare x, kchk_bare y, kchk_bare z, sz_bare x, sz_bare y]
theorem plain_ok (t : Tr) (ok : t.ok) (hb : t.bare ∈ shp 2) : PlainOk t := by
  have h := shp_ok t.bare hb
  unfold shpOk at h
  rw [wl_bare, sz_bare, kchk_bare] at h
  simp only [Bool.and_eq_true, List.all_eq_true, decide_eq_true_eq, beq_iff_eq] at h
  obtain ⟨⟨⟨⟨⟨hbl, hsz⟩, hnag⟩, hrows⟩, hroot⟩, hk⟩ := h
  have hwl := wl_len t [0, 1] 0 0
  have hlb := lbs_len t
  rw [hsz] at hwl hlb
  have hwr : (wr t [0, 1] 0 0).length = 10 := by rw [wr_len, hsz]
  have lab : ∀ i, i < 10 → syOk (t.lbs.getD i (false, 0)) := fun i hi => by
    rw [List.getD_eq_getElem?_getD, List.getElem?_eq_getElem (by lia)]
    exact lbs_ok t ok _ (List.getElem_mem _)
  have lead : ∀ i, i < 10 → ((wl t [0, 1] 0 0).getD i []).all blank = true ∧ ((wl t [0, 1] 0 0).getD i []).length < 200 := fun i hi => by
    rw [List.getD_eq_getElem?_getD, List.getElem?_eq_getElem (by lia)]
    obtain ⟨a, b⟩ := hbl _ (List.getElem_mem (by lia : i < (wl t [0, 1] 0 0).length))
    exact ⟨List.all_eq_true.mpr a, b⟩
  have line : ∀ i, i < 10 → (wr t [0, 1] 0 0).getD i "" = strL ((wl t [0, 1] 0 0).getD i []) ++ syS (t.lbs.getD i (false, 0)) := fun i hi => by
    rw [wr_zip, List.getD_eq_getElem?_getD, List.getElem?_zipWith, List.getElem?_eq_getElem (by lia : i < (wl t [0, 1] 0 0).length), List.getElem?_eq_getElem (by lia : i < t.lbs.length),
      List.getD_eq_getElem?_getD, List.getElem?_eq_getElem (by lia : i < (wl t [0, 1] 0 0).length), List.getD_eq_getElem?_getD, List.getElem?_eq_getElem (by lia : i < t.lbs.length)]
    rfl
  refine ⟨hwr, ⟨fun i => nF ((wl t [0, 1] 0 0).getD (3 + i * 3 - 2) []) ((wl t [0, 1] 0 0).getD (3 + i * 3) []), fun i hi => ?_⟩, ldOf (wl t [0, 1] 0 0), fun i => t.lbs.getD i (false, 0), ⟨?_, by decide, ?_, ?_, ?_, ?_, ?_, ?_⟩, hroot, ?_⟩
  · have h1 : 3 + i * 3 - 2 < 10 := by lia
    have h2 : 3 + i * 3 < 10 := by lia
    rw [line _ h1, line _ h2]
    exact nagOk_of (lead _ h1).1 (lead _ h2).1 (lab _ h1) (lab _ h2) (lead _ h1).2 (lead _ h2).2 (hnag i (List.mem_range.mpr hi))
  · rw [List.length_append, hwr]; rfl
  · intro i hi
    rcases Nat.lt_or_eq_of_le hi with h | rfl
    · rw [getD_l (by lia), line i h]
      obtain ⟨e, _, _⟩ := syS_eq (lab i h)
      rw [e, strL_add]
      have := (lead i h).2
      show (((wl t [0, 1] 0 0).getD i [] ++ [_]).toArray).size < _
      simp only [List.size_toArray, List.length_append, List.length_cons, List.length_nil]
      lia
    · rw [show (10 : Nat) = 10 + 0 from rfl, getD_r hwr]
      show (Str.ofString "\t \t").cps.size < _
      decide +kernel
  · intro i hi
    rw [getD_l (by lia), line i hi, wsOf_line (lead i hi).1 (lab i hi)]
    rfl
  · intro i hi
    rw [getD_l (by lia), line i hi]
    obtain ⟨e, _, _⟩ := syS_eq (lab i hi)
    show Txt.slice _ (some (wsL _).n) none = syS (t.lbs.getD i (false, 0))
    rw [wsL_n, e, strL_add]
    exact slice_tail _ _
  · rw [show (10 : Nat) = 10 + 0 from rfl, getD_r hwr]
    show Txt.slice (Str.ofString "\t \t") (some (wsOf (Str.ofString "\t \t")).n) none = Str.ofString ""
    decide +kernel
  · exact lab
  · intro i hi j hj
    have h9 := rows9_ok (hrows i (List.mem_range.mpr hi) j hj)
    exact ⟨fmtOk9 h9, fmtF_ne h9⟩
  · intro P pl ro na ka la pa news RI
    exact ⟨mkAT na ka t 0, mkAT_addr, mkAT_in RI.nd RI.kd t 0 (by lia) hk fun j hj => by rw [Nat.zero_add], mkAT_tr t 0⟩
end
section
theorem kw_Fbody_0 : True := by
  k_with_none
  k_with "vat" => repeat' (first | exact List.forall_mem_nil _ | refine' List.forall_mem_cons.mpr ⟨?_, ?_⟩ | with_unfolding_all rfl)
  k_with "vrest" => first | ((repeat' (first | exact Vars.rest (by assumption) | exact vr_nil | exact vr_base | refine vr_upd ?_ (by with_unfolding_all rfl) | refine vr_set ?_ (by with_unfolding_all rfl))); done) | (intro zzz hzzz; (simp only [List.contains_cons, List.contains_nil, Bool.or_false, Bool.or_eq_false_iff, beq_eq_false_iff_ne, ne_eq] at hzzz); (simp [hzzz, upd, setL, baseOf, List.lookup]))
  k_with "exec For Name Name cons nil" => (refine' wpAny_For ?h ?hs; (case hs => (intro _; with_unfolding_all rfl)))
  k_with "exec For Name Call cons nil" => (refine' wpAny_For ?h ?hs; (case hs => (intro _; with_unfolding_all rfl)))
  k_with "exec For Name Attribute cons nil" => (refine' wpAny_For ?h ?hs; (case hs => (intro _; with_unfolding_all rfl)))
  k_with "sol" => all_goals (try (first | k_is | exact rfl | decide))
  k_with "sz" => first | omega | (simp only [List.length_append, List.length_cons, List.length_nil, List.length_map, List.length_replicate, List.length_reverse, List.length_set]; omega)
  k_with "sub" => first | exact Sub.refl _ | with_reducible assumption | exact Sub.nil | (refine Sub.cons ?_; k_extra "sub") | (refine Sub.trans (by with_reducible assumption) ?_; k_extra "sub") | fail "sub"
  k_with "member" => assumption
  k_with "ite" => first | with_reducible refine ite_tt ?_ | with_reducible refine ite_ff ?_
  k_with "execs nil" => refine wpAny_execs_nil ?_
  k_with "dp" => first | exact dpLe | omega
  k_with "un" => first | exact unLe | omega
  k_with "storeName" => (k_here; k_dflt (first | (refine' storeI ?_; intro q1zz) | (refine' storeS ?_; intro q1zz) | (refine' storeF ?_; intro q1zz) | refine' storeR ?_); k_whole; intro hpzz kpzz mpzz Fpzz Npzz; (try k_sweep))
  k_with "execs cons" => first | refine lastK ?_ | (refine cutK ?_; intro Qzz azz) | (refine enterK ?_; intro Qzz azz)
  k_with "KQ" => first | refine nextK (by assumption) ?_ | refine retK (by assumption) ?_ | refine impK (by assumption) ?_ | refine contK (by assumption) ?_ | refine brkK (by assumption) ?_
  k_with "KS" => refine stopK (by assumption) ?_
  k_with "exec If" => (refine ifK ?_; intro Qzz azz)
  k_with "KB" => refine ifB (by assumption) ?_
  k_with "KV" => refine stopV (by assumption) ?_
  k_with "exec While" => refine wpAny_While ?_
  k_with "exec While Compare" => refine wpAny_While ?_
  k_with "exec While BoolOp" => refine wpAny_While ?_
  k_with "eval ListComp" => (k_here; (with_reducible show wpAny _ _ (eval (PySem.Expr.ListComp _ [PySem.Comprehension.mk _ _ [] 0] _ _) _) _ _ _); k_dflt (refine LCg.ListComp_U (F₀ := by k_asm) (by with_unfolding_all rfl) (by decide) (by rfl) (by decide) (by rfl) ?_))
  k_with "eval ListComp" => (k_here; (with_reducible show wpAny _ _ (eval (PySem.Expr.ListComp _ [PySem.Comprehension.mk _ _ [_] 0] _ _) _) _ _ _); k_dflt (refine LCt.ListComp_T (F₀ := by k_asm) (by with_unfolding_all rfl) (by decide) (by rfl) (by decide) (by rfl) ?_))
  k_with "exec Assign cons ListComp" => (k_here; (with_reducible show wpAny _ _ (exec (PySem.Stmt.Assign [_] (PySem.Expr.ListComp _ [PySem.Comprehension.mk _ _ [] 0] _ _) _) _) _ _ _); k_dflt (refine LCg.Assign_ListComp_U (F₀ := by k_asm) (by rfl) (by with_unfolding_all rfl) (by with_unfolding_all rfl) (by decide) (by rfl) (by decide) (by rfl) (by rfl) (by rfl) ?_))
  k_with "exec Assign cons ListComp" => (k_here; (with_reducible show wpAny _ _ (exec (PySem.Stmt.Assign [_] (PySem.Expr.ListComp _ [PySem.Comprehension.mk _ _ [_] 0] _ _) _) _) _ _ _); k_dflt (refine LCt.Assign_ListComp_T (F₀ := by k_asm) (by rfl) (by with_unfolding_all rfl) (by with_unfolding_all rfl) (by decide) (by rfl) (by decide) (by rfl) (by rfl) (by rfl) ?_))
  k_with "CompSrc" => (k_here; refine Hold.mk ?_)
  k_with "CompSrcT" => (k_here; refine Hold.mk ?_)
  k_with "CompEnd" => (k_here; refine Hold.mk ?_)
  k_with "FinA" => (k_here; refine Hold.mk ?_)
  k_with "FinE" => (k_here; refine Hold.mk ?_)
  k_with "loadName" => (k_here; k_dflt (refine' ldnX ?k1 ?k2 ?_; (case k1 => k_asm); (case k2 => exact rfl); k_whole))
  k_with "newTuple" => (k_here; k_dflt (refine' tupR ?_); intro Dpzz hpzz kpzz Fpzz Npzz l1zz; (try k_lt l1zz); (try k_sweep))
  k_with "mem" => first | exact List.Mem.head _ | with_reducible assumption | (refine' List.mem_cons_of_mem _ ?_; k_extra "mem") | (refine' Sub.mem ?s ?m; (case s => with_reducible assumption); (case m => k_extra "mem")) | fail "mem"
  k_with "member" => k_extra "mem"
  k_with "call ref" => (k_here; refine Hold.mk ?_)
  k_with "subscriptTail Name Constant ref int" => (k_here; refine Hold.mk ?_)
  k_with "subscriptTail Name BinOp ref int" => (k_here; refine Hold.mk ?_)
  k_with "subscriptTail Name Slice ref ref" => (k_here; refine Hold.mk ?_)
  k_with "compareOp NotEq ref ref" => (k_here; refine Hold.mk ?_)
  k_with "binaryOp Add ref ref" => (k_here; refine Hold.mk ?_)
  k_with "eval Lambda" => (k_here; refine Hold.mk ?_)
  k_with "compareOp NotEq int int" => (k_here; refine Hold.mk ?_)
  k_with "compareOp Eq int int" => (k_here; refine Hold.mk ?_)
  k_with "call builtin:len" => (k_here; refine' len_lstM (h := ?_))
  k_with "storeName" => (k_here; (with_reducible show wpAny _ _ (storeName _ (Str.ofString "root") _) _ _ _); refine Hold.mk ?_)
  exact True.intro
set_option maxHeartbeats 8000000 in
theorem law_walk {prog : Program} {w : World} (plain : ∀ t : Tr, t.ok → t.bare ∈ shp 2 → PlainOk t) : LawS prog w := by
  refine' LawS.of ?_ ?_
  k_extra "sol"
  intro dp un gd L fa l vs ns A₀ base g p loose mean mg mb s cells A1 E1 B F X N Y TP C1 C0 AB hL hi hn h0 hdp hun
  have hobt := CellsAre.one Y
  obtain ⟨o1, hE, d1⟩ := hobt
  subst hE; clear Y
  have e1 : o1.data = .cell none := d1
  clear d1
  have F0 : Fr g L s.heap (setL (fun _ => none) [(Str.ofString "script", .ref l)]) := F
  have N0 : News g L s.heap ((L + 1, o1) :: (252, tabObj #[]) :: (89, tabObj #[]) :: []) := N
  clear F N
  have hdp2 : dp + 100 < recursionLimit := hdp
  k_steps
  refine Hold.un ?_
  refine SpecH.use (sum_spec (l := l) hi (by lia)) B F0 X hL N0 TP (by exact rfl) (by k_extra "dp") (by k_extra "un") ?_
  rintro r1 n1 h1 tk1 F1 N1 ⟨ls, sv, sn, sk, rfl, sub1, fr1, si, sl, sr⟩
  have mS : (ls, listOf sv.toArray sk) ∈ n1 := sub1 _ (.head _)
  have mC : (L + 1, o1) ∈ n1 := sub1 _ (.tail _ (.head _))
  have m252 : (252, tabObj #[]) ∈ n1 := sub1 _ (.tail _ (.tail _ (.head _)))
  have m89 : (89, tabObj #[]) ∈ n1 := sub1 _ (.tail _ (.tail _ (.tail _ (.head _))))
  clear F0 N0 sub1 fr1
  k_steps
  rename Fr _ _ _ _ => F2
  rename News _ _ _ _ => N2
  refine Hold.un ?_
  refine Spec.use (gro_spec mS si sl sr) B F2 X N2 TP (by exact rfl) (by k_extra "dp") (by k_extra "un") ?_
  rintro r2 n2 h2 tk2 F3 N3 ⟨T, rfl, hT, okT, bareT, sub2⟩
  have mS2 := sub2 _ mS
  have mC2 := sub2 _ mC
  have m252' := sub2 _ m252
  have m89' := sub2 _ m89
  have shT := shp_nl2 _ bareT
  rw [Tr.bare_nl, Tr.bare_dep] at shT
  have PO := plain T.tr okT bareT
  have hlen := PO.len
  have hsz := wr_len T.tr [0, 1] 0 0
  rw [hlen] at hsz
  clear F2 N2 sub2 mS mC m252 m89
  k_steps
  rename Fr _ _ _ _ => F4
  rename News _ _ _ _ => N4
  refine Hold.un ?_
  rename (∀ p ∈ n2, p.1 < _) => lr0
  rename (_ < _ ∧ AllLt _ n2) => lp0
  refine name_it (P := fun b => ∀ p ∈ n2, p.1 < b) lr0 fun lr elr => ?_
  subst elr
  refine name_it (P := fun b => lr < b ∧ AllLt b n2) lp0 fun pg epg => ?_
  subst epg
  have lp2 := tb_ltOf lp0.2
  refine Spec.use (wrt_spec T okT shT.2 lr pg 0 0 _ [] [0, 1] 0 _ [] _ (hT.mono fun p hp => .tail _ hp) (.head _) (.cons _ _ (.cons _ _ .nil)) ?_ .nil ?_) B F4 X N4 TP (by exact rfl) (by k_extra "dp") (by k_extra "un") ?_
  · intro p hp
    rcases List.mem_cons.mp hp with rfl | hp
    · exact Nat.ne_of_lt lp0.1
    · exact Nat.ne_of_lt (lp2 p hp)
  · refine ⟨?_, ?_, ?_, ?_⟩
    · lia
    · show 2 + T.tr.dep ≤ 10; lia
    · intro r hr
      rcases List.mem_cons.mp hr with rfl | hr
      · lia
      · rw [List.mem_singleton.mp hr]; lia
    · show 0 + T.tr.sz ≤ 100; lia
  rintro r3 n3 h3 tk3 F5 N5 ⟨pv, pk, rfl, rfl, hpv⟩
  have hpv2 : StrsAre pv (wr T.tr [0, 1] 0 0) := hpv
  clear hpv F4 N4
  k_steps
  rename Fr _ _ _ _ => F6
  rename News _ _ _ _ => N6
  refine Hold.un ?_
  have hobt := PO.nag
  obtain ⟨nss, hnag⟩ := hobt
  have m89b : (89, tabObj #[]) ∈ NewsOf N6 := .tail _ (.tail _ m89')
  refine SpecG.use (nag_spec (ps := #[]) (rest := off 89 (NewsOf N6)) (off_tab N6 m89b _ (.head _) (by nofun)) hpv2 hlen True.intro (fun p hp => off_ne p hp) nss hnag) B F6 X (News.pull N6 m89b) TP C0 AB rfl (by k_extra "dp") (by k_extra "un") ?_
  rintro r4 n4 h4 g4 tk4 d4 ab4 F7 N7 ⟨ps4, rfl, ht4, rfl⟩
  have to4 := off_tab N6 m89b
  clear F6
  have mpg4 := to4 _ (.head _) (by nofun)
  have mS4 := to4 _ (.tail _ (.tail _ mS2)) (by nofun)
  have mC4 : (L + 1, o1) ∈ off 89 (NewsOf N6) := off_mem (.tail _ (.tail _ mC2)) (show L + 1 ≠ 89 from Nat.ne_of_gt (Nat.lt_succ_of_lt h0.2))
  have m252_4 : (252, tabObj #[]) ∈ off 89 (NewsOf N6) := off_mem (.tail _ (.tail _ m252')) (by decide)
  have hT4 : T.In lS gS (off 89 (NewsOf N6)) := AT.In.toN to4 (hT.mono fun p hp => .tail _ (.tail _ hp))
  have h89_4 : ∀ p ∈ off 89 (NewsOf N6), p.1 ≠ 89 := fun p hp => off_ne p hp
  clear to4 mS2 mC2 m252' m89' m89b hT
  generalize off 89 (NewsOf N6) = W4 at N7 mpg4 mS4 mC4 m252_4 hT4 h89_4
  clear N6 hnag lp0 lp2 lr0
  k_steps
  rename Fr _ _ _ _ => F8
  rename News _ _ _ _ => N8
  refine Hold.un ?_
  have hpl : pv.length = 10 := by rw [hpv2.length, hlen]
  refine kmk_add_lit F8 N8 (News.isList N8 (.tail _ (.tail _ mpg4))) (News.isList N8 (.head _)) rfl ?_ ?_
  rotate_left
  · rw [sizeLine_eq]; show pv.length + 2 ≤ _; lia
  intro ln h9 F9 N9 l9
  clear F8 N8
  k_steps
  rename Fr _ _ _ _ => F10
  rename News _ _ _ _ => N10
  refine Hold.un ?_
  have hobt := PO.rd
  obtain ⟨ld, sy, rok, rroot, rtree⟩ := hobt
  have m89c : (89, tabObj ps4) ∈ NewsOf N10 := .tail _ (.tail _ (.head _))
  have to10 := off_tab N10 m89c
  refine SpecG.use (rd_spec (ps := ps4) (rest := off 89 (NewsOf N10)) (to10 _ (.head _) (by nofun)) (StrsAre.append' hpv2 (.cons _ _ (.cons _ _ .nil))) rok ht4 (fun p hp => off_ne p hp)) B F10 X (News.pull N10 m89c) TP C0 ab4 rfl (by k_extra "dp") (by k_extra "un") ?_
  rintro r5 n5 h11 g5 tk5 d5 ab5 F11 N11 ⟨ro, pl, na, ka, la, pa, kr, rfl, mro, RI, sub5, ps5, m89_5⟩
  have hobt := rtree _ _ _ _ _ _ _ _ RI
  obtain ⟨TT, eTT, hTT, tTT⟩ := hobt
  rw [rroot] at mro
  have mro5 : (ro, listOf [Value.ref TT.addr].toArray kr) ∈ n5 := by rw [eTT]; exact mro
  have to5 : ∀ p ∈ W4, p.2.cls ≠ .none → p ∈ n5 := fun p hp hc => sub5 _ (to10 _ (.tail _ (.tail _ (.tail _ hp))) hc)
  have mS5 := to5 _ mS4 (by nofun)
  have m252_5 : (252, tabObj #[]) ∈ n5 := sub5 _ (off_mem (.tail _ (.tail _ (.tail _ m252_4))) (by decide))
  have mC5 : (L + 1, o1) ∈ n5 := sub5 _ (off_mem (.tail _ (.tail _ (.tail _ mC4))) (show L + 1 ≠ 89 from Nat.ne_of_gt (Nat.lt_succ_of_lt h0.2)))
  have hT5 : T.In lS gS n5 := AT.In.toN to5 hT4
  have okTT : TT.tr.ok := by rw [tTT]; exact okT
  have dTT : TT.tr.dep ≤ 3 := by rw [tTT]; exact shT.2
  clear to5 to10 sub5 RI mro mS4 mC4 m252_4 hT4 h89_4 mpg4 F10 hpl hpv2 rtree rroot rok
  k_steps
  rename Fr _ _ _ _ => F12
  rename News _ _ _ _ => N12
  refine Hold.un ?_
  refine Spec.use (mea_spec T okT shT.2 _ hT5) B F12 X N12 TP (by exact rfl) (by k_extra "dp") (by k_extra "un") ?_
  rintro r6 n6 h12 tk6 F13 N13 ⟨fr6, sub6, ne6, dat6⟩
  have mS6 := sub6 _ (List.mem_append_right _ mS5)
  have m252_6 := sub6 _ (List.mem_append_right _ m252_5)
  have mC6 := sub6 _ (List.mem_append_right _ mC5)
  have m89_6 := sub6 _ (List.mem_append_right _ m89_5)
  have mro6 := sub6 _ (List.mem_append_right _ mro5)
  have hT6 : T.In lS gS n6 := hT5.mono fun p hp => sub6 _ (List.mem_append_right _ hp)
  have hTT6 : TT.In lI gI n6 := hTT.mono fun p hp => sub6 _ (List.mem_append_right _ hp)
  have dat6' : DatIn n6 r6 (T.tr.dat dI eI) := DatIn.mono (fun p hp => sub6 _ (List.mem_append_left _ hp)) dat6
  clear F12 N12 sub6 ne6 dat6 mS5 m252_5 mC5 m89_5 mro5 hT5 hTT
  k_steps
  rename News _ _ _ _ => N14
  refine Hold.un ?_
  refine ne_same (xs := [.ref TT.addr]) (ys := [r6]) (ds := [TT.tr.dat dI eI]) (es := [T.tr.dat dI eI]) N14 (.tail _ mro6) rfl rfl (.cons (datI hTT6) .nil) (fun p hp => .tail _ hp) (.head _) rfl rfl (.cons dat6' .nil) (fun p hp => .tail _ hp) ?ha ?hu ?e ?_
  case ha =>
    intro d hd
    rw [List.mem_singleton.mp hd]
    exact Tr.dat_ok (fun _ _ => rfl) (fun _ _ => rfl) _ _ (by lia)
  case hu => show un + 64 < cLine; lia
  case e => rw [tTT]
  k_steps
  rename News _ _ _ _ => N15
  refine Hold.un ?_
  refine lst_at (vs := [.ref TT.addr]) (x := .ref TT.addr) N15 (.tail _ mro6) (by decide) rfl (show 1 < 2 ^ 62 by decide) ?_
  k_steps
  rename Fr _ _ _ _ => F16
  rename News _ _ _ _ => N16
  refine Hold.un ?_
  have mC16 : (L + 1, o1) ∈ NewsOf N16 := .tail _ mC6
  refine storeX_C F16 (News.pull N16 mC16) rfl (UpdF.head fun p hp => off_ne p hp) e1 ?_
  intro h17 o2 F17 N17 e2
  have U16 := UniqL.of N16
  have toL7 := off_cell U16 mC16 e1
  have mS7 := toL7 _ _ _ (.tail _ mS6)
  have m252_7 := off_celltab U16 mC16 e1 _ _ (.tail _ m252_6)
  have m89_7 := off_celltab U16 mC16 e1 _ _ (.tail _ m89_6)
  have hT7 : T.In lS gS _ := AT.In.toL toL7 (hT6.mono fun p hp => .tail _ hp)
  have hTT7 : TT.In lI gI _ := AT.In.toL toL7 (hTT6.mono fun p hp => .tail _ hp)
  have dL7 : ∀ p ∈ off (L + 1) (NewsOf N16), p.1 ≠ L + 1 := fun p hp => off_ne p hp
  clear toL7 U16 mC16 F16 mS6 m252_6 m89_6 mC6 mro6 hT6 hTT6 dat6' e1
  generalize off (L + 1) (NewsOf N16) = W7 at N17 mS7 m252_7 m89_7 hT7 hTT7 dL7
  clear N16
  k_steps
  rename Fr _ _ _ _ => F18
  rename News _ _ _ _ => N18
  refine Hold.un ?_
  refine Spec.use (due_spec T okT shT.2 _ (hT7.mono fun p hp => .tail _ hp)) B F18 X N18 TP (by exact rfl) (by k_extra "dp") (by k_extra "un") ?_
  rintro r8 n8 h18 tk8 F19 N19 ⟨⟨t8, rfl⟩, rfl⟩
  clear m89c N10 F18 N18
  k_steps
  rename Fr _ _ _ _ => F20
  rename News _ _ _ _ => N20
  refine Hold.un ?_
  refine Spec.use (lig_spec TT okTT _ (hTT7.mono fun p hp => .tail _ hp)) B F20 X N20 TP (by exact rfl) (by k_extra "dp") (by k_extra "un") ?_
  rintro r9 n9 h20 tk9 F21 N21 ⟨⟨t9, rfl⟩, rfl⟩
  clear F20 N20
  k_steps
  refine Hold.un (ne_intB (b := false) (by rw [tTT]; simp) ?_)
  k_steps
  rename Fr _ _ _ _ => F22
  rename News _ _ _ _ => N22
  refine Hold.un ?_
  refine Spec.use (lea_spec TT okTT dTT _ (hTT7.mono fun p hp => .tail _ hp)) B F22 X N22 TP (by exact rfl) (by k_extra "dp") (by k_extra "un") ?_
  rintro r10 n10 h22 tk10 F23 N23 ⟨le, lk, rfl, sub10, fr10⟩
  clear F22 N22
  k_steps
  rename Fr _ _ _ _ => F24
  rename News _ _ _ _ => N24
  refine Hold.un ?_
  have mle := sub10 _ (.head _)
  have hTT10 : TT.In lI gI n10 := hTT7.mono fun p hp => sub10 _ (.tail _ (.tail _ hp))
  have lvn : TT.lvs.length = 7 := by rw [AT.nl_eq, tTT]; exact shT.1
  refine Spec.use (lit_spec mle (AT.In.lvs' hTT10) (by lia)) B F24 X N24 TP (by exact rfl) (by k_extra "dp") (by k_extra "un") ?_
  rintro r11 n11 h24 tk11 F25 N25 ⟨ll, lv, lns, llk, rfl, sub11, fr11, lvi, lsrt, lperm⟩
  have mll := sub11 _ (.head _)
  have mle11 := sub11 _ (.tail _ mle)
  have hTT11 : TT.In lI gI n11 := hTT10.mono fun p hp => sub11 _ (.tail _ hp)
  have s711 : ∀ p ∈ W7, p ∈ n11 := fun p hp => sub11 _ (.tail _ (sub10 _ (.tail _ (.tail _ hp))))
  have mC11 : (L + 1, o2) ∈ n11 := sub11 _ (.tail _ (sub10 _ (.tail _ (.head _))))
  have mS11 := s711 _ mS7
  have m252_11 := s711 _ m252_7
  have m89_11 := s711 _ m89_7
  clear F24 N24 sub10 fr10 sub11 fr11 s711 mle hTT10 mS7 m252_7 m89_7 hT7 hTT7 dL7
  k_steps
  rename Fr _ _ _ _ => F26
  rename News _ _ _ _ => N26
  refine Hold.un ?_
  refine kla_eval rfl ?_
  refine kla_nest F26 (News.pull N26 m252_11) TP C1 rfl (UpdF.head fun p hp => off_ne p hp) True.intro rfl rfl ?_
  intro kf c' oc' cvs tq ctv h27 tk27 F27 N27 hdd hvv l27 l27'
  have to12 : ∀ a its k, (a, listOf its k) ∈ n11 → (a, listOf its k) ∈ off 252 n11 := fun a its k h => off_mem h fun e => by
    have q := News.uniq N26 h (show (a, tabObj #[]) ∈ n11 by rw [show a = 252 from e]; exact m252_11)
    cases q
  have mll12 := to12 _ _ _ mll
  have mle12 := to12 _ _ _ mle11
  have mS12 := to12 _ _ _ mS11
  have hTT12 : TT.In lI gI (off 252 n11) := AT.In.toL to12 hTT11
  have mC12 : (L + 1, o2) ∈ off 252 n11 := off_mem mC11 (show L + 1 ≠ 252 from Nat.ne_of_gt (Nat.lt_succ_of_lt h0.1))
  have m89_12 : (89, tabObj ps5) ∈ off 252 n11 := off_mem m89_11 (show (89 : Nat) ≠ 252 by decide)
  clear to12 mll mle11 mS11 hTT11 mC11 m89_11 m252_11 F26
  generalize off 252 n11 = W12 at N27 mll12 mle12 mS12 hTT12 mC12 m89_12
  clear N26 l27
  refine hide_it (P := fun o => News g L h27 ((kf, o) :: _)) N27 fun ko eko N27' => ?_
  clear N27
  have N27 := N27'
  clear N27'
  k_steps
  rename Fr _ _ _ _ => F28
  rename News _ _ _ _ => N28
  refine Hold.un ?_
  have hlamb : ∀ v tv, Spec prog w 7 kf [.int v tv] (NewsOf N28) (BoolP (!TT.tr.cnt v) (NewsOf N28)) := by
    intro v tv
    refine Spec.ofLam (oc := oc') (cvs := cvs) [(Str.ofString "level", .int v tv)] (mem_eq (.head _) eko) (.tail _ (.head _)) hdd hvv ?_ ?_ ?_ ?_ ?_ ?_ ?_
    · rfl
    · rfl
    · intro p' loose' mean' mg' mb' dp' un' gd' outer' A' base' g' L'' s' B' F' X' N' TP' hdp' hun'
      clear F28
      k_steps
      rename Fr _ _ _ _ => F30
      rename News _ _ _ _ => N30
      refine Hold.un ?_
      refine Spec.use (hol_spec TT okTT _ (hTT12.mono fun p hp => .tail _ (.tail _ (.tail _ hp)))) B' F30 X' N30 TP' rfl (by k_extra "dp") (by k_extra "un") ?_
      rintro r12 n12 h12' tk12 F31 N31 ⟨rfl, rfl⟩
      k_steps
      rename Fr _ _ _ _ => F32
      rename News _ _ _ _ => N32
      exact ⟨Same.mk, _, _, F32, N32, rfl, rfl⟩
    · rfl
    · rfl
    · rfl
    · decide
  have hcd := fun v => cnt_due v TT.tr okTT
  have kmono : ∀ i j, i ≤ j → j < lns.length → (!TT.tr.cnt (lns.getD i 0)) = true → (!TT.tr.cnt (lns.getD j 0)) = true := by
    intro i j hij hj h
    have h2 := lsrt i j hij hj
    rw [hcd] at h ⊢
    simp only [Bool.not_eq_true', decide_eq_false_iff_not] at h ⊢
    lia
  have lnn : lns.length = 7 := by rw [lperm.length_eq, List.length_map, lvn]
  refine SpecW.use (bil_spec (kb := fun v => !TT.tr.cnt v) (kf := kf) (mem_eq (List.Mem.head _) eko) (.tail _ (.tail _ (.tail _ mll12))) lvi kmono (by lia) hlamb) B F28 X N28 TP (by exact rfl) (by k_extra "dp") (by k_extra "un") ?_
  rintro r13 n13 h28 tk28 F33 N33 ⟨np, tnp, rfl, npl, bk1, bk2, rfl⟩
  clear F28 N28 hlamb kmono
  have dmem : T.tr.due ∈ lns := lperm.mem_iff.mpr (by rw [← tTT]; exact due_mem TT okTT)
  have pf := place_facts lsrt dmem npl (fun i hi => by
    have h : (!TT.tr.cnt (lns.getD i 0)) = false := bk1 i hi
    rw [hcd, tTT] at h
    simpa using h) (fun i hi hj => by
    have h : (!TT.tr.cnt (lns.getD i 0)) = true := bk2 i hi hj
    rw [hcd, tTT] at h
    simpa using h)
  obtain ⟨np1, nplast, npu⟩ := pf
  clear bk1 bk2 hcd dmem
  have hj1 : (np : Int) - 1 = ((np - 1 : Nat) : Int) := by lia
  k_steps
  refine Hold.un (eq_intB (b := false) (by simp; lia) ?_)
  k_steps
  rename News _ _ _ _ => N34
  refine Hold.un ?_
  refine lst_ints (j := np - 1) N34 (.tail _ (.tail _ (.tail _ mll12))) lvi hj1 (by lia) (by lia) fun t14 => ?_
  rw [nplast]
  k_steps
  refine Hold.un (ne_intB (b := false) (by simp) ?_)
  k_steps
  rename Fr _ _ _ _ => F35
  rename News _ _ _ _ => N35
  refine Hold.un ?_
  refine Spec.use (bis_spec (.tail _ (.tail _ (.tail _ mll12))) lvi lsrt (by lia)) B F35 X N35 TP (by exact rfl) (by k_extra "dp") (by k_extra "un") ?_
  rintro r15 n15 h35 tk35 F36 N36 ⟨nr, tnr, rfl, hbis, rfl⟩
  have enr := npu nr hbis
  subst enr
  clear F35 N35 hbis npu
  k_steps
  refine Hold.un (ne_intB (b := false) (by simp) ?_)
  k_steps
  rename News _ _ _ _ => N37
  refine Hold.un ?_
  refine lst_ints (j := 4) N37 (.tail _ (.tail _ (.tail _ mS12))) si rfl (by lia) (by lia) fun t16 => ?_
  have hlel : (TT.lvs.map fun q => Value.ref q.1).length = 7 := by rw [List.length_map, lvn]
  have hr4 := sr (sn.getD 4 0) (by rw [List.getD_eq_getElem?_getD, List.getElem?_eq_getElem (by lia)]; exact List.getElem_mem _)
  k_steps
  rename News _ _ _ _ => N38
  refine Hold.un ?_
  have hmod : 0 ≤ (sn.getD 4 0).fmod 7 ∧ (sn.getD 4 0).fmod 7 < 7 := ⟨by rw [Int.fmod_eq_emod_of_nonneg _ (by decide)]; exact Int.emod_nonneg _ (by decide), by rw [Int.fmod_eq_emod_of_nonneg _ (by decide)]; exact Int.emod_lt_of_pos _ (by decide)⟩
  have hix : ((sn.getD 4 0).fmod 7).toNat < TT.lvs.length := by rw [lvn]; exact (Int.toNat_lt hmod.1).2 hmod.2
  have hobt : ∃ q, TT.lvs[((sn.getD 4 0).fmod 7).toNat] = q := ⟨_, rfl⟩
  obtain ⟨⟨qa, qb, qd⟩, hqe⟩ := hobt
  have hqm : (qa, qb, qd) ∈ TT.lvs := by rw [← hqe]; exact List.getElem_mem _
  refine lst_at (vs := TT.lvs.map fun q => Value.ref q.1) (x := .ref qa) N38 (.tail _ (.tail _ (.tail _ mle12))) (by first | exact hmod.1 | lia) ?_ (by lia) ?_
  · have e7 : ((7 : Nat) : Int) = 7 := rfl
    first
    | (rw [List.getElem?_map, List.getElem?_eq_getElem hix, hqe]; rfl)
    | (simp only [e7]; rw [List.getElem?_map, List.getElem?_eq_getElem hix, hqe]; rfl)
  have hobt := AT.In.lvs' hTT12 _ hqm
  obtain ⟨tq4, kq4, mq⟩ := hobt
  k_steps
  have qok : qd < 9 := lvs_ok TT okTT _ hqm
  rename Fr _ _ _ _ => F39
  rename News _ _ _ _ => N39
  refine Hold.un ?_
  have hput := AT.put_self N39 (.tail _ (.tail _ (.tail _ mq))) (hTT12.mono fun p hp => .tail _ (.tail _ (.tail _ hp)))
  have hmed := med_law qa TT okTT qok
  rw [hput, tTT] at hmed
  have okl := Tr.due_rng (AT.put_ok (q := qa) (v := 0) (by decide) okTT)
  have okh := Tr.due_rng (AT.put_ok (q := qa) (v := 8) (by decide) okTT)
  refine Spec.use (wth_spec (v := 0) okTT (hTT12.mono fun p hp => .tail _ (.tail _ (.tail _ hp))) (.tail _ (.tail _ (.tail _ mq))) (by decide)) B F39 X N39 TP (by exact rfl) (by k_extra "dp") (by k_extra "un") ?_
  rintro r17 n17 h39 tk39 F40 N40 ⟨⟨t17, rfl⟩, rfl⟩
  clear F39 N39
  k_steps
  rename Fr _ _ _ _ => F41
  rename News _ _ _ _ => N41
  refine Hold.un ?_
  refine Spec.use (wth_spec (v := 8) okTT (hTT12.mono fun p hp => .tail _ (.tail _ (.tail _ hp))) (.tail _ (.tail _ (.tail _ mq))) (by decide)) B F41 X N41 TP (by exact rfl) (by k_extra "dp") (by k_extra "un") ?_
  rintro r18 n18 h41 tk41 F42 N42 ⟨⟨t18, rfl⟩, rfl⟩
  clear F41 N41
  k_steps
  rename News _ _ _ _ => N43
  refine Hold.un ?_
  refine lst_at (vs := [lI qd tq4, .ref qb]) (x := lI qd tq4) N43 (.tail _ (.tail _ (.tail _ mq))) (by decide) rfl (show 2 < 2 ^ 62 by decide) ?_
  k_steps
  rename News _ _ _ _ => N44
  refine Hold.un ?_
  refine lst_ints (j := 4) N44 (.tail _ (.tail _ (.tail _ (.tail _ mS12)))) si rfl (by lia) (by lia) fun t19 => ?_
  k_steps
  rename Fr _ _ _ _ => F45
  rename News _ _ _ _ => N45
  refine Hold.un ?_
  clear hL hi hn C1 C0 PO hlen hsz l9 hmod hix hqe hqm hlel hj1 np1 nplast tTT
  have htt : 0 ≤ ((sn.getD 4 0).fdiv 7).fmod 3 ∧ ((sn.getD 4 0).fdiv 7).fmod 3 < 3 := ⟨by rw [Int.fmod_eq_emod_of_nonneg _ (by decide)]; exact Int.emod_nonneg _ (by decide), by rw [Int.fmod_eq_emod_of_nonneg _ (by decide)]; exact Int.emod_lt_of_pos _ (by decide)⟩
  have hq0 : 256 + (qd : Int) - 256 = (qd : Int) := by lia
  have hqr : 0 ≤ (qd : Int) ∧ (qd : Int) ≤ 8 := by lia
  rw [hq0] at N45
  refine name_tok N45 fun tqd N46' => ?_
  clear N45
  have N45 := N46'
  clear N46'
  have hobt := rot3 (((sn.getD 4 0).fdiv 7).fmod 3).toNat (by lia) (va := Value.int (AT.put qa 0 TT).tr.due t17) rfl (vb := Value.int (qd : Int) tqd) rfl (vc := Value.int (AT.put qa 8 TT).tr.due t18) rfl okl hqr okh
  obtain ⟨ra, rb, rc, ri, rm, rra, rrb, rrc⟩ := hobt
  rw [← hmed] at rm
  have e20 := pick_from [Value.int (AT.put qa 0 TT).tr.due t17, Value.int (qd : Int) tqd, Value.int (AT.put qa 8 TT).tr.due t18] htt.1
  have e21 := pick_upto [Value.int (AT.put qa 0 TT).tr.due t17, Value.int (qd : Int) tqd, Value.int (AT.put qa 8 TT).tr.due t18] htt.1
  refine kmk_slice_lit F45 N45 (News.isList N45 (.head _)) (.int _ _) .none e20 ?_ ?hs ?ht ?hz
  case hs => with_unfolding_all rfl
  case ht => intro _; with_unfolding_all rfl
  case hz => rw [sizeLine_eq]; show 3 ≤ _; decide
  intro sl1 h46 F46 N46 l46
  clear F45 N45
  k_steps
  rename Fr _ _ _ _ => F47
  rename News _ _ _ _ => N47
  refine Hold.un ?_
  refine kmk_slice_lit F47 N47 (News.isList N47 (.tail _ (.head _))) .none (.int _ _) e21 ?_ ?hs ?ht ?hz
  case hs => with_unfolding_all rfl
  case ht => intro _; with_unfolding_all rfl
  case hz => rw [sizeLine_eq]; show 3 ≤ _; decide
  intro sl2 h48 F48 N48 l48
  clear F47 N47
  k_steps
  rename Fr _ _ _ _ => F49
  rename News _ _ _ _ => N49
  refine Hold.un ?_
  refine kmk_add_lit F49 N49 (News.isList N49 (.tail _ (.head _))) (News.isList N49 (.head _)) rfl ?_ ?_
  rotate_left
  · rw [sizeLine_eq]
    show (List.drop _ [_, _, _]).length + (List.take _ [_, _, _]).length ≤ _
    rw [List.length_drop, List.length_take]
    exact Nat.le_trans (Nat.add_le_add (Nat.sub_le _ _) (Nat.min_le_right _ _)) (show 3 + 3 ≤ 16777216 by decide)
  intro md h50 F50 N50 l50
  clear F49 N49
  k_steps
  rename Fr _ _ _ _ => F51
  rename News _ _ _ _ => N51
  refine Hold.un ?_
  refine Spec.use (mid_spec (.head _) ri rra rrb rrc) B F51 X N51 TP (by exact rfl) (by k_extra "dp") (by k_extra "un") ?_
  rintro r22 n22 h51 tk51 F52 N52 ⟨⟨t22, rfl⟩, rfl⟩
  clear F51 N51
  k_steps
  refine Hold.un (eq_intB (b := true) (by rw [rm]; simp) ?_)
  k_steps
  rename Fr _ _ _ _ => F53
  rename News _ _ _ _ => N53
  exact LawD.mk F53 N53 (.tail _ (.tail _ (.tail _ (.tail _ (.tail _ (.tail _ (.head _))))))) (.tail _ (.tail _ (.tail _ (.tail _ (.tail _ (.tail _ (.tail _ m89_12))))))) rfl ab5
end
section
theorem kw_Flaw_0 : True := by
  k_with_none
  k_with "vat" => repeat' (first | exact List.forall_mem_nil _ | refine' List.forall_mem_cons.mpr ⟨?_, ?_⟩ | with_unfolding_all rfl)
  k_with "vrest" => first | ((repeat' (first | exact Vars.rest (by assumption) | exact vr_nil | exact vr_base | refine vr_upd ?_ (by with_unfolding_all rfl) | refine vr_set ?_ (by with_unfolding_all rfl))); done) | (intro zzz hzzz; (simp only [List.contains_cons, List.contains_nil, Bool.or_false, Bool.or_eq_false_iff, beq_eq_false_iff_ne, ne_eq] at hzzz); (simp [hzzz, upd, setL, baseOf, List.lookup]))
  k_with "exec For Name Name cons nil" => (refine' wpAny_For ?h ?hs; (case hs => (intro _; with_unfolding_all rfl)))
  k_with "exec For Name Call cons nil" => (refine' wpAny_For ?h ?hs; (case hs => (intro _; with_unfolding_all rfl)))
  k_with "exec For Name Attribute cons nil" => (refine' wpAny_For ?h ?hs; (case hs => (intro _; with_unfolding_all rfl)))
  k_with "sol" => all_goals (try (first | k_is | exact rfl | decide))
  k_with "sz" => first | omega | (simp only [List.length_append, List.length_cons, List.length_nil, List.length_map, List.length_replicate, List.length_reverse, List.length_set]; omega)
  k_with "sub" => first | exact Sub.refl _ | with_reducible assumption | exact Sub.nil | (refine Sub.cons ?_; k_extra "sub") | (refine Sub.trans (by with_reducible assumption) ?_; k_extra "sub") | fail "sub"
  k_with "member" => assumption
  k_with "ite" => first | with_reducible refine ite_tt ?_ | with_reducible refine ite_ff ?_
  k_with "execs nil" => refine wpAny_execs_nil ?_
  k_with "dp" => first | exact dpLe | omega
  k_with "un" => first | exact unLe | omega
  k_with "storeName" => (k_here; k_dflt (first | (refine' storeI ?_; intro q1zz) | (refine' storeS ?_; intro q1zz) | (refine' storeF ?_; intro q1zz) | refine' storeR ?_); k_whole; intro hpzz kpzz mpzz Fpzz Npzz; (try k_sweep))
  k_with "execs cons" => first | refine lastK ?_ | (refine cutK ?_; intro Qzz azz) | (refine enterK ?_; intro Qzz azz)
  k_with "KQ" => first | refine nextK (by assumption) ?_ | refine retK (by assumption) ?_ | refine impK (by assumption) ?_ | refine contK (by assumption) ?_ | refine brkK (by assumption) ?_
  k_with "KS" => refine stopK (by assumption) ?_
  k_with "exec If" => (refine ifK ?_; intro Qzz azz)
  k_with "KB" => refine ifB (by assumption) ?_
  k_with "KV" => refine stopV (by assumption) ?_
  exact True.intro
set_option maxHeartbeats 8000000 in
theorem law_holds (plain : ∀ t : Tr, t.ok → t.bare ∈ shp 2 → PlainOk t) : PySem.Challenge.rw_uj0011_01.Holds := by
  w_on
  refine holds_law law_said fun said => ?_
  refine holds_open (q := qm) (loose := lm) (Xt := fun s => xlAt qm [] s && recOk (RowW.records PySem.Challenge.rw_uj0011_01.row.toRowW) s) (XP := XL qm []) (Yf := Hook.obs HK) (Ya := Hook.val HK) (YP := Hook.says HK) (N := 5742) left_top (Hook.of HK) (Hook.keeps HK) (fun s e => xl_of s (Bool.and_eq_true_iff.mp e).1) XL.keeps (by rfl) (by rfl) (by rfl) (fun s e => recFacts_of (Bool.and_eq_true_iff.mp e).2) (by rfl) (by first | assumption | decide +kernel) (by decide +kernel) ⟨rfl, rfl, rfl, rfl, rfl, by decide +kernel⟩ ?hw ?hc
  case hw => w_witness2
  case hc =>
    intro w s₀ s₁ mg mb G Y fa o pm cd doc dV kV ho hd hcd hD hmg hg args vals as hpre hlay hrd hwl hlo
    have KX := km_in_of Y
    have hT8 := km_tabs_of Y
    have X := (Ground.X G).1
    have V := (Ground.X G).2
    refine Ground.open G ?_
    intro T B D TE TW
    try (refine guard_noD D (by decide +kernel) ?_; clear D)
    have hT9 : TabsAt ([(256, 252), (93, 89)] : List (Addr × Addr)) _ := List.forall_mem_cons.mpr ⟨⟨codeHd_of_K (c := 256) (P := 252) KX (by kernel_rfl), hT8 252 (by k_mem)⟩, List.forall_mem_cons.mpr ⟨⟨codeHd_of_K (c := 93) (P := 89) KX (by kernel_rfl), hT8 89 (by k_mem)⟩, fun _ h => nomatch h⟩⟩
    have he9 : cd = PySem.Value.ref 256 := law_code (x := PySem.Str.ofString "law") (c := 256) (P := 252) KX (Top.g T) (by kernel_rfl) hmg ho hd
    subst he9
    clear hmg
    wrow_args hpre hlay hrd hwl hlo
    first | refine callC_kw (enter_call ?_) | refine enter_call ?_
    w_top on
    refine kn_postB hT9 (fun _ _ => rfl) (post_ok _) ?_
    w_call any ho hd hcd hD T F
    clear hd
    kn_ghosts F T
    k_drop
    rename Fr _ _ _ _ => F9
    rename News _ _ _ _ => N9
    rename CellsAre _ _ _ => Y9
    rename Below _ _ _ _ => B9
    rename Frag.In _ _ => X9
    rename Top _ _ _ _ _ _ => T9
    rename Heap.IsList _ _ _ => L9
    rename IntsAre _ _ => I9
    refine' wpAny_mono ((law_walk (prog := _) (w := w) plain).walk ?ho _ _ _ _ fa _ _ _ _ _ _ _ _ _ _ _ _ _ B9 F9 X9 N9 Y9 T9 (by assumption) (by assumption) ?ab L9 I9 ?n63 ?lt ?dp ?un) ?fin (fun _ _ e => e.elim)
    case ho => k_is
    case dp => decide
    case un => decide
    case ab => exact .of_eq hg
    case n63 => omega
    case lt => assumption
    rintro fl s' ⟨rfl, eo, ab, m', ps1, ps2, rest', F10, N10⟩
    exact ⟨rfl, fun b o e => F10.keep b o e, eo, ab, GrownAt.of N10 (.head _), GrownAt.of N10 (.tail _ (.head _)), True.intro⟩
theorem law_final : PySem.Challenge.rw_uj0011_01.Holds := law_holds plain_ok
end
end Mine
theorem PySem.Challenge.cw_uj0011_01_holds : PySem.Challenge.rw_uj0011_01.Holds := by
  exact Mine.law_final
