import PyProof.Rows.All
import Wide.All
import OpenK.AllK
import Wide.FinOn
import Lean
import PySem.Challenge.RW_wf0029_01
set_option Elab.async false

-- Hd
open PySem PySem.W PyProof.Rows
namespace Mine
set_option maxRecDepth 100000
set_option maxHeartbeats 8000000
structure Box (x : Program) : Type where mk ::
noncomputable def nthS : List Stmt → Nat → Stmt
  | [], _ => .Pass default
  | a :: _, 0 => a
  | _ :: l, n + 1 => nthS l n
noncomputable def hd.view_39 : Program := by
  refine (?g : Box { PySem.Challenge.pw_wf0029_01 with main := { PySem.Challenge.pw_wf0029_01.main with body := [5, 6, 8, 10, 11, 12, 13, 14, 15, 16, 17, 18, 19, 20].map (nthS PySem.Challenge.pw_wf0029_01.main.body) } } → Program) ⟨⟩
  intro b
  dsimp only [PySem.Challenge.pw_wf0029_01, nthS, List.map] at b
  refine (?f : (x : Program) → Box x → Program) _ b
  exact fun x _ => x

theorem said_ok : OpenLaw.wellSaid PySem.Challenge.rw_wf0029_01 = true := by
  unfold OpenLaw.wellSaid OpenRow.wellSaid OpenRow.partSaid looksOpen
  simp only [PySem.W.Fast.te8377067652309620493, PySem.W.Fast.te8326940854005059898, PySem.W.Fast.te17119622794617984870, PySem.W.Fast.te13343964577679436407, PySem.W.Fast.te6984425678791042302, PySem.W.Fast.named_eq, PySem.W.Fast.te8179353310426384613]
  simp only [Bool.and_eq_true]
  (repeat' apply And.intro) <;> decide +kernel
theorem own_head (H : Hook) {d : DefRec} {kwd : List (Str × PySem.Expr)} (hdef : defOf hd.view_39 PySem.Challenge.rw_wf0029_01.row.name = some (d, kwd))
    (hl : LeftO PySem.Challenge.rw_wf0029_01.row.prog hd.view_39 [Str.ofString "insort_right", Str.ofString "bisect_right", Str.ofString "bisect_left", Str.ofString "COMPILER_FLAG_NAMES"] (fun s => xlAt hd.view_39 [] s && recOk (RowW.records PySem.Challenge.rw_wf0029_01.row.toRowW) s) (Hook.obs H) (Hook.val H) 1948)
    (hp : PySem.Challenge.rw_wf0029_01.row.prog.theDef PySem.Challenge.rw_wf0029_01.row.name = some (d.params, d.body, d.scope)) (hk : kwWritten? d.params.kwonlyargs d.params.kw_defaults = some kwd)
    (hw : PySem.Challenge.rw_wf0029_01.row.toRowW.promised)
    (hc : WalkO hd.view_39 [Str.ofString "insort_right", Str.ofString "bisect_right", Str.ofString "bisect_left", Str.ofString "COMPILER_FLAG_NAMES"] (XL hd.view_39 []) (Hook.says H) PySem.Challenge.rw_wf0029_01.row.toRowW d kwd fun f vs => PySem.call f vs) :
    PySem.Challenge.rw_wf0029_01.row.Holds :=
  holds_open hl (Hook.of H) (Hook.keeps H) (fun s e => xl_of s (Bool.and_eq_true_iff.mp e).1) XL.keeps hdef hp hk (fun s e => recFacts_of (Bool.and_eq_true_iff.mp e).2) (by rfl) (row_said said_ok) (by decide +kernel) ⟨rfl, rfl, rfl, rfl, rfl, by decide +kernel⟩ hw hc
theorem split_left {p q : Program} {loose : List Str} {Xt : Shared → Bool} {α : Type} {Yf : Shared → α} {Ya : World → α} {N : Nat} (row : String)
    (h1 : ∀ w : World, (fencedOpening treeTable p w N).map (fun s₀ => (topFrom treeTable p (w.withFollow row false) N s₀).map (openSeen q loose (importedModules p.main.body) Xt true)) = some (some (openGood q loose)))
    (h2 : ∀ w : World, (fencedOpening treeTable p w N).map (fun s₀ => (topFrom treeTable p (w.withFollow row true) N s₀).map (openSeen q loose (importedModules p.main.body) Xt true)) = some (some (openGood q loose)))
    (h3 : ∀ w : World, (fencedOpening treeTable p w N).map (fun s₀ => ((topFrom treeTable p (w.withFollow row false) N s₀).map Yf, (topFrom treeTable p (w.withFollow row true) N s₀).map Yf)) = some (some (Ya (w.withFollow row false)), some (Ya (w.withFollow row true)))) :
    LeftO p q loose Xt Yf Ya N := by
  refine LeftO.of_split row fun w => ?_
  have a := h1 w
  have b := h2 w
  have c := h3 w
  obtain ⟨s₀, e, c⟩ := Option.map_eq_some_iff.mp c
  rw [e] at a b ⊢
  have a := Option.some.inj a
  have b := Option.some.inj b
  obtain ⟨c1, c2⟩ := Prod.mk.inj c
  obtain ⟨s1, e1, c1⟩ := Option.map_eq_some_iff.mp c1
  obtain ⟨s2, e2, c2⟩ := Option.map_eq_some_iff.mp c2
  dsimp only at a b
  rw [e1] at a
  rw [e2] at b
  have a := Option.some.inj a
  have b := Option.some.inj b
  show some (Option.map _ (topFrom _ _ _ _ s₀), Option.map _ (topFrom _ _ _ _ s₀)) = _
  rw [e1, e2]
  show some (some (_, _), some (_, _)) = _
  rw [a, b, c1, c2]
theorem seen_no : ∀ w : World, (fencedOpening treeTable PySem.Challenge.rw_wf0029_01.row.prog w 1948).map (fun s₀ => (topFrom treeTable PySem.Challenge.rw_wf0029_01.row.prog (w.withFollow "special-get-raises" false) 1948 s₀).map (openSeen hd.view_39 [Str.ofString "insort_right", Str.ofString "bisect_right", Str.ofString "bisect_left", Str.ofString "COMPILER_FLAG_NAMES"] (importedModules (PySem.Challenge.rw_wf0029_01.row.prog).main.body) (fun s => xlAt hd.view_39 [] s && recOk (RowW.records PySem.Challenge.rw_wf0029_01.row.toRowW) s) true)) = some (some (openGood hd.view_39 [Str.ofString "insort_right", Str.ofString "bisect_right", Str.ofString "bisect_left", Str.ofString "COMPILER_FLAG_NAMES"])) := by
  intro w
  unfold fencedOpening topFrom
  simp only [PySem.W.Fast.te14364793385576792824, PySem.W.Fast.te4187177175401517315, PySem.W.Fast.te14082659384304107361, PySem.W.Fast.te1435165496053646825]
  kernel_rfl
theorem seen_yes : ∀ w : World, (fencedOpening treeTable PySem.Challenge.rw_wf0029_01.row.prog w 1948).map (fun s₀ => (topFrom treeTable PySem.Challenge.rw_wf0029_01.row.prog (w.withFollow "special-get-raises" true) 1948 s₀).map (openSeen hd.view_39 [Str.ofString "insort_right", Str.ofString "bisect_right", Str.ofString "bisect_left", Str.ofString "COMPILER_FLAG_NAMES"] (importedModules (PySem.Challenge.rw_wf0029_01.row.prog).main.body) (fun s => xlAt hd.view_39 [] s && recOk (RowW.records PySem.Challenge.rw_wf0029_01.row.toRowW) s) true)) = some (some (openGood hd.view_39 [Str.ofString "insort_right", Str.ofString "bisect_right", Str.ofString "bisect_left", Str.ofString "COMPILER_FLAG_NAMES"])) := by
  intro w
  unfold fencedOpening topFrom
  simp only [PySem.W.Fast.te14364793385576792824, PySem.W.Fast.te4187177175401517315, PySem.W.Fast.te14082659384304107361, PySem.W.Fast.te1435165496053646825]
  kernel_rfl
local macro_rules | `(tactic| o_law) => `(tactic| refine holds_law said_ok fun _ => ?_)
local macro_rules | `(tactic| o_head $H) => `(tactic| (
  refine own_head $H (by rfl) ?hl (by rfl) (by rfl) ?hw ?hc
  case hl => (refine split_left _ seen_no seen_yes ?_; intro w; unfold fencedOpening topFrom; simp only [PySem.W.Fast.te14364793385576792824, PySem.W.Fast.te14082659384304107361, PySem.W.Fast.te1435165496053646825]; kernel_rfl)))
open_top hd for PySem.Challenge.rw_wf0029_01
end Mine

-- L1
open PySem PySem.W PyProof.Rows PySem.Spec PySem.Calls
set_option maxRecDepth 100000
namespace Mine

theorem lt3 {b : Nat} (h : b < 3) : b = 0 ∨ b = 1 ∨ b = 2 := (by decide : ∀ b < 3, b = 0 ∨ b = 1 ∨ b = 2) b h
theorem lt4 {b : Nat} (h : b < 4) : b = 0 ∨ b = 1 ∨ b = 2 ∨ b = 3 := (by decide : ∀ b < 4, b = 0 ∨ b = 1 ∨ b = 2 ∨ b = 3) b h
theorem lt8 {m : Nat} (h : m < 8) : m = 0 ∨ m = 1 ∨ m = 2 ∨ m = 3 ∨ m = 4 ∨ m = 5 ∨ m = 6 ∨ m = 7 := (by decide : ∀ m < 8, m = 0 ∨ m = 1 ∨ m = 2 ∨ m = 3 ∨ m = 4 ∨ m = 5 ∨ m = 6 ∨ m = 7) m h
theorem lt3i {z : Int} (h0 : 0 ≤ z) (h : z < 3) : z = 0 ∨ z = 1 ∨ z = 2 := by
  obtain ⟨n, rfl⟩ := Int.eq_ofNat_of_zero_le h0
  rcases lt3 (Int.ofNat_lt.mp h) with rfl | rfl | rfl
  · exact .inl rfl
  · exact .inr (.inl rfl)
  · exact .inr (.inr rfl)
theorem sub_dec {i n : Nat} (h : i < n) : n + 1 - (i + 1) < n + 1 - i := by omega
theorem sub_one32 {i : Nat} (h : i < 32) : 32 - i = 32 - (i + 1) + 1 := by omega
/-- room: u + k is below c, so is u + j -/
theorem room1 {u k j c : Nat} (h : u + k < c) (e : j ≤ k) : u + j < c := Nat.lt_of_le_of_lt (Nat.add_le_add_left e u) h
theorem room2 {u k i j c : Nat} (h : u + k < c) (e : i + j ≤ k) : u + i + j < c := Nat.add_assoc u i j ▸ room1 h e
theorem room3 {u k i j l c : Nat} (h : u + k < c) (e : i + j + l ≤ k) : u + i + j + l < c := by rw [Nat.add_assoc u i j]; exact room2 h e

/-- keeps what stands under a name from being put back in its place -/
theorem hold {P : Prop} (h : P) : P := h
/-- the goal under a name of its own -/
theorem hideG {P : Prop} (h : ∀ G : Prop, (P → G) → G) : P := h P id
/-- the continuation under a name of its own -/
theorem wpQ {prog : Program} {w : World} {A : Around} {α : Type} {x : Sem α} {Q : α → Shared → Prop} {E : Value → Shared → Prop} {s : Shared}
  (h : ∀ Q' : α → Shared → Prop, (∀ v s', Q v s' → Q' v s') → wpAny (model prog w) A x Q' E s) : wpAny (model prog w) A x Q E s := h Q fun _ _ h => h


/-- the names' map under a name of its own -/
theorem letF {g h : Heap} {L : Addr} {m : Str → Option Value} {P : Prop} (F : Fr g L h m) (k : let m' := m; Fr g L h m' → P) : P := k F

/-- what a turn that goes on leaves behind -/
noncomputable def Nx (h₀ : Heap) (L : Addr) (J : (Str → Option Value) → List (Addr × Obj) → Prop) (I : Addr) (o : Obj) (s s₂ : Shared) : Prop :=
  ∃ h tk m news, s₂ = { s with heap := h, toks := tk } ∧ Fr h₀ L h m ∧ News h₀ L h ((I, o) :: news) ∧ (∀ p ∈ news, p.1 ≠ I) ∧ J m news
/-- the end of a turn -/
noncomputable def TurnX (h₀ : Heap) (L : Addr) (J : (Str → Option Value) → List (Addr × Obj) → Prop) (I : Addr) (o : Obj) (s : Shared) (Q : Flow → Shared → Prop) (f : Flow) (s₂ : Shared) : Prop :=
  match f with
  | .ret v => Q (.ret v) s₂
  | .brk => Q .next s₂
  | .cont => Nx h₀ L J I o s s₂
  | .next => Nx h₀ L J I o s s₂

section
variable {prog : Program} {w : World} {A : Around} {s : Shared} {env : Env} {h₀ : Heap} {target : Expr} {body : List Stmt} {Q : Flow → Shared → Prop}


/-- a for over a list: any target, it may leave early -/
theorem for_list {l : Addr} {vs : List Value} {m₀ : Str → Option Value} {news : List (Addr × Obj)} {E' : Value → Shared → Prop}
    (St : Nat → (Str → Option Value) → List (Addr × Obj) → Prop)
    (hh : A.handled = none) (hsrc : ∀ i m nw, St i m nw → LCg.SrcAt h₀ l vs.toArray nw) (hlL : l ≠ env.locals)
    (F : Fr h₀ env.locals s.heap m₀) (N : News h₀ env.locals s.heap news) (h0 : St 0 m₀ news)
    (turn : ∀ i v m₁ news₁ I o h tk, vs[i]? = some v → St i m₁ news₁ → Fr h₀ env.locals h m₁ → News h₀ env.locals h ((I, o) :: news₁) → (∀ p ∈ news₁, p.1 ≠ I) →
      wpAny (model prog w) A (assign target env v) (fun _ s₃ => wpAny (model prog w) A (execs body env)
        (TurnX h₀ env.locals (St (i + 1)) I o s Q) (fun _ _ => False) s₃) (fun _ _ => False) { s with heap := h, toks := tk })
    (done : ∀ m₁ news₁ h tk, St vs.length m₁ news₁ → Fr h₀ env.locals h m₁ → News h₀ env.locals h news₁ → Q .next { s with heap := h, toks := tk }) :
    wpAny (model prog w) A (pyIter (.ref l)) (fun it s₂ => codeAny (model prog w) A (.forLoop target it body [] env)
      (fun r s' => match r with | .ok f => Q f s' | .error e => cameBackBy (model prog w) A env E' e s') s₂) E' s := by
  have hls : s.heap.IsList l vs.toArray := (hsrc _ _ _ h0).list F.keep N
  refine wpAny_pyIter_list hls ?_
  have hIL : s.heap.objs.size ≠ env.locals := Ne.symm (Nat.ne_of_lt F.ns.lt)
  have hI0 : h₀.get? s.heap.objs.size = none := next_is_new F
  refine codeAny_forLoop_any
    (fun k s' => ∃ h tk m nw i, s' = { s with heap := h, toks := tk } ∧ Fr h₀ env.locals h m ∧ News h₀ env.locals h nw ∧ (∀ p ∈ nw, p.1 ≠ s.heap.objs.size) ∧
      h.IsListIter s.heap.objs.size l i ∧ St i m nw ∧ i ≤ vs.length ∧ k = vs.length + 1 - i) ?_ (vs.length + 1)
    ⟨_, s.toks, m₀, news, 0, rfl, F.push _, (fun p hp => ⟨Heap.get?_push_of_some _ (N p hp).1, (N p hp).2⟩),
      (fun p hp => Nat.ne_of_lt (Heap.lt_size (N p hp).1)), ⟨_, Heap.get?_push_size _ rfl, rfl, rfl⟩, h0, Nat.zero_le _, rfl⟩
  rintro k s' ⟨h, tk, m, nw, i, rfl, F', N', hoff, hit, hJ, hi, rfl⟩
  have hl' : h.IsList l vs.toArray := (hsrc _ _ _ hJ).list F'.keep N'
  have hne : l ≠ s.heap.objs.size := by
    rintro rfl
    obtain ⟨o, ho, hc, _⟩ := hl'
    obtain ⟨o', ho', hc', _⟩ := hit
    rw [ho] at ho'
    cases ho'
    rw [hc] at hc'
    exact absurd (Value.type.inj hc') (by decide)
  by_cases hlt : i < vs.length
  · refine wpAny_pyNext_list_item hit hl' (x := vs[i]) (by simp [hlt]) fun h₁ hit₁ hs₁ => ?_
    obtain ⟨oI, hoI, _⟩ := id hit₁
    have F₁ : Fr h₀ env.locals h₁ m := ⟨F'.ns.at' fun o e => hs₁.extBut _ o (Ne.symm hIL) e, fun b o e => hs₁.extBut b o (by rintro rfl; rw [hI0] at e; cases e) (F'.keep b o e), F'.above⟩
    have N₁ : News h₀ env.locals h₁ ((s.heap.objs.size, oI) :: nw) := by
      intro p hp
      rcases List.mem_cons.mp hp with rfl | hp
      · exact ⟨hoI, hIL, hI0⟩
      · exact ⟨hs₁.extBut _ _ (hoff p hp) (N' p hp).1, (N' p hp).2⟩
    refine letGo_listiter hit₁ ?_
    refine wpAny_mono (turn i vs[i] m nw _ oI h₁ _ (by simp [hlt]) hJ F₁ N₁ hoff) (fun _ s₃ h₃ => wpAny_mono h₃ (fun f s₄ h₄ => ?_) fun _ _ x => x.elim) fun _ _ x => x.elim
    have go : Nx h₀ env.locals (St (i + 1)) s.heap.objs.size oI s s₄ → ∃ k, k < vs.length + 1 - i ∧ ∃ h tk m nw i, s₄ = { s with heap := h, toks := tk } ∧ Fr h₀ env.locals h m ∧ News h₀ env.locals h nw ∧ (∀ p ∈ nw, p.1 ≠ s.heap.objs.size) ∧
        h.IsListIter s.heap.objs.size l i ∧ St i m nw ∧ i ≤ vs.length ∧ k = vs.length + 1 - i := by
      rintro ⟨H₄, tk₄, m₄, nw₄, rfl, F₄, N₄, off₄, hJ₄⟩
      refine ⟨vs.length + 1 - (i + 1), sub_dec hlt, H₄, tk₄, m₄, nw₄, i + 1, rfl, F₄, fun p hp => N₄ p (List.mem_cons_of_mem _ hp), off₄, ?_, hJ₄, hlt, rfl⟩
      obtain ⟨o', ho', r⟩ := id hit₁
      rw [hoI] at ho'
      cases ho'
      exact ⟨oI, (N₄ _ (List.mem_cons_self)).1, r⟩
    cases f with
    | ret v => exact h₄
    | brk => exact h₄
    | cont => exact go h₄
    | next => exact go h₄
  · have hin : i = vs.length := by omega
    subst hin
    refine wpAny_pyNext_list_end hh hit hl' (by simp) fun h₁ hs₁ => wpAny_execs_nil ?_
    refine done m nw h₁ _ hJ ⟨F'.ns.at' fun o e => hs₁ _ o (Ne.symm hIL) e, fun b o e => hs₁ b o (by rintro rfl; rw [hI0] at e; cases e) (F'.keep b o e), F'.above⟩ ?_
    exact fun p hp => ⟨hs₁ _ _ (hoff p hp) (N' p hp).1, (N' p hp).2⟩
end
end Mine

-- D1
open PySem PySem.W PyProof.Rows PySem.Spec PySem.Calls
set_option maxRecDepth 100000
namespace Mine
structure RowD where
  c0 : Int
  c1 : Nat
  c2 : Int
noncomputable abbrev tup (vs : List Value) (n : Nat) : Obj := ⟨.type "tuple", none, .seq vs.toArray n, #[]⟩
/-- the text of the first k signs of "ab" -/
noncomputable def abT (k : Nat) : Str := ⟨([97, 98].take k).toArray⟩
noncomputable def IsRowX (news : List (Addr × Obj)) (v : Value) (r : RowD) (ex : List Value) : Prop :=
  r.c1 ≤ 2 ∧ ∃ a t0 t1 t2 n, v = .ref a ∧ (a, tup (.int r.c0 t0 :: .str (abT r.c1) t1 :: .int r.c2 t2 :: ex) n) ∈ news
noncomputable def IsRow (news : List (Addr × Obj)) (v : Value) (r : RowD) : Prop := ∃ ex, IsRowX news v r ex
noncomputable def IsKey (news : List (Addr × Obj)) (v : Value) (k : Int × Int) : Prop :=
  ∃ a t t' n, v = .ref a ∧ (a, tup [.int k.1 t, .int k.2 t'] n) ∈ news
noncomputable def Each {α : Type} (R : Value → α → Prop) (vs : List Value) (ds : List α) : Prop :=
  vs.length = ds.length ∧ ∀ (i : Nat) v d, vs[i]? = some v → ds[i]? = some d → R v d
noncomputable abbrev lstO (vs : List Value) (n : Nat) : Obj := ⟨.type "list", none, .seq vs.toArray n, #[]⟩
noncomputable def IsKeys (news : List (Addr × Obj)) (v : Value) (ks : List (Int × Int)) : Prop :=
  ∃ l vs n, v = .ref l ∧ (l, lstO vs n) ∈ news ∧ Each (IsKey news) vs ks
noncomputable def IsJudge (news : List (Addr × Obj)) (v : Value) (ks : List (Int × Int)) : Prop :=
  ∃ j dx hsh tok kv n, v = .ref j ∧ (j, instObj 73 dx) ∈ news ∧ (dx, dictOf [⟨hsh, .str (Str.ofString "comp_select_list") tok, kv⟩] n) ∈ news ∧ IsKeys news kv ks
noncomputable def okKeys (ks : List (Int × Int)) : Prop := ∀ k ∈ ks, 0 ≤ k.1 ∧ k.1 < 3 ∧ (k.2 = 1 ∨ k.2 = -1)
noncomputable def col (i : Int) (r : RowD) : Int := if i = 0 then r.c0 else if i = 1 then r.c1 else r.c2
noncomputable def cmp : List (Int × Int) → RowD → RowD → Int
  | [], _, _ => 0
  | k :: ks, a, b => if col k.1 a < col k.1 b then - k.2 else if col k.1 b < col k.1 a then k.2 else cmp ks a b
theorem ab_lt {a b : Nat} (ha : a ≤ 2) (hb : b ≤ 2) : ((abT a).cps.toList < (abT b).cps.toList) ↔ a < b := by
  have h1 : a = 0 ∨ a = 1 ∨ a = 2 := lt3 (Nat.lt_succ_of_le ha)
  have h2 : b = 0 ∨ b = 1 ∨ b = 2 := lt3 (Nat.lt_succ_of_le hb)
  rcases h1 with rfl | rfl | rfl <;> rcases h2 with rfl | rfl | rfl <;> decide
section mono
variable {news news' : List (Addr × Obj)} (hs : ∀ p ∈ news, p ∈ news')
include hs
theorem IsRowX.mono {v : Value} {r : RowD} {ex : List Value} (h : IsRowX news v r ex) : IsRowX news' v r ex := by
  obtain ⟨h0, a, t0, t1, t2, n, e, hm⟩ := h
  exact ⟨h0, a, t0, t1, t2, n, e, hs _ hm⟩
theorem IsRow.mono {v : Value} {r : RowD} (h : IsRow news v r) : IsRow news' v r := h.imp fun _ h => h.mono hs
theorem IsKey.mono {v : Value} {k : Int × Int} (h : IsKey news v k) : IsKey news' v k := by
  obtain ⟨a, t, t', n, e, hm⟩ := h
  exact ⟨a, t, t', n, e, hs _ hm⟩
theorem IsKeys.mono {v : Value} {ks : List (Int × Int)} (h : IsKeys news v ks) : IsKeys news' v ks := by
  obtain ⟨l, vs, n, e, hm, hl, he⟩ := h
  exact ⟨l, vs, n, e, hs _ hm, hl, fun i v d a b => (he i v d a b).mono hs⟩
theorem IsJudge.mono {v : Value} {ks : List (Int × Int)} (h : IsJudge news v ks) : IsJudge news' v ks := by
  obtain ⟨j, dx, hsh, tok, kv, n, e, h1, h2, h3⟩ := h
  exact ⟨j, dx, hsh, tok, kv, n, e, hs _ h1, hs _ h2, h3.mono hs⟩
end mono
end Mine

-- L2
open PySem PySem.W PyProof.Rows PySem.Spec PySem.Calls
set_option maxRecDepth 100000
namespace Mine
noncomputable def Junk (xs : List Str) (m₀ m : Str → Option Value) : Prop := ∃ u : Str → Option Value, m = fun z => if xs.contains z then u z else m₀ z
theorem Junk.intro {xs : List Str} {m₀ m : Str → Option Value} (h : ∀ z, xs.contains z = false → m z = m₀ z) : Junk xs m₀ m := by
  refine ⟨m, funext fun z => ?_⟩
  cases e : xs.contains z with
  | true => simp
  | false => simp [h z e]
theorem Junk.refl {xs : List Str} {m₀ : Str → Option Value} : Junk xs m₀ m₀ := Junk.intro fun _ _ => rfl

theorem int_eq {x y : Int} {t : Tok} (h : x = y) : ∃ t', Value.int x t = .int y t' := ⟨t, by rw [h]⟩
theorem ab_len {k : Nat} (h : k ≤ 2) : (abT k).length = k := by
  have h1 : k = 0 ∨ k = 1 ∨ k = 2 := lt3 (Nat.lt_succ_of_le h)
  rcases h1 with rfl | rfl | rfl <;> decide
theorem N_tail {h₀ h : Heap} {L : Addr} {x : Addr × Obj} {news : List (Addr × Obj)} (N : News h₀ L h (x :: news)) : News h₀ L h news := fun p hp => N p (List.mem_cons_of_mem _ hp)
section
variable {prog : Program} {w : World} {A : Around} {s : Shared} {env : Env} {h₀ : Heap} {target : Expr} {body : List Stmt} {Q : Flow → Shared → Prop}
/-- a loop that stores nothing of worth: a search -/
theorem for_search {l : Addr} {vs : List Value} {m₀ : Str → Option Value} {news : List (Addr × Obj)} {E' : Value → Shared → Prop} (xs : List Str) (P : Nat → Prop)
    (hh : A.handled = none) {n : Nat} (hsrc : (l, (⟨.type "list", none, .seq vs.toArray n, #[]⟩ : Obj)) ∈ news) (hlL : l ≠ env.locals)
    (F : Fr h₀ env.locals s.heap m₀) (N : News h₀ env.locals s.heap news) (h0 : P 0)
    (turn : ∀ i v (u : Str → Option Value) I o h tk, vs[i]? = some v → P i → Fr h₀ env.locals h (fun z => if xs.contains z then u z else m₀ z) → News h₀ env.locals h ((I, o) :: news) → (∀ p ∈ news, p.1 ≠ I) →
      wpAny (model prog w) A (assign target env v) (fun _ s₃ => wpAny (model prog w) A (execs body env)
        (TurnX h₀ env.locals (fun m nw => nw = news ∧ Junk xs m₀ m ∧ P (i + 1)) I o s Q) (fun _ _ => False) s₃) (fun _ _ => False) { s with heap := h, toks := tk })
    (done : ∀ (u : Str → Option Value) h tk, P vs.length → Fr h₀ env.locals h (fun z => if xs.contains z then u z else m₀ z) → News h₀ env.locals h news → Q .next { s with heap := h, toks := tk }) :
    wpAny (model prog w) A (pyIter (.ref l)) (fun it s₂ => codeAny (model prog w) A (.forLoop target it body [] env)
      (fun r s' => match r with | .ok f => Q f s' | .error e => cameBackBy (model prog w) A env E' e s') s₂) E' s := by
  refine for_list (fun i m nw => nw = news ∧ Junk xs m₀ m ∧ P i) hh (fun i m nw h => .inr ⟨_, h.1 ▸ hsrc, rfl, _, rfl⟩) hlL F N ⟨rfl, .refl, h0⟩ ?_ ?_
  · rintro i v m₁ nw I o h tk hv ⟨rfl, ⟨u, rfl⟩, hP⟩ F₁ N₁ off
    exact turn i v u I o h tk hv hP F₁ N₁ off
  · rintro m₁ nw h tk ⟨rfl, ⟨u, rfl⟩, hP⟩ F₁ N₁
    exact done u h tk hP F₁ N₁

/-- a loop that turns one name -/
theorem for_one {l : Addr} {vs : List Value} {m₀ : Str → Option Value} {news : List (Addr × Obj)} {E' : Value → Shared → Prop} (y : Str) (xs : List Str) (P : Nat → Value → Prop) {v₀ : Value}
    (hh : A.handled = none) {n : Nat} (hsrc : (l, (⟨.type "list", none, .seq vs.toArray n, #[]⟩ : Obj)) ∈ news) (hlL : l ≠ env.locals)
    (F : Fr h₀ env.locals s.heap m₀) (N : News h₀ env.locals s.heap news) (hy : m₀ y = some v₀) (h0 : P 0 v₀)
    (turn : ∀ i v (u : Str → Option Value) b I o h tk, vs[i]? = some v → P i b → Fr h₀ env.locals h (fun z => if xs.contains z then u z else if z = y then some b else m₀ z) → News h₀ env.locals h ((I, o) :: news) → (∀ p ∈ news, p.1 ≠ I) →
      wpAny (model prog w) A (assign target env v) (fun _ s₃ => wpAny (model prog w) A (execs body env)
        (TurnX h₀ env.locals (fun m nw => nw = news ∧ ∃ b, P (i + 1) b ∧ Junk xs (fun z => if z = y then some b else m₀ z) m) I o s Q) (fun _ _ => False) s₃) (fun _ _ => False) { s with heap := h, toks := tk })
    (done : ∀ (u : Str → Option Value) b h tk, P vs.length b → Fr h₀ env.locals h (fun z => if xs.contains z then u z else if z = y then some b else m₀ z) → News h₀ env.locals h news → Q .next { s with heap := h, toks := tk }) :
    wpAny (model prog w) A (pyIter (.ref l)) (fun it s₂ => codeAny (model prog w) A (.forLoop target it body [] env)
      (fun r s' => match r with | .ok f => Q f s' | .error e => cameBackBy (model prog w) A env E' e s') s₂) E' s := by
  refine for_list (fun i m nw => nw = news ∧ ∃ b, P i b ∧ Junk xs (fun z => if z = y then some b else m₀ z) m) hh (fun i m nw h => .inr ⟨_, h.1 ▸ hsrc, rfl, _, rfl⟩) hlL F N ⟨rfl, v₀, h0, Junk.intro fun z _ => ?_⟩ ?_ ?_
  · by_cases e : z = y
    · rw [if_pos e, e, hy]
    · rw [if_neg e]
  · rintro i v m₁ nw I o h tk hv ⟨rfl, b, hP, ⟨u, rfl⟩⟩ F₁ N₁ off
    exact turn i v u b I o h tk hv hP F₁ N₁ off
  · rintro m₁ nw h tk ⟨rfl, b, hP, ⟨u, rfl⟩⟩ F₁ N₁
    exact done u b h tk hP F₁ N₁
theorem nx_one {L : Addr} {h : Heap} {tk : Nat} {m' m₀ : Str → Option Value} {news : List (Addr × Obj)} {I : Addr} {o : Obj} {y : Str} {xs : List Str} {b : Value} {P : Value → Prop}
    (F : Fr h₀ L h m') (N : News h₀ L h ((I, o) :: news)) (off : ∀ p ∈ news, p.1 ≠ I) (hb : m' y = some b) (hP : P b) (hj : ∀ z, xs.contains z = false → z ≠ y → m' z = m₀ z) :
    Nx h₀ L (fun m nw => nw = news ∧ ∃ b, P b ∧ Junk xs (fun z => if z = y then some b else m₀ z) m) I o s { s with heap := h, toks := tk } := by
  refine ⟨h, tk, m', news, rfl, F, N, off, rfl, b, hP, Junk.intro fun z hz => ?_⟩
  by_cases e : z = y
  · rw [if_pos e, e, hb]
  · rw [if_neg e, hj z hz e]
theorem assign_pair {E : Value → Shared → Prop} {a b : Str} {pa pb tp : Pos} {kk : Nat} {T : Addr} {x y : Value} {n : Nat} {m : Str → Option Value} {news : List (Addr × Obj)} {Q : Unit → Shared → Prop} (hh : A.handled = none)
    (F : Fr h₀ env.locals s.heap m) (N : News h₀ env.locals s.heap news) (hT : (T, tup [x, y] n) ∈ news)
    (ha : env.kindOf a = some .local) (hb : env.kindOf b = some .local) (hp : (env.scope.kind == .class || (env.scope.kind == .module && env.locals != env.globals)) = false)
    (h : ∀ h' tk, Fr h₀ env.locals h' (fun z => if z = b then some y else if z = a then some x else m z) → News h₀ env.locals h' news → Q () { s with heap := h', toks := tk }) :
    wpAny (model prog w) A (assign (.Tuple [.Name a pa, .Name b pb] kk tp) env (.ref T)) Q E s := by
  refine kcp_assign hh ⟨_, (N _ hT).1, rfl, _, rfl⟩ ha hb hp F.ns fun h' tk hn hk => ?_
  refine h h' tk ⟨hn, fun b o e => hk b o (Nat.ne_of_lt (Nat.lt_of_lt_of_le (Heap.lt_size e) F.above)) (F.keep b o e), F.above⟩ ?_
  exact fun p hp => ⟨hk _ _ (N p hp).2.1 (N p hp).1, (N p hp).2⟩

variable {E : Value → Shared → Prop} {L : Addr} {news : List (Addr × Obj)}
theorem sub_tup {value slice : PySem.Expr} {T : Addr} {vs : List Value} {n : Nat} {k : Nat} {i : Int} {u : Tok} {v : Value} {Q : Value → Shared → Prop} (N : News h₀ L s.heap news) (hT : (T, tup vs n) ∈ news) (hi : i = (k : Int)) (hk : k < 2 ^ 62) (hv : vs[k]? = some v) (h : Q v s)
    (hs : subscripted slice false (.ref T) (.int i u) = operate [.ref T, .int i u] (getItem (.ref T) (.int i u)) := by with_unfolding_all rfl) :
    wpAny (model prog w) A (subscriptTail value slice (.ref T) (.int i u)) Q E s := by
  subst hi
  have hlt : k < vs.length := (List.getElem?_eq_some_iff.mp hv).1
  refine item_tupleT (l := vs) (j := k) ⟨_, (N _ hT).1, rfl, _, rfl⟩ (by omega) (by omega) ?_ hv h hs
  unfold seqIndex?
  simp
  omega
theorem sub_lst {value slice : PySem.Expr} {T : Addr} {vs : List Value} {n : Nat} {k : Nat} {i : Int} {u : Tok} {v : Value} {Q : Value → Shared → Prop} (N : News h₀ L s.heap news) (hT : (T, (⟨.type "list", none, .seq vs.toArray n, #[]⟩ : Obj)) ∈ news) (hi : i = (k : Int)) (hk : k < 2 ^ 62) (hv : vs[k]? = some v) (h : Q v s)
    (hs : subscripted slice false (.ref T) (.int i u) = operate [.ref T, .int i u] (getItem (.ref T) (.int i u)) := by with_unfolding_all rfl) :
    wpAny (model prog w) A (subscriptTail value slice (.ref T) (.int i u)) Q E s := by
  subst hi
  exact item_litK (vs := vs) ⟨_, (N _ hT).1, rfl, _, rfl⟩ (by omega) (by omega) (by simpa using hv) h hs
end
end Mine

-- L3
open PySem PySem.W PyProof.Rows PySem.Spec PySem.Calls
set_option maxRecDepth 100000
namespace Mine
theorem allLt_ne {d : Addr} : ∀ {l : List (Addr × Obj)}, AllLt d l → ∀ p ∈ l, p.1 ≠ d
  | [], _, p, hp => nomatch hp
  | q :: r, h, p, hp => by
    rcases List.mem_cons.mp hp with rfl | hp
    · exact Nat.ne_of_lt h.1
    · exact allLt_ne h.2 p hp
section
variable {prog : Program} {w : World} {A : Around} {E : Value → Shared → Prop} {s : Shared} {h₀ : Heap} {L D b : Addr} {m : Str → Option Value} {news news' : List (Addr × Obj)}
/-- names += [..] -/
theorem iadd_lists {xs ys : List Value} {n n2 : Nat} {Q : Value → Shared → Prop} (F : Fr h₀ L s.heap m) (N : News h₀ L s.heap news) (hb : (b, lstO ys n2) ∈ news) (hne : ys.length ≠ 0) (hx : xs.length ≤ 1000) (hy : ys.length ≤ 1000)
    (U : Upd D (lstO xs n) (lstO (xs ++ ys) (n + 1)) news news') (h : ∀ h', Fr h₀ L h' m → News h₀ L h' news' → Q (.ref D) { s with heap := h' }) :
    wpAny (model prog w) A (inplaceOp .Add (.ref D) (.ref b)) Q E s := by
  refine hideG ?_
  intro G hG
  obtain ⟨pre, post, rfl, rfl, a, c⟩ := U.split
  refine hG ?_
  clear hG G
  have z := N (D, lstO xs n) (List.mem_append.mpr (.inr (.head _)))
  have ta : s.TypeIs (.ref D) "list" := ⟨_, z.1, rfl⟩
  have tb : s.TypeIs (.ref b) "list" := ⟨_, (N _ hb).1, rfl⟩
  unfold inplaceOp
  refine wpAny_holding ?_
  have hfi : fillsInplaceSlot (.type "list") "add" (Operator.Add == .Add) = pure false := by
    unfold fillsInplaceSlot
    show (typeLookup (.type "list") (dunderI "add") >>= fun fi => pure (fi.isSome && !isSeqSlot fi)) = pure false
    rw [PySem.F.slot_list_iadd.lookup, pure_bind]
    exact congrArg pure (by decide +kernel)
  have hsi : seqSlot? (.type "list") (dunderI "add") = pure (some (.builtin "list.__iadd__")) := PySem.seqSlot_of PySem.F.slot_list_iadd.lookup (by decide +kernel)
  refine wpAny_bind (wpAny_typeOf ta (wpAny_bind (wpAny_of_eq hfi ?_)))
  show wpAny _ A (if false = true then _ else _) Q E s
  rw [if_neg Bool.false_ne_true]
  refine wpAny_bind (wpAny_binaryOp1_none (nm := "add") ta tb noFill_list_add ?_)
  refine wpAny_bind (wpAny_of_eq hsi ?_)
  refine wpAny_bind (wpAny_rule ?_)
  have hl1 : sizeLine = 16777216 := sizeLine_eq
  refine call_meets PySem.F.slot_list_iadd ta PySem.F.entry_list_iadd (PySem.F.args_list_iadd_2 _ _)
    (PySem.AutoSeq1.list___iadd___list_list_0 D xs.toArray n b ys.toArray n2 ?_ ?_ ?_) ⟨z.1, (N _ hb).1, ?_⟩
  · unfold Builtin.List.listTooLong
    simp
    intro _
    omega
  · simp; omega
  · simp; omega
  · refine h _ (F.change (Heap.SameBut.update ..) z.2.1 z.2.2) (kl_turn _ N a c ?_ ?_)
    · apply Array.toList_inj.mp; simp
    · simp
      intro e
      exact hne (by rw [e]; rfl)
end
end Mine

-- L4
open PySem PySem.W PyProof.Rows PySem.Spec PySem.Calls
set_option maxRecDepth 100000
namespace Mine
section
variable {prog : Program} {w : World} {A : Around} {s : Shared} {env : Env} {h₀ : Heap} {target : Expr} {body orelse : List Stmt} {Q : Flow → Shared → Prop}
/-- a for over any iterator that walks; with an else -/
theorem for_walk {I : Addr} {fp : List Addr} {n : Nat} {P : Nat → Value → Prop} {St : Nat → Heap → Prop} {S : List (Addr × Obj) → Prop} {m₀ : Str → Option Value} {news : List (Addr × Obj)} {E' : Value → Shared → Prop}
    (W : Walks prog w A I fp [I] n P St) (hIo : ∀ i h, St i h → ∃ o, h.get? I = some o)
    (hSt : ∀ i h h' o nw, St i h → h.get? I = some o → h'.get? I = some o → (∀ b o, h₀.get? b = some o → h'.get? b = some o) → News h₀ env.locals h' nw → S nw → St i h')
    (hgo : ∀ i (s' : Shared) v (Q' : Unit → Shared → Prop), St i s'.heap → Q' () s' → wpAny (model prog w) A (letOwnedTupleGo target (.ref I) v) Q' (fun _ _ => False) s')
    (J : Nat → (Str → Option Value) → List (Addr × Obj) → Prop) (hS : ∀ i m nw, J i m nw → S nw)
    (hIL : I ≠ env.locals) (hI0 : h₀.get? I = none) (off : ∀ p ∈ news, p.1 ≠ I) (hst : St 0 s.heap)
    (F : Fr h₀ env.locals s.heap m₀) (N : News h₀ env.locals s.heap news) (h0 : J 0 m₀ news)
    (turn : ∀ i v m₁ news₁ o h tk, i < n → P i v → J i m₁ news₁ → Fr h₀ env.locals h m₁ → News h₀ env.locals h ((I, o) :: news₁) → (∀ p ∈ news₁, p.1 ≠ I) →
      wpAny (model prog w) A (assign target env v) (fun _ s₃ => wpAny (model prog w) A (execs body env)
        (TurnX h₀ env.locals (J (i + 1)) I o s Q) (fun _ _ => False) s₃) (fun _ _ => False) { s with heap := h, toks := tk })
    (done : ∀ m₁ news₁ h tk, J n m₁ news₁ → Fr h₀ env.locals h m₁ → News h₀ env.locals h news₁ → wpAny (model prog w) A (execs orelse env) Q (fun _ _ => False) { s with heap := h, toks := tk }) :
    codeAny (model prog w) A (.forLoop target (.ref I) body orelse env)
      (fun r s' => match r with | .ok f => Q f s' | .error e => cameBackBy (model prog w) A env E' e s') s := by
  refine codeAny_forLoop_any
    (fun k s' => ∃ h tk m nw i, s' = { s with heap := h, toks := tk } ∧ Fr h₀ env.locals h m ∧ News h₀ env.locals h nw ∧ (∀ p ∈ nw, p.1 ≠ I) ∧
      St i h ∧ J i m nw ∧ i ≤ n ∧ k = n + 1 - i) ?_ (n + 1)
    ⟨s.heap, s.toks, m₀, news, 0, rfl, F, N, off, hst, h0, Nat.zero_le _, rfl⟩
  rintro k s' ⟨h, tk, m, nw, i, rfl, F', N', hoff, hit, hJ, hi, rfl⟩
  have next : ∀ h₁ : Heap, (∀ b o, b ∉ [I] → h.get? b = some o → h₁.get? b = some o) → Fr h₀ env.locals h₁ m ∧ News h₀ env.locals h₁ nw := fun h₁ hk₁ =>
    ⟨⟨F'.ns.at' fun o e => hk₁ _ o (by simpa using Ne.symm hIL) e, fun b o e => hk₁ b o (by simp; rintro rfl; rw [hI0] at e; cases e) (F'.keep b o e), F'.above⟩,
      fun p hp => ⟨hk₁ _ _ (by simpa using hoff p hp) (N' p hp).1, (N' p hp).2⟩⟩
  by_cases hlt : i < n
  · refine W.item i _ _ _ hlt hit fun v h₁ tk₁ hP hit₁ hk₁ => ?_
    refine hideG ?_
    intro G hG
    obtain ⟨F₁, N₁⟩ := next h₁ hk₁
    refine hG ?_
    clear hG G
    refine hideG ?_
    intro G hG
    obtain ⟨oI, hoI⟩ := hIo _ _ hit₁
    refine hG ?_
    clear hG G
    have N₂ : News h₀ env.locals h₁ ((I, oI) :: nw) := by
      intro p hp
      rcases List.mem_cons.mp hp with rfl | hp
      · exact ⟨hoI, hIL, hI0⟩
      · exact N₁ p hp
    refine wpAny_mono (hgo (i + 1) { s with heap := h₁, toks := tk₁ } v (fun _ s₁' => s₁' = { s with heap := h₁, toks := tk₁ }) hit₁ rfl) (fun _ s₁' e₁ => ?_) fun _ _ x => x.elim
    subst e₁
    refine wpAny_mono (turn i v m nw oI h₁ _ hlt hP hJ F₁ N₂ hoff) (fun _ s₃ h₃ => wpAny_mono h₃ (fun f s₄ h₄ => ?_) fun _ _ x => x.elim) fun _ _ x => x.elim
    have go : Nx h₀ env.locals (J (i + 1)) I oI s s₄ → ∃ k, k < n + 1 - i ∧ ∃ h tk m nw i, s₄ = { s with heap := h, toks := tk } ∧ Fr h₀ env.locals h m ∧ News h₀ env.locals h nw ∧ (∀ p ∈ nw, p.1 ≠ I) ∧
        St i h ∧ J i m nw ∧ i ≤ n ∧ k = n + 1 - i := by
      rintro ⟨H₄, tk₄, m₄, nw₄, rfl, F₄, N₄, off₄, hJ₄⟩
      have N₅ : News h₀ env.locals H₄ nw₄ := fun p hp => N₄ p (List.mem_cons_of_mem _ hp)
      exact ⟨n + 1 - (i + 1), sub_dec hlt, H₄, tk₄, m₄, nw₄, i + 1, rfl, F₄, N₅, off₄,
        hSt _ _ _ oI nw₄ hit₁ hoI (N₄ _ List.mem_cons_self).1 F₄.keep N₅ (hS _ _ _ hJ₄), hJ₄, hlt, rfl⟩
    cases f with
    | ret v => exact h₄
    | brk => exact h₄
    | cont => exact go h₄
    | next => exact go h₄
  · have hin : i = n := by omega
    subst hin
    refine W.done _ _ _ hit fun h₁ tk₁ hk₁ => ?_
    refine hideG ?_
    intro G hG
    obtain ⟨F₁, N₁⟩ := next h₁ hk₁
    refine hG ?_
    clear hG G
    exact wpAny_mono (done m nw h₁ tk₁ hJ F₁ N₁) (fun _ _ x => x) fun _ _ x => x.elim

theorem go_name {x : Str} {px : Pos} {I : Addr} {v : Value} {Q' : Unit → Shared → Prop} {s' : Shared} {E : Value → Shared → Prop} (h : Q' () s') : wpAny (model prog w) A (letOwnedTupleGo (.Name x px) (.ref I) v) Q' E s' := wpAny_pure h

theorem append_lst {E : Value → Shared → Prop} {D L : Addr} {xs : List Value} {n : Nat} {x : Value} {m : Str → Option Value} {news news' : List (Addr × Obj)} {Q : Value → Shared → Prop} (F : Fr h₀ L s.heap m) (N : News h₀ L s.heap news)
    (U : Upd D (lstO xs n) (lstO (xs ++ [x]) (n + 1)) news news') (hx : xs.length ≤ 1000)
    (h : ∀ h', Fr h₀ L h' m → News h₀ L h' news' → Q .none { s with heap := h' }) : wpAny (model prog w) A (call (.builtin "list.append") [.ref D, x]) Q E s := by
  have hl1 : sizeLine = 16777216 := sizeLine_eq
  refine append_K (its := xs.toArray) (n := n) (news' := news') F N ?_ h (by rw [List.size_toArray]; omega)
  rw [List.push_toArray]
  exact U
theorem off_same {I D : Addr} {o o' : Obj} {news : List (Addr × Obj)} (h : ∀ p ∈ (D, o) :: news, p.1 ≠ I) : ∀ p ∈ (D, o') :: news, p.1 ≠ I := fun p hp => by
  rcases List.mem_cons.mp hp with rfl | hp
  · exact h (D, o) List.mem_cons_self
  · exact h _ (List.mem_cons_of_mem _ hp)
theorem nx_mk {L : Addr} {J : (Str → Option Value) → List (Addr × Obj) → Prop} {I : Addr} {o : Obj} {h : Heap} {tk : Nat} {m : Str → Option Value} {news : List (Addr × Obj)}
    (F : Fr h₀ L h m) (N : News h₀ L h ((I, o) :: news)) (off : ∀ p ∈ news, p.1 ≠ I) (hJ : J m news) : Nx h₀ L J I o s { s with heap := h, toks := tk } := ⟨h, tk, m, news, rfl, F, N, off, hJ⟩
theorem join_lst {E : Value → Shared → Prop} {D L : Addr} {vs : List Value} {ss : List Str} {n : Nat} {x : Str} {t : Tok} {news : List (Addr × Obj)} {Q : Value → Shared → Prop} (N : News h₀ L s.heap news) (hm : (D, lstO vs n) ∈ news) (hs : StrsAre vs ss)
    (hsep : x.length ≤ 16) (hw : (ss.map (·.length)).sum + ss.length ≤ 1048576) (h : ∀ t' k, Q (.str (Txt.join x ss) t') { s with toks := k }) : wpAny (model prog w) A (call (.builtin "str.join") [.str x t, .ref D]) Q E s :=
  join_listW (items := vs.toArray) ⟨_, (N _ hm).1, rfl, _, rfl⟩ (by simpa using hs) hsep hw h
/-- over a range by ones -/
theorem for_range {x : Str} {px : Pos} {r : Addr} {a b : Int} {t u v : Tok} {n : Nat} {m₀ : Str → Option Value} {news : List (Addr × Obj)} {E' : Value → Shared → Prop}
    (J : Nat → (Str → Option Value) → List (Addr × Obj) → Prop)
    (hh : A.handled = none) (hr : IsRange s.heap r a b 1 t u v) (hsm : Builtin.Range.small a b 1 = true) (hn : Builtin.Range.rangeSize a b 1 = ((n : Nat) : Int))
    (F : Fr h₀ env.locals s.heap m₀) (N : News h₀ env.locals s.heap news) (h0 : J 0 m₀ news)
    (turn : ∀ i m₁ news₁ I o h tk tv, i < n → J i m₁ news₁ → Fr h₀ env.locals h m₁ → News h₀ env.locals h ((I, o) :: news₁) → (∀ p ∈ news₁, p.1 ≠ I) →
      wpAny (model prog w) A (assign (.Name x px) env (.int (a + (i : Int)) tv)) (fun _ s₃ => wpAny (model prog w) A (execs body env)
        (TurnX h₀ env.locals (J (i + 1)) I o s Q) (fun _ _ => False) s₃) (fun _ _ => False) { s with heap := h, toks := tk })
    (done : ∀ m₁ news₁ h tk, J n m₁ news₁ → Fr h₀ env.locals h m₁ → News h₀ env.locals h news₁ → wpAny (model prog w) A (execs orelse env) Q (fun _ _ => False) { s with heap := h, toks := tk }) :
    wpAny (model prog w) A (pyIter (.ref r)) (fun it s₂ => codeAny (model prog w) A (.forLoop (.Name x px) it body orelse env)
      (fun r s' => match r with | .ok f => Q f s' | .error e => cameBackBy (model prog w) A env E' e s') s₂) E' s := by
  refine wpAny_pyIter_range hr hsm ?_
  have key := for_walk (orelse := orelse) (body := body) (target := .Name x px) (Q := Q) (E' := E') (S := fun _ => True) (m₀ := m₀) (news := news) (h₀ := h₀) (env := env)
    (s := { s with heap := s.heap.push { cls := .type "range_iterator", data := .fields #[rawInt a, rawInt (Builtin.Range.rangeSize a b 1), rawInt 1] } })
    (LCg.range_walks (prog := prog) (w := w) (A := A) (I := s.heap.objs.size) hh a n) (fun i h st => ⟨_, st⟩) (fun i h h' o nw st e e' k N' _ => LCg.range_st (h₀ := h₀) (L := env.locals) i h h' o nw st e e' k N' trivial)
    (fun i s' v Q' _ h => go_name h) J (fun _ _ _ _ => trivial) (Ne.symm (Nat.ne_of_lt F.ns.lt)) (next_is_new F)
    (fun p hp => Nat.ne_of_lt (Heap.lt_size (N p hp).1)) (by
      show Heap.get? _ _ = _
      rw [hn, Heap.get?_push_size _ rfl]
      simp) (F.push _) (fun p hp => ⟨Heap.get?_push_of_some _ (N p hp).1, (N p hp).2⟩) h0
    (fun i v m₁ news₁ o h tk hi hP hJ F₁ N₁ off => by
      refine hideG ?_
      intro G hG
      obtain ⟨tv, rfl⟩ := hP
      refine hG ?_
      clear hG G
      exact turn i m₁ news₁ _ o h tk tv hi hJ F₁ N₁ off)
    (fun m₁ news₁ h tk hJ F₁ N₁ => done m₁ news₁ h tk hJ F₁ N₁)
  exact key
end
end Mine

-- Ccmp
open PySem PySem.W PyProof.Rows PySem.Spec PySem.Calls
set_option maxRecDepth 100000
set_option maxHeartbeats 8000000
namespace Mine
theorem fresh_Ccmp : True := by
  w_top off
  exact trivial

section
variable {w : World} {p : Program} {loose : List Str} {mean : ExcName → Option Value} {mg mb : Str → Option Value}
   {dp un : Nat} {gd : Option (List Code)} {cn : Str} {cs : Scope} {a : Addr} {ccd : Value} {cl : List (Str × Addr)} {outer : List Env} {A₀ : Around} {base h₀ : Heap} {L : Addr} {m : Str → Option Value} {news : List (Addr × Obj)} {s : Shared} {Q E : Value → Shared → Prop}
   (B : Below A₀ base outer h₀) (F : Fr h₀ L s.heap m) (X : (Mine.hd.heap_1 w.params).In h₀) (N : News h₀ L s.heap news) (T : Top p loose mean mg mb h₀) (hk : cs.kind = .function)
include B F X N T hk

local macro_rules | `(tactic| walk_at "subscriptTail") => `(tactic| (k_here; (with_reducible show wpAny _ _ (subscriptTail _ _ (Value.ref _) (Value.int _ _)) _ _ _); first
  | (refine sub_tup (k := 0) (by with_reducible assumption) (by with_reducible assumption) (by assumption) (by decide) rfl ?_)
  | (refine sub_tup (k := 1) (by with_reducible assumption) (by with_reducible assumption) (by assumption) (by decide) rfl ?_)
  | (refine sub_tup (k := 2) (by with_reducible assumption) (by with_reducible assumption) (by assumption) (by decide) rfl ?_)))
/-- compare tells what cmp tells -/
theorem cmp_k (hd : dp + 2 < recursionLimit) (hu : un + 12 < cLine) {jv xv yv : Value} {ks : List (Int × Int)} {rx ry : RowD} (hj : IsJudge news jv ks) (hx : IsRow news xv rx) (hy : IsRow news yv ry) (hks : okKeys ks)
   (hret : ∀ t h' tk', Fr h₀ L h' m → News h₀ L h' news → Q (.int (cmp ks rx ry) t) { s with heap := h', toks := tk' }) :
   wpAny (model PySem.Challenge.rw_wf0029_01.row.prog w) (ktrTop dp un gd cn cs L a ccd cl outer) (call (.ref 70) [jv, xv, yv]) Q E s := by
  revert X; k_fill; intro X
  refine hideG ?_
  intro G hG
  obtain ⟨j, dx, hsh, tok, kv, n1, rfl, hj1, hj2, lk, vs, n2, rfl, hl, hlen, hes⟩ := hj
  refine hG ?_
  clear hG G
  refine hideG ?_
  intro G hG
  obtain ⟨ex, hx0, x, u0, u1, u2, n3, rfl, hx1⟩ := hx
  refine hG ?_
  clear hG G
  refine hideG ?_
  intro G hG
  obtain ⟨ey, hy0, y, v0, v1, v2, n4, rfl, hy1⟩ := hy
  refine hG ?_
  clear hG G
  refine wpAny_noRaise ?_
  refine wpAny_call ?_
  k_dflt cell_enter
  (with_reducible rename Fr _ _ _ _ => FE)
  refine letF FE ?_
  clear FE
  intro mE FE
  iterate 2 walk1
  rename_i g' L' h' FG' N' B' X' T'
  refine wpAny_noRaise (wpAny_For ?_ ?hs)
  case hs => intro _; rfl
  k_steps
  refine for_search ["index", "direction", "l", "r"] (fun i => cmp ks rx ry = cmp (ks.drop i) rx ry) rfl hl (N' _ hl).2.1 FE N' rfl ?_ ?_
  · intro i v u I o hh tk2 hv hP F2 N2 off
    refine wpQ ?_
    intro Qa hQa
    have hi : i < ks.length := hlen ▸ (List.getElem?_eq_some_iff.mp hv).1
    refine hideG ?_
    intro G hG
    obtain ⟨ka, kt, kt', kn, rfl, hkm⟩ := hes i v _ hv (List.getElem?_eq_getElem hi)
    refine hG ?_
    clear hG G
    refine assign_pair rfl F2 N2 (List.mem_cons_of_mem _ hkm) rfl rfl rfl fun h3 tk3 F3 N3 => ?_
    refine hQa _ _ ?_
    clear hQa Qa
    dsimp only
    refine wpQ ?_
    intro Qt hQt
    have hx1 := List.mem_cons_of_mem (I, o) hx1
    have hy1 := List.mem_cons_of_mem (I, o) hy1
    refine hideG ?_
    intro G hG
    obtain ⟨b1, b2, b3⟩ := hks _ (List.getElem_mem hi)
    refine hG ?_
    clear hG G
    have hd : ks.drop i = ks[i] :: ks.drop (i + 1) := (List.drop_eq_getElem_cons hi)
    rw [hd, cmp] at hP
    have b0 : ks[i].1 = ((0 : Nat) : Int) ∨ ks[i].1 = ((1 : Nat) : Int) ∨ ks[i].1 = ((2 : Nat) : Int) := lt3i b1 b2
    rcases b0 with b0 | b0 | b0
    · have c1 : col ks[i].1 rx = rx.c0 := by rw [b0]; rfl
      have c2 : col ks[i].1 ry = ry.c0 := by rw [b0]; rfl
      rw [c1, c2] at hP
      k_steps
      all_goals (refine hQt _ _ ?_)
      all_goals (try dsimp only [TurnX])
      all_goals k_steps
      all_goals (try simp only [ab_lt hx0 hy0, ab_lt hy0 hx0] at *)
      · have e : cmp ks rx ry = -ks[i].2 := by rw [hP]; split <;> (try split) <;> first | rfl | (exfalso; omega)
        rw [← e]
        exact hret _ _ _ (by with_reducible assumption) (N_tail (by with_reducible assumption))
      · have e : cmp ks rx ry = ks[i].2 := by rw [hP]; split <;> (try split) <;> first | rfl | (exfalso; omega)
        rw [← e]
        exact hret _ _ _ (by with_reducible assumption) (N_tail (by with_reducible assumption))
      · have e : cmp ks rx ry = cmp (ks.drop (i + 1)) rx ry := by rw [hP]; split <;> (try split) <;> first | rfl | (exfalso; omega)
        refine ⟨_, _, _, news, rfl, by assumption, by assumption, off, rfl, Junk.intro ?_, e⟩
        intro z hz
        simp at hz
        simp [hz]
    · have c1 : col ks[i].1 rx = (rx.c1 : Int) := by rw [b0]; rfl
      have c2 : col ks[i].1 ry = (ry.c1 : Int) := by rw [b0]; rfl
      rw [c1, c2] at hP
      k_steps
      all_goals (refine hQt _ _ ?_)
      all_goals (try dsimp only [TurnX])
      all_goals k_steps
      all_goals (try simp only [ab_lt hx0 hy0, ab_lt hy0 hx0] at *)
      · have e : cmp ks rx ry = -ks[i].2 := by rw [hP]; split <;> (try split) <;> first | rfl | (exfalso; omega)
        rw [← e]
        exact hret _ _ _ (by with_reducible assumption) (N_tail (by with_reducible assumption))
      · have e : cmp ks rx ry = ks[i].2 := by rw [hP]; split <;> (try split) <;> first | rfl | (exfalso; omega)
        rw [← e]
        exact hret _ _ _ (by with_reducible assumption) (N_tail (by with_reducible assumption))
      · have e : cmp ks rx ry = cmp (ks.drop (i + 1)) rx ry := by rw [hP]; split <;> (try split) <;> first | rfl | (exfalso; omega)
        refine ⟨_, _, _, news, rfl, by assumption, by assumption, off, rfl, Junk.intro ?_, e⟩
        intro z hz
        simp at hz
        simp [hz]
    · have c1 : col ks[i].1 rx = rx.c2 := by rw [b0]; rfl
      have c2 : col ks[i].1 ry = ry.c2 := by rw [b0]; rfl
      rw [c1, c2] at hP
      k_steps
      all_goals (refine hQt _ _ ?_)
      all_goals (try dsimp only [TurnX])
      all_goals k_steps
      all_goals (try simp only [ab_lt hx0 hy0, ab_lt hy0 hx0] at *)
      · have e : cmp ks rx ry = -ks[i].2 := by rw [hP]; split <;> (try split) <;> first | rfl | (exfalso; omega)
        rw [← e]
        exact hret _ _ _ (by with_reducible assumption) (N_tail (by with_reducible assumption))
      · have e : cmp ks rx ry = ks[i].2 := by rw [hP]; split <;> (try split) <;> first | rfl | (exfalso; omega)
        rw [← e]
        exact hret _ _ _ (by with_reducible assumption) (N_tail (by with_reducible assumption))
      · have e : cmp ks rx ry = cmp (ks.drop (i + 1)) rx ry := by rw [hP]; split <;> (try split) <;> first | rfl | (exfalso; omega)
        refine ⟨_, _, _, news, rfl, by assumption, by assumption, off, rfl, Junk.intro ?_, e⟩
        intro z hz
        simp at hz
        simp [hz]
  · intro u hh tk2 hP F2 N2
    k_steps
    rw [List.drop_eq_nil_of_le (by omega)] at hP
    have e : cmp ks rx ry = 0 := hP
    exact e ▸ hret _ _ _ (by with_reducible assumption) (by with_reducible assumption)
end
end Mine

-- Cbest
open PySem PySem.W PyProof.Rows PySem.Spec PySem.Calls
set_option maxRecDepth 100000
set_option maxHeartbeats 8000000
namespace Mine
theorem fresh_Cbest : True := by
  w_top off
  exact trivial

noncomputable def pick (ks : List (Int × Int)) (side : Int) (r : RowD) (rs : List RowD) : RowD := rs.foldl (fun b r => if cmp ks r b = side then r else b) r

section
variable {w : World} {p : Program} {loose : List Str} {mean : ExcName → Option Value} {mg mb : Str → Option Value}
   {dp un : Nat} {gd : Option (List Code)} {cn : Str} {cs : Scope} {a : Addr} {ccd : Value} {cl : List (Str × Addr)} {outer : List Env} {A₀ : Around} {base h₀ : Heap} {L : Addr} {m : Str → Option Value} {news : List (Addr × Obj)} {s : Shared} {Q E : Value → Shared → Prop}
   (B : Below A₀ base outer h₀) (F : Fr h₀ L s.heap m) (X : (Mine.hd.heap_1 w.params).In h₀) (N : News h₀ L s.heap news) (T : Top p loose mean mg mb h₀) (hk : cs.kind = .function)
include B F X N T hk

local macro_rules | `(tactic| walk_at "call ref") => `(tactic| (k_here; (with_reducible show wpAny _ _ (call (Value.ref 70) [_, _, _]) _ _ _); k_dflt (refine' cmp_k ?kB ?kF ?kX ?kN ?kT ?kk ?kd ?ku ?kj ?kx ?ky ?ks ?_); (case kB => k_asm); (case kF => k_asm); (case kX => k_asm); (case kN => k_asm); (case kT => k_asm); (case kk => exact rfl); (case kd => ktr_room); (case ku => ktr_units); (case kj => assumption); (case kx => assumption); (case ky => assumption); (case ks => assumption)); (intro t9 h9 tk9 F9 N9; (try dsimp only); (try k_fold)))
local macro_rules | `(tactic| walk_at "no word") => `(tactic| fail)
theorem best_k (hd : dp + 4 < recursionLimit) (hu : un + 24 < cLine) {jv : Value} {l : Addr} {vs : List Value} {n : Nat} {side : Int} {st : Tok} {ks : List (Int × Int)} {r0 : RowD} {rs : List RowD}
   {R : Value → RowD → Prop} (hR : ∀ v r, R v r → IsRow news v r)
   (hl : (l, lstO vs n) ∈ news) (he : Each R vs (r0 :: rs)) (hj : IsJudge news jv ks) (hks : okKeys ks)
   (hret : ∀ v h' tk', R v (pick ks side r0 (r0 :: rs)) → Fr h₀ L h' m → News h₀ L h' news → Q v { s with heap := h', toks := tk' }) :
   wpAny (model PySem.Challenge.rw_wf0029_01.row.prog w) (ktrTop dp un gd cn cs L a ccd cl outer) (call (.ref 105) [.ref l, jv, .int side st]) Q E s := by
  revert X; k_fill; intro X
  have hj' := hj
  refine hideG ?_
  intro G hG
  obtain ⟨j, dx, hsh, tok, kv, n1, rfl, hj1, hj2, hj3⟩ := hj
  refine hG ?_
  clear hG G
  obtain ⟨b0, vt, rfl⟩ : ∃ b0 vt, vs = b0 :: vt := by
    cases vs with
    | nil => exact absurd he.1 (by simp)
    | cons b t => exact ⟨b, t, rfl⟩
  refine wpAny_noRaise ?_
  refine wpAny_call ?_
  k_dflt cell_enter
  (with_reducible rename Fr _ _ _ _ => FE)
  refine letF FE ?_
  clear FE
  intro mE FE
  iterate 6 walk1
  refine sub_lst (k := 0) (by with_reducible assumption) hl rfl (by decide) rfl ?_
  iterate 2 walk1
  refine wpAny_noRaise (wpAny_For ?_ ?hs)
  case hs => intro _; rfl
  iterate 1 walk1
  rename_i g' L' h1 FG' B' X' T' h2 F2 N2
  refine for_one "best" ["row"] (fun i b => R b (pick ks side r0 ((r0 :: rs).take i))) rfl hl (N2 _ hl).2.1 F2 N2 rfl (he.2 0 _ _ rfl rfl) ?_ ?_
  · intro i v u b I o hh tk2 hv hP F3 N3 off
    refine wpQ ?_
    intro Qa hQa
    have hi : i < (r0 :: rs).length := he.1 ▸ (List.getElem?_eq_some_iff.mp hv).1
    have hv' := he.2 i v _ hv (List.getElem?_eq_getElem hi)
    have sub : ∀ q ∈ news, q ∈ (I, o) :: news := fun q hq => List.mem_cons_of_mem _ hq
    have hj2' := hj'.mono sub
    have hj3' := sub _ hj1
    have hj4' := sub _ hj2
    have hv2 := (hR _ _ hv').mono sub
    have hb2 := (hR _ _ hP).mono sub
    have hn : (r0 :: rs).take (i + 1) = (r0 :: rs).take i ++ [(r0 :: rs)[i]] := by rw [List.take_add_one, List.getElem?_eq_getElem hi]; rfl
    have hb' : cmp ks (r0 :: rs)[i] (pick ks side r0 ((r0 :: rs).take i)) = side ∨ ¬ cmp ks (r0 :: rs)[i] (pick ks side r0 ((r0 :: rs).take i)) = side := Decidable.em _
    iterate 2 walk1
    refine hQa _ _ ?_
    clear hQa Qa
    dsimp only
    refine wpQ ?_
    intro Qt hQt
    k_steps
    · refine hQt _ _ ?_
      refine ⟨_, _, _, news, rfl, by assumption, by assumption, off, rfl, v, ?_, Junk.intro ?_⟩
      · rw [hn, pick, List.foldl_append]
        have e : cmp ks (r0 :: rs)[i] (pick ks side r0 ((r0 :: rs).take i)) = side := by assumption
        show R v (if cmp ks (r0 :: rs)[i] (pick ks side r0 ((r0 :: rs).take i)) = side then _ else _)
        rw [if_pos e]
        exact hv'
      · intro z hz
        simp at hz
        (try simp only [hz, ↓reduceIte]); (repeat' split) <;> first | rfl | simp_all
    · refine hQt _ _ ?_
      refine ⟨_, _, _, news, rfl, by assumption, by assumption, off, rfl, b, ?_, Junk.intro ?_⟩
      · rw [hn, pick, List.foldl_append]
        have e : ¬ cmp ks (r0 :: rs)[i] (pick ks side r0 ((r0 :: rs).take i)) = side := by assumption
        show R b (if cmp ks (r0 :: rs)[i] (pick ks side r0 ((r0 :: rs).take i)) = side then _ else _)
        rw [if_neg e]
        exact hP
      · intro z hz
        simp at hz
        (try simp only [hz, ↓reduceIte]); (repeat' split) <;> first | rfl | simp_all
  · intro u b hh tk2 hP F3 N3
    k_steps
    have e : (r0 :: rs).take (b0 :: vt).length = r0 :: rs := List.take_of_length_le (by rw [he.1]; exact Nat.le_refl _)
    rw [e] at hP
    exact hret _ _ _ hP (by with_reducible assumption) (by with_reducible assumption)
end
end Mine

-- Crow
open PySem PySem.W PyProof.Rows PySem.Spec PySem.Calls
set_option maxRecDepth 100000
set_option maxHeartbeats 8000000
namespace Mine
theorem fresh_Crow : True := by
  w_top off
  exact trivial

noncomputable def rowD (n : Int) : RowD := ⟨n % 4, (n / 4 % 3).toNat, n / 12⟩
theorem isRowX_one {D : Addr} {r : RowD} {t0 t1 t2 : Tok} (h : r.c1 ≤ 2) : IsRowX [(D, tup (.int r.c0 t0 :: .str (abT r.c1) t1 :: .int r.c2 t2 :: []) 0)] (.ref D) r [] :=
  ⟨h, D, t0, t1, t2, 0, rfl, List.mem_singleton.mpr rfl⟩
noncomputable def rankD (ks : List (Int × Int)) (r : RowD) : Int := ks.foldl (fun a k => a * 1000000000 + k.2 * col k.1 r) 0

section
variable {w : World} {p : Program} {loose : List Str} {mean : ExcName → Option Value} {mg mb : Str → Option Value}
   {dp un : Nat} {gd : Option (List Code)} {cn : Str} {cs : Scope} {a : Addr} {ccd : Value} {cl : List (Str × Addr)} {outer : List Env} {A₀ : Around} {base h₀ : Heap} {L : Addr} {m : Str → Option Value} {news : List (Addr × Obj)} {s : Shared} {Q E : Value → Shared → Prop}
   (B : Below A₀ base outer h₀) (F : Fr h₀ L s.heap m) (X : (Mine.hd.heap_1 w.params).In h₀) (N : News h₀ L s.heap news) (T : Top p loose mean mg mb h₀) (hk : cs.kind = .function)
include B F X N T hk

theorem row_k (hd : dp + 2 < recursionLimit) (hu : un + 12 < cLine) {n : Int} {t : Tok} (hn : 0 ≤ n)
   (hret : ∀ D o h' tk', (∀ q ∈ news, q.1 < D) → IsRowX [(D, o)] (.ref D) (rowD n) [] → Fr h₀ L h' m → News h₀ L h' ((D, o) :: news) → Q (.ref D) { s with heap := h', toks := tk' }) :
   wpAny (model PySem.Challenge.rw_wf0029_01.row.prog w) (ktrTop dp un gd cn cs L a ccd cl outer) (call (.ref 91) [.int n t]) Q E s := by
  revert X; k_fill; intro X
  refine wpAny_call ?_
  k_dflt cell_enter
  (with_reducible rename Fr _ _ _ _ => FE)
  refine letF FE ?_
  clear FE
  intro mE FE
  k_steps
  refine hret _ _ _ _ (by with_reducible assumption) ?_ (by assumption) (by assumption)
  have e1 : Int.fmod n 4 = n % 4 := Int.fmod_eq_emod_of_nonneg n (by decide)
  have e2 : Int.fdiv n 12 = n / 12 := Int.fdiv_eq_ediv_of_nonneg n (by decide)
  have e3 : Int.fmod (Int.fdiv n 4) 3 = n / 4 % 3 := by rw [Int.fdiv_eq_ediv_of_nonneg n (by decide), Int.fmod_eq_emod_of_nonneg _ (by decide)]
  rw [e1, e2, e3]
  have h0 : n / 4 % 3 = 0 ∨ n / 4 % 3 = 1 ∨ n / 4 % 3 = 2 := lt3i (Int.emod_nonneg _ (by decide)) (Int.emod_lt_of_pos _ (by decide))
  have e4 : Txt.slice (Str.ofString "ab") none (some (n / 4 % 3)) = abT (rowD n).c1 := by
    show _ = abT (n / 4 % 3).toNat
    rcases h0 with h | h | h <;> rw [h] <;> decide +kernel
  rw [e4]
  exact isRowX_one (r := rowD n) (by show (n / 4 % 3).toNat ≤ 2; rcases h0 with h | h | h <;> rw [h] <;> decide)
local macro_rules | `(tactic| walk_at "subscriptTail") => `(tactic| (k_here; (with_reducible show wpAny _ _ (subscriptTail _ _ (Value.ref _) (Value.int _ _)) _ _ _); first
  | (refine sub_tup (k := 0) (by with_reducible assumption) (by with_reducible assumption) (by first | rfl | assumption) (by decide) rfl ?_)
  | (refine sub_tup (k := 1) (by with_reducible assumption) (by with_reducible assumption) (by first | rfl | assumption) (by decide) rfl ?_)
  | (refine sub_tup (k := 2) (by with_reducible assumption) (by with_reducible assumption) (by first | rfl | assumption) (by decide) rfl ?_)))
theorem rank_k (hd : dp + 2 < recursionLimit) (hu : un + 12 < cLine) {rv kv : Value} {ks : List (Int × Int)} {r : RowD} (hk : IsKeys news kv ks) (hr : IsRow news rv r) (hks : okKeys ks)
   (hret : ∀ t h' tk', Fr h₀ L h' m → News h₀ L h' news → Q (.int (rankD ks r) t) { s with heap := h', toks := tk' }) :
   wpAny (model PySem.Challenge.rw_wf0029_01.row.prog w) (ktrTop dp un gd cn cs L a ccd cl outer) (call (.ref 98) [rv, kv]) Q E s := by
  revert X; k_fill; intro X
  refine hideG ?_
  intro G hG
  obtain ⟨lk, vs, n2, rfl, hl, hlen, hes⟩ := hk
  refine hG ?_
  clear hG G
  refine hideG ?_
  intro G hG
  obtain ⟨ex, hx0, x, u0, u1, u2, n3, rfl, hx1⟩ := hr
  refine hG ?_
  clear hG G
  refine wpAny_noRaise ?_
  refine wpAny_call ?_
  k_dflt cell_enter
  (with_reducible rename Fr _ _ _ _ => FE)
  refine letF FE ?_
  clear FE
  intro mE FE
  iterate 6 walk1
  refine wpAny_noRaise (wpAny_For ?_ ?hs)
  case hs => intro _; rfl
  iterate 1 walk1
  rename_i g' L' h1 FG' B' X' T' h2 F2 N2
  refine for_one "rank" ["column", "direction"] (fun i b => ∃ t, b = .int (rankD (ks.take i) r) t) rfl hl (N2 _ hl).2.1 F2 N2 rfl (by exact ⟨_, rfl⟩) ?_ ?_
  · rintro i v u b I o hh tk2 hv ⟨tb, rfl⟩ F3 N3 off
    refine wpQ ?_
    intro Qa hQa
    have hi : i < ks.length := hlen ▸ (List.getElem?_eq_some_iff.mp hv).1
    refine hideG ?_
    intro G hG
    obtain ⟨ka, kt, kt', kn, rfl, hkm⟩ := hes i v _ hv (List.getElem?_eq_getElem hi)
    refine hG ?_
    clear hG G
    refine assign_pair rfl F3 N3 (List.mem_cons_of_mem _ hkm) rfl rfl rfl fun h3 tk3 F3 N3 => ?_
    refine hQa _ _ ?_
    clear hQa Qa
    dsimp only
    refine wpQ ?_
    intro Qt hQt
    have hx1 := List.mem_cons_of_mem (I, o) hx1
    refine hideG ?_
    intro G hG
    obtain ⟨b1, b2, b3⟩ := hks _ (List.getElem_mem hi)
    refine hG ?_
    clear hG G
    have hn : ks.take (i + 1) = ks.take i ++ [ks[i]] := by rw [List.take_add_one, List.getElem?_eq_getElem hi]; rfl
    have b0 : ks[i].1 = ((0 : Nat) : Int) ∨ ks[i].1 = ((1 : Nat) : Int) ∨ ks[i].1 = ((2 : Nat) : Int) := lt3i b1 b2
    have hr1 : rankD (ks.take (i + 1)) r = rankD (ks.take i) r * 1000000000 + ks[i].2 * col ks[i].1 r := by rw [hn, rankD, List.foldl_append]; rfl
    have hl2 : (abT r.c1).length ≤ 2 := by rw [ab_len hx0]; exact hx0
    rcases b0 with b0 | b0 | b0
    · have c1 : col ks[i].1 r = r.c0 := by rw [b0]; rfl
      rw [c1] at hr1
      k_steps
      all_goals first
        | (exfalso; omega)
        | (refine hQt _ _ ?_; refine' nx_one ?ca ?cb off ?ce ?cf ?cd; (case ca => assumption); (case cb => assumption); (case ce => exact rfl); (case cf => refine int_eq ?_; (rw [hr1]; (try rw [ab_len hx0]); rfl)); (case cd => (intro z hz hz2; simp at hz; simp [hz, hz2])))
    · have c1 : col ks[i].1 r = (r.c1 : Int) := by rw [b0]; rfl
      rw [c1] at hr1
      k_steps
      all_goals first
        | (exfalso; omega)
        | (refine hQt _ _ ?_; refine' nx_one ?ca ?cb off ?ce ?cf ?cd; (case ca => assumption); (case cb => assumption); (case ce => exact rfl); (case cf => refine int_eq ?_; (rw [hr1]; (try rw [ab_len hx0]); rfl)); (case cd => (intro z hz hz2; simp at hz; simp [hz, hz2])))
    · have c1 : col ks[i].1 r = r.c2 := by rw [b0]; rfl
      rw [c1] at hr1
      k_steps
      all_goals first
        | (exfalso; omega)
        | (refine hQt _ _ ?_; refine' nx_one ?ca ?cb off ?ce ?cf ?cd; (case ca => assumption); (case cb => assumption); (case ce => exact rfl); (case cf => refine int_eq ?_; (rw [hr1]; (try rw [ab_len hx0]); rfl)); (case cd => (intro z hz hz2; simp at hz; simp [hz, hz2])))
  · rintro u b hh tk2 ⟨tb, rfl⟩ F3 N3
    k_steps
    have e : ks.take vs.length = ks := List.take_of_length_le (by rw [hlen]; exact Nat.le_refl _)
    rw [e]
    exact hret _ _ _ (by with_reducible assumption) (by with_reducible assumption)
end
end Mine

-- Cnames
open PySem PySem.W PyProof.Rows PySem.Spec PySem.Calls
set_option maxRecDepth 100000
set_option maxHeartbeats 8000000
namespace Mine
theorem fresh_Cnames : True := by
  w_top off
  exact trivial

noncomputable def nmAt (i : Nat) : Str := ([Str.ofString "OPTIMIZED", Str.ofString "NEWLOCALS", Str.ofString "VARARGS", Str.ofString "VARKEYWORDS", Str.ofString "NESTED", Str.ofString "GENERATOR", Str.ofString "NOFREE", Str.ofString "COROUTINE", Str.ofString "ITERABLE_COROUTINE", Str.ofString "ASYNC_GENERATOR", Str.ofString "0x400", Str.ofString "0x800"] : List Str).getD i Str.empty
theorem N_sub2 {h₀ h : Heap} {L : Addr} {x y z : Addr × Obj} {news : List (Addr × Obj)} (N : News h₀ L h (x :: y :: z :: news)) : News h₀ L h (x :: news) := fun p hp => N p (by
  rcases List.mem_cons.mp hp with rfl | hp
  · exact List.mem_cons_self
  · exact List.mem_cons_of_mem _ (List.mem_cons_of_mem _ (List.mem_cons_of_mem _ hp)))
theorem lt_of_news {h₀ h : Heap} {L : Addr} {news led : List (Addr × Obj)} (N : News h₀ L h led) (hm : ∀ q ∈ news, q ∈ led) : ∀ q ∈ news, q.1 < h.objs.size + 1 :=
  fun q hq => Nat.lt_succ_of_lt (Heap.lt_size (N q (hm q hq)).1)
theorem pick3 {low : Int} (h0 : 0 ≤ low) (h9 : low < 10) {a0 a1 a2 a3 a4 a5 a6 a7 a8 a9 aa ab : Tok} {vs : Array Value} {P : Prop}
    (hvs : vs = slicePick ([.str (Str.ofString "OPTIMIZED") a0, .str (Str.ofString "NEWLOCALS") a1, .str (Str.ofString "VARARGS") a2, .str (Str.ofString "VARKEYWORDS") a3, .str (Str.ofString "NESTED") a4, .str (Str.ofString "GENERATOR") a5, .str (Str.ofString "NOFREE") a6] ++ [.str (Str.ofString "COROUTINE") a7, .str (Str.ofString "ITERABLE_COROUTINE") a8, .str (Str.ofString "ASYNC_GENERATOR") a9, .str (Str.ofString "0x400") aa, .str (Str.ofString "0x800") ab] : List Value).toArray (some low) (some (low + 3)) none)
    (h : ∀ t0 t1 t2, vs = [Value.str (nmAt low.toNat) t0, .str (nmAt (low.toNat + 1)) t1, .str (nmAt (low.toNat + 2)) t2].toArray → P) : P := by
  have c : low = 0 ∨ low = 1 ∨ low = 2 ∨ low = 3 ∨ low = 4 ∨ low = 5 ∨ low = 6 ∨ low = 7 ∨ low = 8 ∨ low = 9 := by
    obtain ⟨n, rfl⟩ := Int.eq_ofNat_of_zero_le h0
    rcases (by decide : ∀ low < 10, low = 0 ∨ low = 1 ∨ low = 2 ∨ low = 3 ∨ low = 4 ∨ low = 5 ∨ low = 6 ∨ low = 7 ∨ low = 8 ∨ low = 9) n (Int.ofNat_lt.mp h9) with rfl | rfl | rfl | rfl | rfl | rfl | rfl | rfl | rfl | rfl <;> decide
  rcases c with rfl | rfl | rfl | rfl | rfl | rfl | rfl | rfl | rfl | rfl <;> exact h _ _ _ (hvs.trans rfl)

section
variable {w : World} {p : Program} {loose : List Str} {mean : ExcName → Option Value} {mg mb : Str → Option Value}
   {dp un : Nat} {gd : Option (List Code)} {cn : Str} {cs : Scope} {a : Addr} {ccd : Value} {cl : List (Str × Addr)} {outer : List Env} {A₀ : Around} {base h₀ : Heap} {L : Addr} {m : Str → Option Value} {news : List (Addr × Obj)} {s : Shared} {Q E : Value → Shared → Prop}
   (B : Below A₀ base outer h₀) (F : Fr h₀ L s.heap m) (X : (Mine.hd.heap_1 w.params).In h₀) (N : News h₀ L s.heap news) (T : Top p loose mean mg mb h₀) (hk : cs.kind = .function)
include B F X N T hk

local macro_rules | `(tactic| k_all) => `(tactic| exact allLt_ne (by first | assumption | exact And.right (by assumption)))
theorem names_k (hd : dp + 2 < recursionLimit) (hu : un + 12 < cLine) {low : Int} {t : Tok} (h0 : 0 ≤ low) (h9 : low < 10)
   (hret : ∀ D vs t0 t1 t2 h' tk', (∀ q ∈ news, q.1 < D) → vs = [Value.str (nmAt low.toNat) t0, .str (nmAt (low.toNat + 1)) t1, .str (nmAt (low.toNat + 2)) t2].toArray → Fr h₀ L h' m → News h₀ L h' ((D, ⟨.type "list", none, .seq vs 0, #[]⟩) :: news) → Q (.ref D) { s with heap := h', toks := tk' }) :
   wpAny (model PySem.Challenge.rw_wf0029_01.row.prog w) (ktrTop dp un gd cn cs L a ccd cl outer) (call (.ref 84) [.int low t]) Q E s := by
  revert X; k_fill; intro X
  refine wpAny_call ?_
  k_dflt cell_enter
  (with_reducible rename Fr _ _ _ _ => FE)
  refine letF FE ?_
  clear FE
  intro mE FE
  k_steps
  refine' iadd_lists ?kF ?kN ?kb ?k1 ?k2 ?k3 ?kU ?_; (case kF => k_asm); (case kN => k_asm); (case kb => exact List.mem_cons_self); (case kU => k_upd); (case k1 => simp); (case k2 => simp); (case k3 => simp)
  intro h5 F5 N5
  k_steps
  rename_i hA FA NA hB FB NB kF kN Tc kX
  exact pick3 h0 h9 rfl (fun t0 t1 t2 e => hret _ _ t0 t1 t2 _ _ (lt_of_news NA fun q hq => List.mem_cons_of_mem _ (List.mem_cons_of_mem _ hq)) e kF (N_sub2 kN))
end
end Mine

-- Fl
open PySem PySem.W PyProof.Rows PySem.Spec PySem.Calls
set_option maxRecDepth 100000
namespace Mine
noncomputable def hexS (f : Nat) : Str := if f = 0 then Str.ofString "0x0" else Str.empty
noncomputable def flagGo : Nat → Nat → Nat → List Str → List Str
  | 0, _, f, ns => ns ++ [hexS f]
  | k + 1, i, f, ns => if f / 2 ^ i % 2 = 1 then (if f - 2 ^ i = 0 then ns ++ [nmAt i] else flagGo k (i + 1) (f - 2 ^ i) (ns ++ [nmAt i])) else flagGo k (i + 1) f ns
noncomputable def flagL (f : Nat) : List Str := flagGo 32 0 f []
noncomputable def flagT (f : Nat) : Str := Txt.join (Str.ofString ", ") (flagL f)
theorem and_pow (a i : Nat) : a &&& 2 ^ i = if a / 2 ^ i % 2 = 1 then 2 ^ i else 0 := by
  apply Nat.eq_of_testBit_eq
  intro j
  rw [Nat.testBit_and, Nat.testBit_two_pow]
  by_cases h : i = j
  · subst h
    have hp := Nat.div_self (Nat.two_pow_pos i)
    simp [Nat.testBit_eq_decide_div_mod_eq]
    split <;> simp_all
  · simp [h]
    split <;> simp [h]
theorem band_nat (a i : Nat) : Builtin.bitAnd (a : Int) (1 * 2 ^ (0 + (i : Int)).toNat) = ((a &&& 2 ^ i : Nat) : Int) := by
  have e : (1 * 2 ^ (0 + (i : Int)).toNat : Int) = ((2 ^ i : Nat) : Int) := by simp
  rw [e, bitAnd_pp (Int.natCast_nonneg _) (Int.natCast_nonneg _), Int.toNat_natCast, Int.toNat_natCast]
theorem bit_on {a i : Nat} (h : Builtin.bitAnd (a : Int) (1 * 2 ^ (0 + (i : Int)).toNat) ≠ 0) : a / 2 ^ i % 2 = 1 := by
  rw [band_nat, and_pow] at h
  split at h
  · assumption
  · exact absurd rfl h
theorem bit_off {a i : Nat} (h : Builtin.bitAnd (a : Int) (1 * 2 ^ (0 + (i : Int)).toNat) = 0) : ¬ a / 2 ^ i % 2 = 1 := by
  intro e
  rw [band_nat, and_pow, if_pos e] at h
  have := Nat.two_pow_pos i
  omega
theorem bit_ge {a i : Nat} (h : a / 2 ^ i % 2 = 1) : 2 ^ i ≤ a := by
  apply Nat.le_of_not_lt
  intro hlt
  rw [Nat.div_eq_of_lt hlt] at h
  cases h
theorem bit_lt {a i : Nat} (ha : a < 4096) (h : Builtin.bitAnd (a : Int) (1 * 2 ^ (0 + (i : Int)).toNat) ≠ 0) : i < 12 := by
  have h1 := bit_ge (bit_on h)
  apply Nat.lt_of_not_le
  intro hle
  have : 2 ^ 12 ≤ 2 ^ i := Nat.pow_le_pow_right (by decide) hle
  omega
theorem bxor_nat {a i : Nat} (h : a / 2 ^ i % 2 = 1) : Builtin.bitXor (a : Int) (1 * 2 ^ (0 + (i : Int)).toNat) = ((a - 2 ^ i : Nat) : Int) := by
  have hge := bit_ge h
  unfold Builtin.bitXor
  rw [bitOr_and, band_nat, and_pow, if_pos h]
  have e : (1 * 2 ^ (0 + (i : Int)).toNat : Int) = ((2 ^ i : Nat) : Int) := by simp
  rw [e]
  omega
theorem mod_off {a i : Nat} (hm : a % 2 ^ i = 0) (h : ¬ a / 2 ^ i % 2 = 1) : a % 2 ^ (i + 1) = 0 := by
  have e : a = 2 ^ i * (a / 2 ^ i) := by have := Nat.div_add_mod a (2 ^ i); omega
  have e2 : a / 2 ^ i = 2 * (a / 2 ^ i / 2) := by omega
  rw [e2] at e
  rw [e, Nat.pow_succ, ← Nat.mul_assoc]
  exact Nat.mul_mod_right _ _
theorem mod_on {a i : Nat} (hm : a % 2 ^ i = 0) (h : a / 2 ^ i % 2 = 1) : (a - 2 ^ i) % 2 ^ (i + 1) = 0 := by
  have e : a = 2 ^ i * (a / 2 ^ i) := by have := Nat.div_add_mod a (2 ^ i); omega
  have e2 : a / 2 ^ i = 2 * (a / 2 ^ i / 2) + 1 := by omega
  rw [e2, Nat.mul_add, Nat.mul_one] at e
  rw [e, Nat.add_sub_cancel, Nat.pow_succ, ← Nat.mul_assoc]
  exact Nat.mul_mod_right _ _
theorem go_on {i f : Nat} {ns : List Str} (hi : i < 32) (h : f / 2 ^ i % 2 = 1) (h2 : f - 2 ^ i ≠ 0) : flagGo (32 - i) i f ns = flagGo (32 - (i + 1)) (i + 1) (f - 2 ^ i) (ns ++ [nmAt i]) := by
  have e : 32 - i = (32 - (i + 1)) + 1 := sub_one32 hi
  rw [e, flagGo, if_pos h, if_neg h2]
theorem go_last {i f : Nat} {ns : List Str} (hi : i < 32) (h : f / 2 ^ i % 2 = 1) (h2 : f - 2 ^ i = 0) : flagGo (32 - i) i f ns = ns ++ [nmAt i] := by
  have e : 32 - i = (32 - (i + 1)) + 1 := sub_one32 hi
  rw [e, flagGo, if_pos h, if_pos h2]
theorem go_off {i f : Nat} {ns : List Str} (hi : i < 32) (h : ¬ f / 2 ^ i % 2 = 1) : flagGo (32 - i) i f ns = flagGo (32 - (i + 1)) (i + 1) f ns := by
  have e : 32 - i = (32 - (i + 1)) + 1 := sub_one32 hi
  rw [e, flagGo, if_neg h]
theorem strs_snoc {vs : List Value} {ss : List Str} (h : StrsAre vs ss) (x : Str) (t : Tok) : StrsAre (vs ++ [.str x t]) (ss ++ [x]) := h.append' (.cons x t .nil)
theorem nm_len {i : Nat} (h : i < 12) : (nmAt i).length ≤ 24 := by
  have c : i = 0 ∨ i = 1 ∨ i = 2 ∨ i = 3 ∨ i = 4 ∨ i = 5 ∨ i = 6 ∨ i = 7 ∨ i = 8 ∨ i = 9 ∨ i = 10 ∨ i = 11 := (by decide : ∀ i < 12, i = 0 ∨ i = 1 ∨ i = 2 ∨ i = 3 ∨ i = 4 ∨ i = 5 ∨ i = 6 ∨ i = 7 ∨ i = 8 ∨ i = 9 ∨ i = 10 ∨ i = 11) i h
  rcases c with rfl | rfl | rfl | rfl | rfl | rfl | rfl | rfl | rfl | rfl | rfl | rfl <;> decide +kernel
end Mine

-- Cflags
open PySem PySem.W PyProof.Rows PySem.Spec PySem.Calls
set_option maxRecDepth 100000
set_option maxHeartbeats 8000000
namespace Mine
theorem fresh_Cflags : True := by
  w_top off
  exact trivial


theorem q_str {x y : Str} {t : Tok} {s : Shared} {Q : Value → Shared → Prop} (e : x = y) (h : Q (.str y t) s) : Q (.str x t) s := by subst e; exact h
section
variable {w : World} {p : Program} {loose : List Str} {mean : ExcName → Option Value} {mg mb : Str → Option Value}
   {h₀ : Heap} {L : Addr} {m : Str → Option Value} {news : List (Addr × Obj)} {s : Shared} {Q E : Value → Shared → Prop}
   (F : Fr h₀ L s.heap m) (X : (Mine.hd.heap_1 w.params).In h₀) (N : News h₀ L s.heap news) (T : Top p loose mean mg mb h₀)
include F X N T

theorem get_flag {A : Around} {i : Nat} (hi : i < 12) {t1 t2 : Tok} {hx : Str} (hhx : 10 ≤ i → hx = nmAt i) (hret : ∀ t tk, Q (.str (nmAt i) t) { s with toks := tk }) :
   wpAny (model PySem.Challenge.rw_wf0029_01.row.prog w) A (call (.builtin "dict.get") [.ref 42, .int (1 * 2 ^ (0 + (i : Int)).toNat) t1, .str hx t2]) Q E s := by
  revert X; k_fill; intro X
  have c : i = 0 ∨ i = 1 ∨ i = 2 ∨ i = 3 ∨ i = 4 ∨ i = 5 ∨ i = 6 ∨ i = 7 ∨ i = 8 ∨ i = 9 ∨ i = 10 ∨ i = 11 := (by decide : ∀ i < 12, i = 0 ∨ i = 1 ∨ i = 2 ∨ i = 3 ∨ i = 4 ∨ i = 5 ∨ i = 6 ∨ i = 7 ∨ i = 8 ∨ i = 9 ∨ i = 10 ∨ i = 11) i hi
  rcases c with rfl | rfl | rfl | rfl | rfl | rfl | rfl | rfl | rfl | rfl | rfl | rfl
  all_goals k_steps
  all_goals first
    | (rw [hhx (by decide)]; exact hret _ _)
    | (refine' q_str ?qe (hret _ _); (case qe => decide +kernel))
theorem hex_flag {A : Around} {i : Nat} (hi : i < 12) {t1 : Tok} (hret : ∀ hx t tk, (10 ≤ i → hx = nmAt i) → Q (.str hx t) { s with toks := tk }) :
   wpAny (model PySem.Challenge.rw_wf0029_01.row.prog w) A (call (.builtin "hex") [.int (1 * 2 ^ (0 + (i : Int)).toNat) t1]) Q E s := by
  revert X; k_fill; intro X
  have c : i = 0 ∨ i = 1 ∨ i = 2 ∨ i = 3 ∨ i = 4 ∨ i = 5 ∨ i = 6 ∨ i = 7 ∨ i = 8 ∨ i = 9 ∨ i = 10 ∨ i = 11 := (by decide : ∀ i < 12, i = 0 ∨ i = 1 ∨ i = 2 ∨ i = 3 ∨ i = 4 ∨ i = 5 ∨ i = 6 ∨ i = 7 ∨ i = 8 ∨ i = 9 ∨ i = 10 ∨ i = 11) i hi
  rcases c with rfl | rfl | rfl | rfl | rfl | rfl | rfl | rfl | rfl | rfl | rfl | rfl
  all_goals k_steps
  all_goals (refine' hret _ _ _ ?hh; (case hh => first | (intro h; exact absurd h (by decide)) | (intro _; decide +kernel)))
end

section
variable {w : World} {p : Program} {loose : List Str} {mean : ExcName → Option Value} {mg mb : Str → Option Value}
   {dp un : Nat} {gd : Option (List Code)} {cn : Str} {cs : Scope} {a : Addr} {ccd : Value} {cl : List (Str × Addr)} {outer : List Env} {A₀ : Around} {base h₀ : Heap} {L : Addr} {m : Str → Option Value} {news : List (Addr × Obj)} {s : Shared} {Q E : Value → Shared → Prop}
   (B : Below A₀ base outer h₀) (F : Fr h₀ L s.heap m) (X : (Mine.hd.heap_1 w.params).In h₀) (N : News h₀ L s.heap news) (T : Top p loose mean mg mb h₀) (hk : cs.kind = .function)
include B F X N T hk

local macro_rules | `(tactic| k_all) => `(tactic| exact allLt_ne (by first | assumption | exact And.right (by assumption)))
local macro_rules | `(tactic| walk_at "call builtin:list.append") => `(tactic| (k_here; k_dflt (refine' append_lst ?kF ?kN ?kU ?kz ?_; (case kF => k_asm); (case kN => k_asm); (case kU => k_upd); (case kz => first | assumption | omega)); intro h' F' N'))
local macro_rules | `(tactic| walk_at "call builtin:hex") => `(tactic| (k_here; k_dflt (refine' hex_flag ?kF ?kX ?kN ?kT ?ki ?_; (case kF => k_asm); (case kX => k_asm); (case kN => k_asm); (case kT => k_asm); (case ki => exact bit_lt (by assumption) (by assumption))); intro hx9 t9 tk9 hh9; (try dsimp only)))
local macro_rules | `(tactic| walk_at "call builtin:dict.get") => `(tactic| (k_here; k_dflt (refine' get_flag ?kF ?kX ?kN ?kT ?ki ?kh ?_; (case kF => k_asm); (case kX => k_asm); (case kN => k_asm); (case kT => k_asm); (case ki => exact bit_lt (by assumption) (by assumption)); (case kh => assumption)); intro t9 tk9; (try dsimp only)))
theorem flags_k (hd : dp + 2 < recursionLimit) (hu : un + 12 < cLine) {f : Nat} {t : Tok} (hf : f < 4096)
   (hret : ∀ t h' tk', Fr h₀ L h' m → News h₀ L h' news → Q (.str (flagT f) t) { s with heap := h', toks := tk' }) :
   wpAny (model PySem.Challenge.rw_wf0029_01.row.prog w) (ktrTop dp un gd cn cs L a ccd cl outer) (call (.ref 49) [.int (f : Int) t]) Q E s := by
  revert X; k_fill; intro X
  refine wpAny_noRaise ?_
  refine wpAny_call ?_
  k_dflt cell_enter
  (with_reducible rename Fr _ _ _ _ => FE)
  refine letF FE ?_
  clear FE
  intro mE FE
  iterate 9 walk1
  refine wpAny_noRaise (wpAny_For ?_ ?hs)
  case hs => intro _; rfl
  iterate 7 walk1
  rename_i g' L' h1 FG' B' X' T' tk0 D h2 l1 h3 FX NX h4 tk5 t1 t2 t3 hR F4 N4 k4
  revert F4
  suffices key : ∀ M : Str → Option Value, M "names" = some (.ref D) → M "flags" = some (.int (f : Int) t) → Fr g' L' h4 M → _ from key _ rfl rfl
  intro M hM1 hM2 F4
  refine for_range (n := 32) (fun i m1 nw => ∃ vs ss f' t' e, nw = (D, lstO vs e) :: news ∧ StrsAre vs ss ∧ flagGo (32 - i) i f' ss = flagGo 32 0 f [] ∧ f' < 4096 ∧ f' % 2 ^ i = 0 ∧ ss.length ≤ i ∧ (ss.map (·.length)).sum ≤ 24 * ss.length ∧ Junk ["i", "flag"] (fun z => if z = "flags" then some (.int (f' : Int) t') else if z = "names" then some (.ref D) else M z) m1) rfl hR rfl rfl F4 N4 ?_ ?_ ?_
  · refine ⟨[], [], f, t, 0, rfl, .nil, rfl, hf, Nat.mod_one _, Nat.le_refl _, Nat.le_refl _, Junk.intro fun z _ => ?_⟩
    split
    · rename_i h; rw [h]; exact hM2
    · split
      · rename_i h; rw [h]; exact hM1
      · rfl
  · intro i m1 nw I o h5 tk6 tv hi hB F5 N5 off
    refine wpQ ?_
    intro Qa hQa
    obtain ⟨vs, ss, f', t', e, rfl, hvs, hgo, hf', hmod, hlen, hsum, u, rfl⟩ := hB
    have hDI := neN (a := D) (b := I) (off _ List.mem_cons_self)
    have l2 : AllLt D news := allLt_of l1
    have hvl : vs.length ≤ 1000 := by rw [hvs.length]; omega
    iterate 2 walk1
    refine hQa _ _ ?_
    clear hQa Qa
    dsimp only
    refine wpQ ?_
    intro Qt hQt
    k_steps
    · have hb := bit_on (by assumption)
      have hi12 := bit_lt hf' (by assumption)
      have hx : Builtin.bitXor (f' : Int) (1 * 2 ^ (0 + (i : Int)).toNat) ≠ 0 := by assumption
      rw [bxor_nat hb] at hx
      have hnz : f' - 2 ^ i ≠ 0 := fun e => hx (by rw [e]; rfl)
      refine hQt _ _ ?_
      refine' nx_mk ?ca ?cb ?cc ?cd; (case ca => assumption); (case cb => assumption); (case cc => exact off_same off)
      refine' ⟨_, _, f' - 2 ^ i, _, _, rfl, strs_snoc hvs (nmAt i) _, (go_on hi hb hnz).symm.trans hgo, by omega, mod_on hmod hb, by simp; omega, ?c1, Junk.intro ?c2⟩
      case c2 =>
        intro z hz
        rw [bxor_nat hb]
        simp at hz
        (try simp only [hz, ↓reduceIte]); (repeat' split) <;> first | rfl | simp_all
      case c1 =>
        have := nm_len hi12
        simp
        omega
    · have hb := bit_on (by assumption)
      have hi12 := bit_lt hf' (by assumption)
      have hx : Builtin.bitXor (f' : Int) (1 * 2 ^ (0 + (i : Int)).toNat) = 0 := by assumption
      rw [bxor_nat hb] at hx
      have hnz : f' - 2 ^ i = 0 := by omega
      have hT : flagT f = Txt.join (Str.ofString ", ") (ss ++ [nmAt i]) := by rw [flagT, flagL, ← hgo, go_last hi hb hnz]
      have hl24 := nm_len hi12
      refine hQt _ _ ?_
      dsimp only [TurnX]
      k_steps
      refine' join_lst (ss := ss ++ [nmAt i]) ?ja ?jb ?je (by decide +kernel) ?jc ?jd; (case ja => with_reducible assumption); (case jb => first | exact List.mem_cons_of_mem _ List.mem_cons_self | exact List.mem_cons_self); (case je => exact strs_snoc hvs (nmAt i) _)
      case jc => simp; omega
      case jd =>
        intro tj kj
        k_steps
        rw [← hT]
        first
          | exact hret _ _ _ (by with_reducible assumption) (N_tail (by with_reducible assumption))
          | exact hret _ _ _ (by with_reducible assumption) (N_tail (N_tail (by with_reducible assumption)))
    · have hb := bit_off (by assumption)
      refine hQt _ _ ?_
      refine' nx_mk ?da ?db ?dc ?dd; (case da => assumption); (case db => assumption); (case dc => exact off)
      refine' ⟨vs, ss, f', t', e, rfl, hvs, (go_off hi hb).symm.trans hgo, hf', mod_off hmod hb, by omega, hsum, Junk.intro ?_⟩
      intro z hz
      simp at hz
      (try simp only [hz, ↓reduceIte]); (repeat' split) <;> first | rfl | simp_all
  · rintro m1 nw h5 tk6 ⟨vs, ss, f', t', e, rfl, hvs, hgo, hf', hmod, hlen, hsum, u, rfl⟩ F5 N5
    have hz : f' = 0 := by rw [Nat.mod_eq_of_lt (by omega)] at hmod; exact hmod
    subst hz
    have l2 : AllLt D news := allLt_of l1
    have hvl : vs.length ≤ 1000 := by rw [hvs.length]; omega
    have hT : flagT f = Txt.join (Str.ofString ", ") (ss ++ [hexS 0]) := by rw [flagT, flagL, ← hgo]; rfl
    k_steps
    refine' join_lst (ss := ss ++ [hexS 0]) ?ia ?ib ?ie (by decide +kernel) ?ic ?id; (case ia => with_reducible assumption); (case ib => exact List.mem_cons_self); (case ie => exact strs_snoc hvs (hexS 0) _)
    case ic =>
      have : (hexS 0).length = 3 := by decide +kernel
      simp; omega
    case id =>
      intro tj kj
      k_steps
      rw [← hT]
      exact hret _ _ _ (by with_reducible assumption) (N_tail (by with_reducible assumption))
end
end Mine

-- L5
open PySem PySem.W PyProof.Rows PySem.Spec PySem.Calls
set_option maxRecDepth 100000
namespace Mine
section
variable {prog : Program} {w : World} {A : Around} {E : Value → Shared → Prop} {env : Env} {test : PySem.Expr} {body orelse : List Stmt} {Q : Flow → Shared → Prop}
noncomputable def TurnW {α : Type} (I : α → Shared → Prop) (μ : α → Nat) (a : α) (Q : Flow → Shared → Prop) (f : Flow) (s₃ : Shared) : Prop :=
  match f with
  | .next => ∃ a', μ a' < μ a ∧ I a' s₃
  | .cont => ∃ a', μ a' < μ a ∧ I a' s₃
  | .brk => Q .next s₃
  | .ret v => Q (.ret v) s₃
theorem whl_inv (hE : PassesOwn (model prog w) A env E) {α : Type} (I : α → Shared → Prop) (μ : α → Nat)
    (turn : ∀ a s, I a s → wpAny (model prog w) A (isTrue test env (eval test env)) (fun b s₂ => WhlIf b (wpAny (model prog w) A (execs body env) (TurnW I μ a Q) E s₂) (wpAny (model prog w) A (execs orelse env) Q E s₂)) E s) :
    ∀ (n : Nat) a s, μ a < n → I a s → WhlRest prog w A E env test body orelse Q 0 s
  | 0, a, s, h, _ => absurd h (Nat.not_lt_zero _)
  | n + 1, a, s, h, hI => by
    have rest : ∀ a' s', μ a' < μ a → I a' s' → WhlRest prog w A E env test body orelse Q 0 s' := fun a' s' hl hi => whl_inv hE I μ turn n a' s' (by omega) hi
    have key : WhlRest prog w A E env test body orelse Q 1 s := by
      refine whl_turn hE (wpAny_mono (turn a s hI) (fun b s₂ h₂ => ?_) fun _ _ h => h)
      cases b with
      | false => exact h₂
      | true =>
        refine WhlIf.yes rfl ?_
        have h₂' : wpAny (model prog w) A (execs body env) (TurnW I μ a Q) E s₂ := h₂
        refine wpAny_mono h₂' (fun f s₃ h₃ => ?_) fun _ _ h => h
        cases f with
        | next => obtain ⟨a', h1, h2⟩ := h₃; exact rest a' s₃ h1 h2
        | cont => obtain ⟨a', h1, h2⟩ := h₃; exact rest a' s₃ h1 h2
        | brk => exact h₃
        | ret v => exact h₃
    exact key
end
theorem len_lst {prog : Program} {w : World} {A : Around} {E : Value → Shared → Prop} {s : Shared} {h₀ : Heap} {L l : Addr} {vs : List Value} {n : Nat} {news : List (Addr × Obj)} {Q : Value → Shared → Prop} (N : News h₀ L s.heap news) (hl : (l, lstO vs n) ∈ news) (hz : vs.length ≤ 1000)
    (h : ∀ t tk, Q (.int (vs.length : Int) t) { s with toks := tk }) : wpAny (model prog w) A (call (.builtin "len") [.ref l]) Q E s :=
  kun_lenL (items := vs.toArray) ⟨_, (N _ hl).1, rfl, _, rfl⟩ (by simp) (by omega) (h _ _)
/-- a key function tells of a row what cmp tells of it and r0 -/
noncomputable def KeyFn (w : World) (p : Program) (loose : List Str) (mean : ExcName → Option Value) (mg mb : Str → Option Value) (f : Addr) (news : List (Addr × Obj)) (g : RowD → Int) (k1 k2 : Nat) : Prop :=
  ∀ {dp un : Nat} {gd : Option (List Code)} {cn : Str} {cs : Scope} {a : Addr} {ccd : Value} {cl : List (Str × Addr)} {outer : List Env} {A₀ : Around} {base h₀ : Heap} {L : Addr} {m : Str → Option Value} {s : Shared} {Q E : Value → Shared → Prop},
    Below A₀ base outer h₀ → Fr h₀ L s.heap m → (Mine.hd.heap_1 w.params).In h₀ → News h₀ L s.heap news → Top p loose mean mg mb h₀ → cs.kind = .function → dp + k1 < recursionLimit → un + k2 < cLine →
    ∀ {v : Value} {r : RowD}, IsRow news v r → (∀ t h' tk', Fr h₀ L h' m → News h₀ L h' news → Q (.int (g r) t) { s with heap := h', toks := tk' }) →
    wpAny (model PySem.Challenge.rw_wf0029_01.row.prog w) (ktrTop dp un gd cn cs L a ccd cl outer) (call (.ref f) [v]) Q E s
/-- the place that bisect finds: go up where g says so -/
noncomputable def bisGo (g : Nat → Bool) : Nat → Nat → Nat → Nat
  | 0, lo, _ => lo
  | n + 1, lo, hi => if lo < hi then (if g ((lo + hi) / 2) then bisGo g n ((lo + hi) / 2 + 1) hi else bisGo g n lo ((lo + hi) / 2)) else lo
theorem mid_nat (lo hi : Nat) : Int.fdiv ((lo : Int) + (hi : Int)) 2 = (((lo + hi) / 2 : Nat) : Int) := by
  rw [Int.fdiv_eq_ediv_of_nonneg _ (by decide)]
  rfl
end Mine

-- Cbisr
open PySem PySem.W PyProof.Rows PySem.Spec PySem.Calls
set_option maxRecDepth 100000
set_option maxHeartbeats 8000000
namespace Mine
theorem fresh_Cbisr : True := by
  w_top off
  exact trivial

theorem fr_bis {g h : Heap} {L : Addr} {m1 R : Str → Option Value} {lo hi : Int} (F : Fr g L h m1) (h1 : ∃ t, m1 "lo" = some (.int lo t)) (h2 : ∃ t, m1 "hi" = some (.int hi t)) (h3 : ∀ z : Str, z ≠ "mid" → z ≠ "lo" → z ≠ "hi" → m1 z = R z) :
    ∃ u tl th, Fr g L h (fun z => if z = "mid" then u else if z = "lo" then some (.int lo tl) else if z = "hi" then some (.int hi th) else R z) := by
  refine hideG ?_
  intro G hG
  obtain ⟨tl, e1⟩ := h1
  refine hG ?_
  clear hG G
  refine hideG ?_
  intro G hG
  obtain ⟨th, e2⟩ := h2
  refine hG ?_
  clear hG G
  refine ⟨m1 "mid", tl, th, Eq.mpr (congrArg (Fr g L h) (funext fun z => ?_)) F⟩
  by_cases z1 : z = "mid"
  · rw [if_pos z1, z1]
  · rw [if_neg z1]
    by_cases z2 : z = "lo"
    · rw [if_pos z2, z2, e1]
    · rw [if_neg z2]
      by_cases z3 : z = "hi"
      · rw [if_pos z3, z3, e2]
      · rw [if_neg z3, h3 z z1 z2 z3]

section
variable {w : World} {p : Program} {loose : List Str} {mean : ExcName → Option Value} {mg mb : Str → Option Value}
   {dp un : Nat} {gd : Option (List Code)} {cn : Str} {cs : Scope} {a : Addr} {ccd : Value} {cl : List (Str × Addr)} {outer : List Env} {A₀ : Around} {base h₀ : Heap} {L : Addr} {m : Str → Option Value} {news : List (Addr × Obj)} {s : Shared} {Q E : Value → Shared → Prop}
   (B : Below A₀ base outer h₀) (F : Fr h₀ L s.heap m) (X : (Mine.hd.heap_1 w.params).In h₀) (N : News h₀ L s.heap news) (T : Top p loose mean mg mb h₀) (hk : cs.kind = .function)
include B F X N T hk

set_option hygiene false in
local macro_rules | `(tactic| walk_at "call ref") => `(tactic| (k_here; k_dflt (refine' hkey ?kB ?kF ?kX ?kN ?kT ?kk ?kd ?ku ?kx ?_); (case kB => k_asm); (case kF => k_asm); (case kX => k_asm); (case kN => k_asm); (case kT => k_asm); (case kk => exact rfl); (case kd => ktr_room); (case ku => ktr_units); (case kx => assumption); (intro t9 h9 tk9 F9 N9; (try dsimp only); (try k_fold))))
local macro_rules | `(tactic| walk_at "call builtin:len") => `(tactic| (k_here; k_dflt (refine' len_lst ?kN ?km ?kz ?_); (case kN => k_asm); (case km => assumption); (case kz => assumption); intro t9 tk9; (try dsimp only)))
local macro_rules | `(tactic| walk_at "subscriptTail") => `(tactic| (k_here; refine sub_lst (by with_reducible assumption) (by with_reducible assumption) (by assumption) (by assumption) (by assumption) ?_))
local macro_rules | `(tactic| walk_at "callWith ref") => `(tactic| (k_here; k_dflt (refine' callWith_F ?x ?_; (case x => exact FnAt.of (by k_asm) (by assumption)))))
local macro_rules | `(tactic| k_mem) => `(tactic| with_reducible assumption)
local macro_rules | `(tactic| k_room) => `(tactic| ktr_room)
local macro_rules | `(tactic| k_units) => `(tactic| ktr_units)
set_option hygiene false in
theorem bisr_k (hd : dp + 8 < recursionLimit) (hu : un + 48 < cLine) {l f : Addr} {vs : List Value} {n : Nat} {g : RowD → Int} {rs : List RowD} {fd : FuncData} {t t0 : Tok} {x : Int}
   (hl : (l, lstO vs n) ∈ news) (he : Each (IsRow news) vs rs) (hz : vs.length ≤ 1000) (hf : (f, (⟨.type "function", none, .func fd, #[]⟩ : Obj)) ∈ news) (hkey : KeyFn w p loose mean mg mb f news g 4 24)
   (hret : ∀ t h' tk', Fr h₀ L h' m → News h₀ L h' news → Q (.int (bisGo (fun i => decide (g (rs.getD i ⟨0, 0, 0⟩) ≤ x)) vs.length 0 vs.length : Nat) t) { s with heap := h', toks := tk' }) :
   wpAny (model PySem.Challenge.rw_wf0029_01.row.prog w) (ktrTop dp un gd cn cs L a ccd cl outer) (call (.ref 32) [.ref l, .int x t, .int 0 t0, .none] [(Str.ofString "key", .ref f)]) Q E s := by
  revert X; k_fill; intro X
  refine wpAny_noRaise ?_
  refine wpAny_call ?_
  k_dflt (refine' code_def ?k1 ?k2 ?k3 ?k4 ?k5 ?kA ?kF ?kK ?k6 ?k7 ?k8 ?k9 ?kB ?_ ?c2 ?c3 ?c4 ?c5; (case kA => exact rfl); (case kF => exact rfl); (case kK => exact hk); (case k1 => k_asm); (case k2 => k_asm); (case k3 => k_asm); (case k4 => k_asm); (case k5 => k_asm); (case k6 => k_is); (case k7 => k_is); (case k8 => ktr_room); (case k9 => (refine' kp_binds ?kx ?ke; (case kx => k_in); (case ke => exact fun _ => rfl))); (case c5 => decide); (case kB => exact locs rfl); (case c2 => exact rfl); (case c3 => exact rfl); (case c4 => exact rfl); k_whole; intro g' L' h' FG' F' N' B' X' T'; (try dsimp only); (try k_lift B'); (try k_fold))
  (with_reducible rename Fr _ _ _ _ => FE)
  refine letF FE ?_
  clear FE
  intro mE FE
  iterate 40 walk1
  refine whl_start 0 ?_
  rename_i t9 tk9 h4 F4 N4
  revert F4
  suffices key : ∀ M : Str → Option Value, M "a" = some (.ref l) → M "x" = some (.int x t) → M "key" = some (.ref f) → M "lo" = some (.int 0 t0) → M "hi" = some (.int (vs.length : Int) t9) → Fr g' L' h4 M → _ from key _ rfl rfl rfl rfl rfl
  intro M hM1 hM2 hM3 hM4 hM5 F4
  refine whl_inv (by first | passes_own | with_unfolding_all passes_own) (fun (q : Nat × Nat) s' => ∃ h tk u tl th fuel, s' = { s with heap := h, toks := tk } ∧ Fr g' L' h (fun z => if z = "mid" then u else if z = "lo" then some (.int (q.1 : Int) tl) else if z = "hi" then some (.int (q.2 : Int) th) else if z = "a" then some (.ref l) else if z = "x" then some (.int x t) else if z = "key" then some (.ref f) else M z) ∧ News g' L' h news ∧ q.2 ≤ vs.length ∧ q.2 - q.1 ≤ fuel ∧ bisGo (fun i => decide (g (rs.getD i ⟨0, 0, 0⟩) ≤ x)) fuel q.1 q.2 = bisGo (fun i => decide (g (rs.getD i ⟨0, 0, 0⟩) ≤ x)) vs.length 0 vs.length) (fun q => q.2 - q.1) ?_ (vs.length + 1) (0, vs.length) _ (by show vs.length - 0 < _; omega) ?_
  · intro q s1 hB
    refine wpQ ?_
    intro Qa hQa
    obtain ⟨lo, hi⟩ := q
    obtain ⟨h5, tk6, u, tl, th, fuel, rfl, F5, N5, h1, h2, h3⟩ := hB
    dsimp only at h1 h2 h3 F5
    by_cases hlt : lo < hi
    · iterate 5 walk1
      refine hQa _ _ ?_
      clear hQa Qa
      (try dsimp only)
      refine WhlIf.yes (decide_eq_true (Int.ofNat_lt.mpr hlt)) ?_
      refine wpQ ?_
      intro Qt hQt
      have hm1 : (lo + hi) / 2 < vs.length := by omega
      have hm2 : (lo + hi) / 2 < rs.length := he.1 ▸ hm1
      refine hideG ?_
      intro G hG
      obtain ⟨fuel, rfl⟩ : ∃ k, fuel = k + 1 := ⟨fuel - 1, by omega⟩
      refine hG ?_
      clear hG G
      rw [bisGo, if_pos hlt] at h3
      have hv1 : vs[(lo + hi) / 2]? = some vs[(lo + hi) / 2] := List.getElem?_eq_getElem hm1
      have hv2 : rs[(lo + hi) / 2]? = some (rs.getD ((lo + hi) / 2) ⟨0, 0, 0⟩) := by rw [List.getD_eq_getElem?_getD, List.getElem?_eq_getElem hm2]; rfl
      have hrow := he.2 _ _ _ hv1 hv2
      have hmid := mid_nat lo hi
      have hm62 : (lo + hi) / 2 < 2 ^ 62 := by omega
      k_steps
      · rename_i hx h6 F6 N6
        refine hideG ?_
        intro G hG
        obtain ⟨u', tl', th', F7⟩ := fr_bis (lo := lo) (hi := ((lo + hi) / 2 : Nat)) (R := (fun z => if z = "a" then some (.ref l) else if z = "x" then some (.int x t) else if z = "key" then some (.ref f) else M z)) F6 (by exact ⟨_, rfl⟩) (by rw [← hmid]; exact ⟨_, rfl⟩) (by intro z z1 z2 z3; simp only [z1, z2, z3, ↓reduceIte])
        refine hG ?_
        clear hG G
        rw [if_neg (by rw [decide_eq_true_eq]; omega)] at h3
        refine hQt _ _ ?_
        exact ⟨(lo, (lo + hi) / 2), by dsimp only; omega, h6, _, u', tl', th', fuel, rfl, F7, N6, by dsimp only; omega, by dsimp only; omega, h3⟩
      · rename_i hx h6 F6 N6
        refine hideG ?_
        intro G hG
        obtain ⟨u', tl', th', F7⟩ := fr_bis (lo := ((lo + hi) / 2 + 1 : Nat)) (hi := hi) (R := (fun z => if z = "a" then some (.ref l) else if z = "x" then some (.int x t) else if z = "key" then some (.ref f) else M z)) F6 (by rw [Int.natCast_add, ← hmid]; exact ⟨_, rfl⟩) (by exact ⟨_, rfl⟩) (by intro z z1 z2 z3; simp only [z1, z2, z3, ↓reduceIte])
        refine hG ?_
        clear hG G
        rw [if_pos (by rw [decide_eq_true_eq]; omega)] at h3
        refine hQt _ _ ?_
        exact ⟨((lo + hi) / 2 + 1, hi), by dsimp only; omega, h6, _, u', tl', th', fuel, rfl, F7, N6, by dsimp only; omega, by dsimp only; omega, h3⟩
    · iterate 5 walk1
      refine hQa _ _ ?_
      clear hQa Qa
      (try dsimp only)
      refine WhlIf.no (decide_eq_false (fun e => hlt (Int.ofNat_lt.mp e))) ?_
      have hres : bisGo (fun i => decide (g (rs.getD i ⟨0, 0, 0⟩) ≤ x)) vs.length 0 vs.length = lo := by
        rw [← h3]
        cases fuel with
        | zero => rfl
        | succ k => rw [bisGo, if_neg hlt]
      rw [hres] at hret
      k_steps
      exact hret _ _ _ (by with_reducible assumption) (by with_reducible assumption)
  · refine ⟨h4, _, M "mid", t0, t9, vs.length, rfl, ?_, N4, Nat.le_refl _, Nat.le_refl _, rfl⟩
    have e : (fun z : Str => if z = "mid" then M "mid" else if z = "lo" then some (.int ((0 : Nat) : Int) t0) else if z = "hi" then some (.int (vs.length : Int) t9) else if z = "a" then some (.ref l) else if z = "x" then some (.int x t) else if z = "key" then some (.ref f) else M z) = M := by
      funext z
      (repeat' split) <;> (try rfl) <;> (rename_i h; subst h; first | rfl | exact hM1.symm | exact hM2.symm | exact hM3.symm | exact hM4.symm | exact hM5.symm)
    exact Eq.mpr (congrArg (Fr g' L' h4) e) F4
end
end Mine

-- Cins
open PySem PySem.W PyProof.Rows PySem.Spec PySem.Calls
set_option maxRecDepth 100000
set_option maxHeartbeats 8000000
namespace Mine
theorem fresh_Cins : True := by
  w_top off
  exact trivial

theorem bisGo_le (g : Nat → Bool) : ∀ (n lo hi : Nat), lo ≤ hi → bisGo g n lo hi ≤ hi
  | 0, lo, hi, h => h
  | n + 1, lo, hi, h => by
    rw [bisGo]
    by_cases c : lo < hi
    · rw [if_pos c]
      split
      · exact bisGo_le g n _ _ (by omega)
      · exact Nat.le_trans (bisGo_le g n _ _ (by omega)) (by omega)
    · rw [if_neg c]; exact h
/-- the list with the coming one laid in -/
noncomputable def insL {α : Type} (g : RowD → Int) (rs : List RowD) (r : RowD) (vs : List α) (x : α) : List α :=
  vs.take (bisGo (fun i => decide (g (rs.getD i ⟨0, 0, 0⟩) ≤ g r)) vs.length 0 vs.length) ++ x :: vs.drop (bisGo (fun i => decide (g (rs.getD i ⟨0, 0, 0⟩) ≤ g r)) vs.length 0 vs.length)
theorem kl_ins_nat {vs : List Value} {k : Nat} {v : Value} (h : k ≤ vs.length) : kl_ins vs.toArray.toList (k : Int) v = vs.take k ++ v :: vs.drop k := by
  unfold kl_ins
  have e : (if (k : Int) < 0 then ((k : Int) + (vs.toArray.toList.length : Int)).toNat else min (k : Int).toNat vs.toArray.toList.length) = k := by
    rw [if_neg (by omega)]
    show min k vs.length = k
    exact Nat.min_eq_left h
  rw [e]

section
variable {w : World} {p : Program} {loose : List Str} {mean : ExcName → Option Value} {mg mb : Str → Option Value}
   {dp un : Nat} {gd : Option (List Code)} {cn : Str} {cs : Scope} {a : Addr} {ccd : Value} {cl : List (Str × Addr)} {outer : List Env} {A₀ : Around} {base h₀ : Heap} {L : Addr} {m : Str → Option Value} {news : List (Addr × Obj)} {s : Shared} {Q E : Value → Shared → Prop}
   (B : Below A₀ base outer h₀) (F : Fr h₀ L s.heap m) (X : (Mine.hd.heap_1 w.params).In h₀) (N : News h₀ L s.heap news) (T : Top p loose mean mg mb h₀) (hk : cs.kind = .function)
include B F X N T hk

set_option hygiene false in
local macro_rules | `(tactic| walk_at "call ref") => `(tactic| (k_here; k_dflt (refine' hkey ?kB ?kF ?kX ?kN ?kT ?kk ?kd ?ku ?kx ?_); (case kB => k_asm); (case kF => k_asm); (case kX => k_asm); (case kN => k_asm); (case kT => k_asm); (case kk => exact rfl); (case kd => ktr_room); (case ku => ktr_units); (case kx => assumption); (intro t9 h9 tk9 F9 N9; (try dsimp only); (try k_fold))))
local macro_rules | `(tactic| walk_at "call builtin:len") => `(tactic| (k_here; k_dflt (refine' len_lst ?kN ?km ?kz ?_); (case kN => k_asm); (case km => assumption); (case kz => assumption); intro t9 tk9; (try dsimp only)))
local macro_rules | `(tactic| walk_at "subscriptTail") => `(tactic| (k_here; refine sub_lst (by with_reducible assumption) (by with_reducible assumption) (by assumption) (by assumption) (by assumption) ?_))
local macro_rules | `(tactic| walk_at "callWith ref") => `(tactic| (k_here; k_dflt (refine' callWith_F ?x ?_; (case x => exact FnAt.of (by k_asm) (by assumption)))))
local macro_rules | `(tactic| k_mem) => `(tactic| with_reducible assumption)
local macro_rules | `(tactic| walk_at "call builtin:list.insert") => `(tactic| (k_here; k_dflt (refine' kl_insert ?F ?N ?f rfl ?U ?z ?_; (case F => k_asm); (case N => k_asm); (case U => assumption); (case f => assumption); (case z => assumption)); intro h' F' N'))
set_option hygiene false in
local macro_rules | `(tactic| walk_at "call ref") => `(tactic| (k_here; (with_reducible show wpAny _ _ (call (Value.ref 32) _ _) _ _ _); k_dflt (refine' bisr_k ?kB ?kF ?kX ?kN ?kT ?kk ?kd ?ku ?kl ?ke ?kz ?kf ?kq ?_; (case kB => k_asm); (case kF => k_asm); (case kX => k_asm); (case kN => k_asm); (case kT => k_asm); (case kk => exact rfl); (case kd => ktr_room); (case ku => ktr_units); (case kl => assumption); (case ke => assumption); (case kz => assumption); (case kf => assumption); (case kq => exact hkey)); (intro t9 h9 tk9 F9 N9; (try dsimp only); (try k_fold))))
local macro_rules | `(tactic| k_room) => `(tactic| ktr_room)
local macro_rules | `(tactic| k_units) => `(tactic| ktr_units)
set_option hygiene false in
theorem ins_k (hd : dp + 10 < recursionLimit) (hu : un + 60 < cLine) {l f : Addr} {vs : List Value} {n : Nat} {g : RowD → Int} {rs : List RowD} {fd : FuncData} {rv : Value} {r : RowD} {news' : List (Addr × Obj)}
   (hl : (l, lstO vs n) ∈ news) (he : Each (IsRow news) vs rs) (hr : IsRow news rv r) (hz : vs.length ≤ 1000) (hf : (f, (⟨.type "function", none, .func fd, #[]⟩ : Obj)) ∈ news) (hkey : KeyFn w p loose mean mg mb f news g 4 24)
   (U : Upd l (lstO vs n) (lstO (insL g rs r vs rv) (n + 1)) news news')
   (hret : ∀ h' tk', Fr h₀ L h' m → News h₀ L h' news' → Q .none { s with heap := h', toks := tk' }) :
   wpAny (model PySem.Challenge.rw_wf0029_01.row.prog w) (ktrTop dp un gd cn cs L a ccd cl outer) (call (.ref 23) [.ref l, rv] [(Str.ofString "key", .ref f)]) Q E s := by
  revert X; k_fill; intro X
  have hp : bisGo (fun i => decide (g (rs.getD i ⟨0, 0, 0⟩) ≤ g r)) vs.length 0 vs.length ≤ vs.length := bisGo_le _ _ _ _ (Nat.zero_le _)
  have hfit : Builtin.List.listFitsIndex ((bisGo (fun i => decide (g (rs.getD i ⟨0, 0, 0⟩) ≤ g r)) vs.length 0 vs.length : Nat) : Int) = true := by
    revert hp
    generalize bisGo (fun i => decide (g (rs.getD i ⟨0, 0, 0⟩) ≤ g r)) vs.length 0 vs.length = q
    revert q
    refine hold ?_
    intro q hp
    unfold Builtin.List.listFitsIndex
    simp
    omega
  have hz2 : vs.toArray.toList.length ≤ sizeLine := by rw [sizeLine_eq]; show vs.length ≤ _; omega
  have U2 : Upd l (listOf vs.toArray n) (listOf (kl_ins vs.toArray.toList ((bisGo (fun i => decide (g (rs.getD i ⟨0, 0, 0⟩) ≤ g r)) vs.length 0 vs.length : Nat) : Int) rv).toArray (n + 1)) news news' := by
    rw [kl_ins_nat hp]
    exact U
  refine wpAny_noRaise ?_
  refine wpAny_call ?_
  k_dflt (refine' code_def ?k1 ?k2 ?k3 ?k4 ?k5 ?kA ?kF ?kK ?k6 ?k7 ?k8 ?k9 ?kB ?_ ?c2 ?c3 ?c4 ?c5; (case kA => exact rfl); (case kF => exact rfl); (case kK => exact hk); (case k1 => k_asm); (case k2 => k_asm); (case k3 => k_asm); (case k4 => k_asm); (case k5 => k_asm); (case k6 => k_is); (case k7 => k_is); (case k8 => ktr_room); (case k9 => (refine' kp_binds ?kx ?ke; (case kx => k_in); (case ke => exact fun _ => rfl))); (case c5 => decide); (case kB => exact locs rfl); (case c2 => exact rfl); (case c3 => exact rfl); (case c4 => exact rfl); k_whole; intro g' L' h' FG' F' N' B' X' T'; (try dsimp only); (try k_lift B'); (try k_fold))
  (with_reducible rename Fr _ _ _ _ => FE)
  refine letF FE ?_
  clear FE
  intro mE FE
  k_steps
  exact hret _ _ (by with_reducible assumption) (by with_reducible assumption)
end
end Mine

-- Claid
open PySem PySem.W PyProof.Rows PySem.Spec PySem.Calls
set_option maxRecDepth 100000
set_option maxHeartbeats 8000000
namespace Mine
theorem fresh_Claid : True := by
  w_top off
  exact trivial

theorem N_six {g h : Heap} {L : Addr} {x1 x2 x3 x4 x5 x6 : Addr × Obj} {news : List (Addr × Obj)} (N : News g L h (x1 :: x2 :: x3 :: x4 :: x5 :: x6 :: news)) : News g L h (x5 :: x6 :: ([x2] ++ news)) := by
  intro q hq
  refine N q ?_
  simp only [List.mem_cons, List.mem_append, List.not_mem_nil, or_false] at hq ⊢
  rcases hq with h | h | h | h <;> simp [h]
theorem N_five {g h : Heap} {L : Addr} {x1 x2 x3 x4 x5 : Addr × Obj} {news : List (Addr × Obj)} (N : News g L h (x1 :: x2 :: x3 :: x4 :: x5 :: news)) : News g L h (x4 :: x5 :: ([] ++ news)) := by
  intro q hq
  refine N q ?_
  simp only [List.mem_cons, List.nil_append] at hq ⊢
  rcases hq with h | h | h <;> simp [h]
theorem sub6 {g h : Heap} {L : Addr} {x1 x2 x3 x4 x5 x6 : Addr × Obj} {news : List (Addr × Obj)} (_N : News g L h (x1 :: x2 :: x3 :: x4 :: x5 :: x6 :: news)) : ∀ q ∈ news, q ∈ x1 :: x2 :: x3 :: x4 :: x5 :: x6 :: news :=
  fun q hq => List.mem_cons_of_mem _ (List.mem_cons_of_mem _ (List.mem_cons_of_mem _ (List.mem_cons_of_mem _ (List.mem_cons_of_mem _ (List.mem_cons_of_mem _ hq)))))
theorem sub5 {g h : Heap} {L : Addr} {x1 x2 x3 x4 x5 : Addr × Obj} {news : List (Addr × Obj)} (_N : News g L h (x1 :: x2 :: x3 :: x4 :: x5 :: news)) : ∀ q ∈ news, q ∈ x1 :: x2 :: x3 :: x4 :: x5 :: news :=
  fun q hq => List.mem_cons_of_mem _ (List.mem_cons_of_mem _ (List.mem_cons_of_mem _ (List.mem_cons_of_mem _ (List.mem_cons_of_mem _ hq))))
theorem Each.mono {α : Type} {R S : Value → α → Prop} {vs : List Value} {ds : List α} (h : Each R vs ds) (hs : ∀ v d, R v d → S v d) : Each S vs ds := ⟨h.1, fun i v d a b => hs _ _ (h.2 i v d a b)⟩
noncomputable def TabSt (ps : Array Value) (news : List (Addr × Obj)) : Prop :=
  ps = #[] ∨ ∃ c' oc vs t, ps = #[rawInt 110, rawInt 32, .ref c'] ∧ (c', oc) ∈ news ∧ oc.data = .fields vs ∧ vs[1]? = some (.str (Str.ofString "_law_laid.<locals>.<lambda>") t)
theorem keyfn_cut {w : World} {p : Program} {loose : List Str} {mean : ExcName → Option Value} {mg mb : Str → Option Value} {f : Addr} {led : List (Addr × Obj)} {g : RowD → Int} {k1 k2 : Nat} {g₀ h : Heap} {L : Addr} {P : Prop}
    (_N : News g₀ L h led) (hk : KeyFn w p loose mean mg mb f led g k1 k2) (h : KeyFn w p loose mean mg mb f led g k1 k2 → P) : P := h hk

section
variable {w : World} {p : Program} {loose : List Str} {mean : ExcName → Option Value} {mg mb : Str → Option Value}
   {dp un : Nat} {gd : Option (List Code)} {cn : Str} {cs : Scope} {a : Addr} {ccd : Value} {cl : List (Str × Addr)} {outer : List Env} {A₀ : Around} {base h₀ : Heap} {L : Addr} {m : Str → Option Value} {news : List (Addr × Obj)} {l : Addr} {vs : List Value} {nl : Nat} {ps : Array Value} {s : Shared} {Q E : Value → Shared → Prop}
   (B : Below A₀ base outer h₀) (F : Fr h₀ L s.heap m) (X : (Mine.hd.heap_1 w.params).In h₀) (N : News h₀ L s.heap ((l, lstO vs nl) :: (117, tabObj ps) :: news)) (C : CodeHd h₀ 121 117) (T : Top p loose mean mg mb h₀) (hk : cs.kind = .function)
include B F X N T hk C

local macro_rules | `(tactic| walk_at "call ref") => `(tactic| (k_here; (with_reducible show wpAny _ _ (call (Value.ref 70) [_, _, _]) _ _ _); k_dflt (refine' cmp_k ?kB ?kF ?kX ?kN ?kT ?kk ?kd ?ku ?kj ?kx ?ky ?ks ?_); (case kB => k_asm); (case kF => k_asm); (case kX => k_asm); (case kN => k_asm); (case kT => k_asm); (case kk => exact rfl); (case kd => ktr_room); (case ku => ktr_units); (case kj => assumption); (case kx => assumption); (case ky => assumption); (case ks => assumption)); (intro t9 h9 tk9 F9 N9; (try dsimp only); (try k_fold)))
local macro_rules | `(tactic| k_all) => `(tactic| first | assumption | exact allLt_ne (by first | assumption | exact And.right (by assumption)))
local macro_rules | `(tactic| k_mem) => `(tactic| first | with_reducible assumption | assumption)
local macro_rules | `(tactic| k_room) => `(tactic| ktr_room)
local macro_rules | `(tactic| k_units) => `(tactic| ktr_units)
set_option hygiene false in
theorem laid_k (hd : dp + 16 < recursionLimit) (hu : un + 96 < cLine) {jv rv : Value} {ks : List (Int × Int)} {r : RowD} {rs : List RowD} (hz : vs.length ≤ 1000)
   (hl1 : l ≠ 117) (hl2 : ∀ q ∈ news, q.1 ≠ l) (hl3 : ∀ q ∈ news, q.1 ≠ 117) {tb : List (Addr × Obj)} (htb : ∀ p ∈ tb, p ∈ news) (hps : TabSt ps tb)
   (he : Each (IsRow news) vs rs) (hr : IsRow news rv r) (hj : IsJudge news jv ks) (hks : okKeys ks)
   (hret : ∀ ps' ex h' tk', TabSt ps' (ex ++ tb) → (∀ q ∈ ex, l < q.1 ∧ 117 < q.1 ∧ AllLt q.1 news) → Fr h₀ L h' m → News h₀ L h' ((l, lstO (insL (fun q => cmp ks q r) rs r vs rv) (nl + 1)) :: (117, tabObj ps') :: (ex ++ news)) → Q (.ref l) { s with heap := h', toks := tk' }) :
   wpAny (model PySem.Challenge.rw_wf0029_01.row.prog w) (ktrTop dp un gd cn cs L a ccd cl outer) (call (.ref 122) [.ref l, rv, jv]) Q E s := by
  revert X; k_fill; intro X
  have hj' := hj
  have hl1' := neN (a := l) (b := 117) hl1
  refine hideG ?_
  intro G hG
  obtain ⟨j, dx, hsh, tok, kv, n1, rfl, hj1, hj2, hj3⟩ := hj
  refine hG ?_
  clear hG G
  rcases hps with rfl | ⟨c₁, oc₁, vs₁, tq, rfl, hc1, hc2, hc3⟩
  · refine wpAny_noRaise ?_
    refine wpAny_call ?_
    k_dflt (refine' code_defC ?k1 ?k2 ?k3 ?k4 ?k5 ?kA ?kF ?kK ?k6 ?k7 ?k8 ?k9 ?kB ?kD ?_ ?c2 ?c3 ?c4; (case kA => exact rfl); (case kF => exact rfl); (case kK => assumption); (case k1 => k_asm); (case k2 => k_asm); (case k3 => k_asm); (case k4 => k_asm); (case k5 => k_asm); (case k6 => k_is); (case k7 => k_is); (case k8 => ktr_room); (case k9 => first | exact BindsTo.of_eq rfl | exact binds_K (by k_in) rfl (by k_is) rfl rfl rfl); (case kB => exact rfl); (case kD => decide +kernel); (case c2 => exact rfl); (case c3 => exact rfl); (case c4 => exact rfl); k_whole; intro g' L' h' tk' cells' FG' F' N' Y' B' X' T' l1; (try k_lt l1); k_cells Y'; (try simp only [List.cons_append, List.nil_append] at N'); (try dsimp only); (try k_lift B'); (try k_fold))
    refine letF F' ?_
    clear F'
    intro mE F'
    have C' := C.keeps FG'.keep
    iterate 14 walk1
    rename_i f1 c1 oc1 vs1 tq1 ct1 h5 tk5 F5 N5 d1 d2 l5 l6
    have sub := sub6 N5
    have hjl := hj'.mono sub
    have hrl := hr.mono sub
    refine keyfn_cut N5 (f := f1) (g := fun q => cmp ks q r) (w := w) (p := p) (loose := loose) (mean := mean) (mg := mg) (mb := mb) (k1 := 4) (k2 := 24) ?_ fun hkey => ?_
    · clear hret B F X N T hk F' N' B' X' T' F5 N5
      intro dp un gd cn cs a ccd cl outer A₀ base h₀ L m s Q E B F X N T hk hd hu v rk hv hret
      refine wpAny_noRaise ?_
      refine wpAny_call ?_
      k_dflt (refine' kla_code ?k1 ?k2 ?k3 ?k4 ?k5 ?kA ?kF ?kK ?k6 ?k7 ?k8 ?k9 ?kB ?_ ?c2 ?c3 ?c4 ?c5; (case kA => exact rfl); (case kF => exact rfl); (case kK => exact hk); (case k1 => exact B); (case k2 => exact F); (case k3 => exact X); (case k4 => exact N); (case k5 => exact T); (case k6 => k_mem); (case k7 => exact codeRec_news N (by k_mem) (by assumption) (by assumption)); (case k8 => ktr_room); (case k9 => exact rfl); (case c5 => decide); (case kB => exact locs rfl); (case c2 => exact rfl); (case c3 => exact rfl); (case c4 => exact rfl); k_whole; intro g' L' h' FG' F' N' B' X' T'; (try dsimp only); (try k_lift B'); (try k_fold))
      refine letF F' ?_
      clear F'
      intro mE F'
      k_steps
      exact hret _ _ _ (by with_reducible assumption) (by with_reducible assumption)
    · refine' ins_k (vs := vs) (n := nl) (rs := rs) (rv := rv) (r := r) ?kB ?kF ?kX ?kN ?kT ?kk ?kd ?ku ?kl (he.mono fun v d h => h.mono sub) hrl hz ?kf hkey ?kU ?_; (case kB => k_asm); (case kF => k_asm); (case kX => k_asm); (case kN => k_asm); (case kT => k_asm); (case kk => exact rfl); (case kd => ktr_room); (case ku => ktr_units); (case kl => k_mem); (case kf => exact List.mem_cons_self); (case kU => k_upd)
      intro h7 tk7 F7 N7
      k_steps
      refine' hret _ [(c1, oc1)] _ _ (Or.inr ⟨c1, oc1, vs1, tq1, rfl, List.mem_cons_self, d1, d2⟩) ?ra (by with_reducible assumption) ?rb
      case ra =>
        intro q hq
        rw [List.mem_singleton.mp hq]
        exact ⟨l5.2.2.1, l5.2.2.2.1, l5.2.2.2.2⟩
      case rb =>
        rename_i kF kN Tc kX
        exact N_six kN
  · refine wpAny_noRaise ?_
    refine wpAny_call ?_
    k_dflt (refine' code_defC ?k1 ?k2 ?k3 ?k4 ?k5 ?kA ?kF ?kK ?k6 ?k7 ?k8 ?k9 ?kB ?kD ?_ ?c2 ?c3 ?c4; (case kA => exact rfl); (case kF => exact rfl); (case kK => assumption); (case k1 => k_asm); (case k2 => k_asm); (case k3 => k_asm); (case k4 => k_asm); (case k5 => k_asm); (case k6 => k_is); (case k7 => k_is); (case k8 => ktr_room); (case k9 => first | exact BindsTo.of_eq rfl | exact binds_K (by k_in) rfl (by k_is) rfl rfl rfl); (case kB => exact rfl); (case kD => decide +kernel); (case c2 => exact rfl); (case c3 => exact rfl); (case c4 => exact rfl); k_whole; intro g' L' h' tk' cells' FG' F' N' Y' B' X' T' l1; (try k_lt l1); k_cells Y'; (try simp only [List.cons_append, List.nil_append] at N'); (try dsimp only); (try k_lift B'); (try k_fold))
    refine letF F' ?_
    clear F'
    intro mE F'
    have C' := C.keeps FG'.keep
    iterate 14 walk1
    rename_i f1 ct1 h5 tk5 F5 N5 l5
    have sub := sub5 N5
    have hjl := hj'.mono sub
    have hrl := hr.mono sub
    have hc1' := hc1
    have hc1 := sub _ (htb _ hc1)
    refine keyfn_cut N5 (f := f1) (g := fun q => cmp ks q r) (w := w) (p := p) (loose := loose) (mean := mean) (mg := mg) (mb := mb) (k1 := 4) (k2 := 24) ?_ fun hkey => ?_
    · clear hret B F X N T hk F' N' B' X' T' F5 N5
      intro dp un gd cn cs a ccd cl outer A₀ base h₀ L m s Q E B F X N T hk hd hu v rk hv hret
      refine wpAny_noRaise ?_
      refine wpAny_call ?_
      k_dflt (refine' kla_code ?k1 ?k2 ?k3 ?k4 ?k5 ?kA ?kF ?kK ?k6 ?k7 ?k8 ?k9 ?kB ?_ ?c2 ?c3 ?c4 ?c5; (case kA => exact rfl); (case kF => exact rfl); (case kK => exact hk); (case k1 => exact B); (case k2 => exact F); (case k3 => exact X); (case k4 => exact N); (case k5 => exact T); (case k6 => k_mem); (case k7 => exact codeRec_news N (by k_mem) (by assumption) (by assumption)); (case k8 => ktr_room); (case k9 => exact rfl); (case c5 => decide); (case kB => exact locs rfl); (case c2 => exact rfl); (case c3 => exact rfl); (case c4 => exact rfl); k_whole; intro g' L' h' FG' F' N' B' X' T'; (try dsimp only); (try k_lift B'); (try k_fold))
      refine letF F' ?_
      clear F'
      intro mE F'
      k_steps
      exact hret _ _ _ (by with_reducible assumption) (by with_reducible assumption)
    · refine' ins_k (vs := vs) (n := nl) (rs := rs) (rv := rv) (r := r) ?kB ?kF ?kX ?kN ?kT ?kk ?kd ?ku ?kl (he.mono fun v d h => h.mono sub) hrl hz ?kf hkey ?kU ?_; (case kB => k_asm); (case kF => k_asm); (case kX => k_asm); (case kN => k_asm); (case kT => k_asm); (case kk => exact rfl); (case kd => ktr_room); (case ku => ktr_units); (case kl => k_mem); (case kf => exact List.mem_cons_self); (case kU => k_upd)
      intro h7 tk7 F7 N7
      k_steps
      refine' hret _ [] _ _ (Or.inr ⟨c₁, oc₁, vs₁, tq, rfl, hc1', hc2, hc3⟩) (fun q hq => by cases hq) (by with_reducible assumption) ?rb
      rename_i kF kN Tc kX
      exact N_five kN
end
end Mine

-- L6
open PySem PySem.W PyProof.Rows PySem.Spec PySem.Calls
set_option maxRecDepth 100000
namespace Mine
/-- an iterator that walks, the values handed to a target -/
structure GWalk (prog : Program) (w : World) (A : Around) (target : PySem.Expr) (I : Addr) (wr : List Addr) (n : Nat) (P : Nat → Value → Heap → Prop) (St : Nat → Heap → Prop) : Prop where
  item : ∀ i (s : Shared) (Q : Value → Shared → Prop) (E E' : Value → Shared → Prop), i < n → St i s.heap →
    (∀ v h' tk, P i v h' → St (i + 1) h' → (∀ b o, b ∉ wr → s.heap.get? b = some o → h'.get? b = some o) → Q v { s with heap := h', toks := tk }) →
    wpAny (model prog w) A (pyNext (.ref I)) (fun r s₁ => ∃ v, r = some v ∧ wpAny (model prog w) A (letOwnedTupleGo target (.ref I) v) (fun _ s₂ => Q v s₂) E' s₁) E s
  done : ∀ (s : Shared) (Q : Option Value → Shared → Prop) (E : Value → Shared → Prop), St n s.heap →
    (∀ h' tk, (∀ b o, b ∉ wr → s.heap.get? b = some o → h'.get? b = some o) → Q none { s with heap := h', toks := tk }) → wpAny (model prog w) A (pyNext (.ref I)) Q E s
  self : ∀ i (s : Shared) (Q : Value → Shared → Prop) (E : Value → Shared → Prop), St i s.heap → Q (.ref I) s → wpAny (model prog w) A (pyIter (.ref I)) Q E s
section
variable {prog : Program} {w : World} {A : Around} {s : Shared} {env : Env} {h₀ : Heap} {target : PySem.Expr} {body orelse : List Stmt}
theorem GWalk.name {x : Str} {px : Pos} {I : Addr} {fp wr : List Addr} {n : Nat} {P : Nat → Value → Prop} {St : Nat → Heap → Prop} (W : Walks prog w A I fp wr n P St) : GWalk prog w A (.Name x px) I wr n (fun i v _ => P i v) St where
  item := fun i s Q E E' hi st hQ => W.item i s _ E hi st fun v h' tk hP st' hk => ⟨v, rfl, wpAny_pure (hQ v h' tk hP st' hk)⟩
  done := W.done
  self := W.self
theorem GWalk.tuple {elts : List PySem.Expr} {k : Nat} {pos : Pos} {I : Addr} {fp wr : List Addr} {n : Nat} {Pt : Nat → Array Value → Prop} {St : Nat → Heap → Prop} {Mid : Nat → Addr → Heap → Prop} (W : WalksT prog w A I fp wr n Pt St Mid) :
    GWalk prog w A (.Tuple elts k pos) I wr n (fun i v h => ∃ T vals, v = .ref T ∧ Pt i vals ∧ h.IsTuple T vals) St where
  item := fun i s Q E E' hi st hQ => W.item i s _ E hi st fun T vals h' tk hPt _ hT hMid hk => ⟨.ref T, rfl, W.go elts k pos i T _ _ _ hMid fun h2 st2 hk2 =>
    hQ (.ref T) h2 tk ⟨T, vals, rfl, hPt, hT.at fun o e => hk2 T o (W.apart i T h' hMid) e⟩ st2 (fun b o hb e => hk2 b o hb (hk b o hb e))⟩
  done := W.done
  self := W.self

noncomputable def NxG (h₀ : Heap) (L : Addr) (J : (Str → Option Value) → List (Addr × Obj) → Prop) (wr : List Addr) (own : List (Addr × Obj)) (s s₂ : Shared) : Prop :=
  ∃ h tk m news, s₂ = { s with heap := h, toks := tk } ∧ Fr h₀ L h m ∧ News h₀ L h (own ++ news) ∧ (∀ p ∈ news, p.1 ∉ wr) ∧ J m news
noncomputable def TurnG (h₀ : Heap) (L : Addr) (J : (Str → Option Value) → List (Addr × Obj) → Prop) (wr : List Addr) (own : List (Addr × Obj)) (s : Shared) (Q : Flow → Shared → Prop) (f : Flow) (s₂ : Shared) : Prop :=
  match f with
  | .ret v => Q (.ret v) s₂
  | .brk => Q .next s₂
  | .cont => NxG h₀ L J wr own s s₂
  | .next => NxG h₀ L J wr own s s₂
theorem old_kept {h h' : Heap} {L : Addr} {wr : List Addr} {m : Str → Option Value} (F : Fr h₀ L h m) (hLw : L ∉ wr) (hw0 : ∀ b ∈ wr, h₀.get? b = none) (hk : ∀ b o, b ∉ wr → h.get? b = some o → h'.get? b = some o) : Fr h₀ L h' m :=
  ⟨F.ns.at' fun o e => hk L o hLw e, fun b o e => hk b o (fun hb => by rw [hw0 b hb] at e; cases e) (F.keep b o e), F.above⟩
theorem off_kept {h h' : Heap} {L : Addr} {wr : List Addr} {news : List (Addr × Obj)} (N : News h₀ L h news) (off : ∀ p ∈ news, p.1 ∉ wr) (hk : ∀ b o, b ∉ wr → h.get? b = some o → h'.get? b = some o) : News h₀ L h' news :=
  fun p hp => ⟨hk _ _ (off p hp) (N p hp).1, (N p hp).2⟩
theorem own_kept {h h' : Heap} {L : Addr} {wr : List Addr} {rest : List (Addr × Obj)} (hw0 : ∀ b ∈ wr, h₀.get? b = none) (N : News h₀ L h' (ownOf h₀ wr h ++ rest)) : ∀ b ∈ wr, ∀ o, h.get? b = some o → h'.get? b = some o :=
  fun b hb _ e => (N _ (List.mem_append_left _ (mem_ownOf hb (hw0 b hb) e))).1
/-- a for over any iterator, any target, with else, early leaves, a growing ledger -/
theorem for_gen {I : Addr} {wr : List Addr} {n : Nat} {P : Nat → Value → Heap → Prop} {St : Nat → Heap → Prop} {S : List (Addr × Obj) → Prop} {m₀ : Str → Option Value} {news : List (Addr × Obj)} {E' : Value → Shared → Prop} {Q : Flow → Shared → Prop}
    (W : GWalk prog w A target I wr n P St)
    (hSt : ∀ i h h' nw, St i h → (∀ b ∈ wr, ∀ o, h.get? b = some o → h'.get? b = some o) → (∀ b o, h₀.get? b = some o → h'.get? b = some o) → News h₀ env.locals h' nw → S nw → St i h')
    (J : Nat → (Str → Option Value) → List (Addr × Obj) → Prop) (hS : ∀ i m nw, J i m nw → S nw)
    (hLw : env.locals ∉ wr) (hw0 : ∀ b ∈ wr, h₀.get? b = none) (off : ∀ p ∈ news, p.1 ∉ wr) (hst : St 0 s.heap)
    (F : Fr h₀ env.locals s.heap m₀) (N : News h₀ env.locals s.heap news) (h0 : J 0 m₀ news)
    (turn : ∀ i v m₁ news₁ own h tk, i < n → P i v h → J i m₁ news₁ → Fr h₀ env.locals h m₁ → News h₀ env.locals h (own ++ news₁) → (∀ p ∈ own, p.1 ∈ wr) → (∀ p ∈ news₁, p.1 ∉ wr) →
      wpAny (model prog w) A (assign target env v) (fun _ s₃ => wpAny (model prog w) A (execs body env)
        (TurnG h₀ env.locals (J (i + 1)) wr own s Q) (fun _ _ => False) s₃) (fun _ _ => False) { s with heap := h, toks := tk })
    (done : ∀ m₁ news₁ h tk, J n m₁ news₁ → Fr h₀ env.locals h m₁ → News h₀ env.locals h news₁ → wpAny (model prog w) A (execs orelse env) Q (fun _ _ => False) { s with heap := h, toks := tk }) :
    codeAny (model prog w) A (.forLoop target (.ref I) body orelse env)
      (fun r s' => match r with | .ok f => Q f s' | .error e => cameBackBy (model prog w) A env E' e s') s := by
  refine codeAny_forLoop_any
    (fun k s' => ∃ h tk m nw i, s' = { s with heap := h, toks := tk } ∧ Fr h₀ env.locals h m ∧ News h₀ env.locals h nw ∧ (∀ p ∈ nw, p.1 ∉ wr) ∧
      St i h ∧ J i m nw ∧ i ≤ n ∧ k = n + 1 - i) ?_ (n + 1)
    ⟨s.heap, s.toks, m₀, news, 0, rfl, F, N, off, hst, h0, Nat.zero_le _, rfl⟩
  rintro k s' ⟨h, tk, m, nw, i, rfl, F', N', hoff, hit, hJ, hi, rfl⟩
  by_cases hlt : i < n
  · refine wpAny_mono (W.item i { s with heap := h, toks := tk } (fun v s₁ => ∃ h₁ tk₁, s₁ = { s with heap := h₁, toks := tk₁ } ∧ P i v h₁ ∧ St (i + 1) h₁ ∧ (∀ b o, b ∉ wr → h.get? b = some o → h₁.get? b = some o)) _ (fun _ _ => False) hlt hit
      (fun v h' tk' hP hst' hk => ⟨h', tk', rfl, hP, hst', hk⟩)) (fun r s₁ hr => ?_) fun _ _ x => x
    refine hideG ?_
    intro G hG
    obtain ⟨v, rfl, hgo⟩ := hr
    refine hG ?_
    clear hG G
    refine wpAny_mono hgo (fun _ s₂ h₂ => ?_) fun _ _ x => x.elim
    refine hideG ?_
    intro G hG
    obtain ⟨h₁, tk₁, rfl, hP, hit₁, hk₁⟩ := h₂
    refine hG ?_
    clear hG G
    have F₁ := old_kept F' hLw hw0 hk₁
    have N₁ : News h₀ env.locals h₁ (ownOf h₀ wr h₁ ++ nw) := (news_ownOf hLw).append (off_kept N' hoff hk₁)
    refine wpAny_mono (turn i v m nw _ h₁ _ hlt hP hJ F₁ N₁ ownOf_sub hoff) (fun _ s₃ h₃ => wpAny_mono h₃ (fun f s₄ h₄ => ?_) fun _ _ x => x.elim) fun _ _ x => x.elim
    have go : NxG h₀ env.locals (J (i + 1)) wr (ownOf h₀ wr h₁) s s₄ → ∃ k, k < n + 1 - i ∧ ∃ h tk m nw i, s₄ = { s with heap := h, toks := tk } ∧ Fr h₀ env.locals h m ∧ News h₀ env.locals h nw ∧ (∀ p ∈ nw, p.1 ∉ wr) ∧
        St i h ∧ J i m nw ∧ i ≤ n ∧ k = n + 1 - i := by
      rintro ⟨H₄, tk₄, m₄, nw₄, rfl, F₄, N₄, off₄, hJ₄⟩
      exact ⟨n + 1 - (i + 1), sub_dec hlt, H₄, tk₄, m₄, nw₄, i + 1, rfl, F₄, N₄.right, off₄,
        hSt _ _ _ nw₄ hit₁ (own_kept hw0 N₄) F₄.keep N₄.right (hS _ _ _ hJ₄), hJ₄, hlt, rfl⟩
    cases f with
    | ret v => exact h₄
    | brk => exact h₄
    | cont => exact go h₄
    | next => exact go h₄
  · have hin : i = n := by omega
    subst hin
    refine W.done _ _ _ hit fun h₁ tk₁ hk₁ => ?_
    exact wpAny_mono (done m nw h₁ tk₁ hJ (old_kept F' hLw hw0 hk₁) (off_kept N' hoff hk₁)) (fun _ _ x => x) fun _ _ x => x.elim
/-- the same, the iterator's objects being told to lie in own -/
theorem for_gen2 {I : Addr} {wr : List Addr} {n : Nat} {P : Nat → Value → Heap → Prop} {St : Nat → Heap → Prop} {S : List (Addr × Obj) → Prop} {m₀ : Str → Option Value} {news : List (Addr × Obj)} {E' : Value → Shared → Prop} {Q : Flow → Shared → Prop}
    (W : GWalk prog w A target I wr n P St)
    (hSt : ∀ i h h' nw, St i h → (∀ b ∈ wr, ∀ o, h.get? b = some o → h'.get? b = some o) → (∀ b o, h₀.get? b = some o → h'.get? b = some o) → News h₀ env.locals h' nw → S nw → St i h')
    (hlive : ∀ i h, St i h → ∀ b ∈ wr, ∃ o, h.get? b = some o)
    (J : Nat → (Str → Option Value) → List (Addr × Obj) → Prop) (hS : ∀ i m nw, J i m nw → S nw)
    (hLw : env.locals ∉ wr) (hw0 : ∀ b ∈ wr, h₀.get? b = none) (off : ∀ p ∈ news, p.1 ∉ wr) (hst : St 0 s.heap)
    (F : Fr h₀ env.locals s.heap m₀) (N : News h₀ env.locals s.heap news) (h0 : J 0 m₀ news)
    (turn : ∀ i v m₁ news₁ own h tk, i < n → P i v h → J i m₁ news₁ → Fr h₀ env.locals h m₁ → News h₀ env.locals h (own ++ news₁) → (∀ p ∈ own, p.1 ∈ wr) → (∀ b ∈ wr, ∃ o, (b, o) ∈ own) → (∀ p ∈ news₁, p.1 ∉ wr) →
      wpAny (model prog w) A (assign target env v) (fun _ s₃ => wpAny (model prog w) A (execs body env)
        (TurnG h₀ env.locals (J (i + 1)) wr own s Q) (fun _ _ => False) s₃) (fun _ _ => False) { s with heap := h, toks := tk })
    (done : ∀ m₁ news₁ h tk, J n m₁ news₁ → Fr h₀ env.locals h m₁ → News h₀ env.locals h news₁ → wpAny (model prog w) A (execs orelse env) Q (fun _ _ => False) { s with heap := h, toks := tk }) :
    codeAny (model prog w) A (.forLoop target (.ref I) body orelse env)
      (fun r s' => match r with | .ok f => Q f s' | .error e => cameBackBy (model prog w) A env E' e s') s := by
  refine codeAny_forLoop_any
    (fun k s' => ∃ h tk m nw i, s' = { s with heap := h, toks := tk } ∧ Fr h₀ env.locals h m ∧ News h₀ env.locals h nw ∧ (∀ p ∈ nw, p.1 ∉ wr) ∧
      St i h ∧ J i m nw ∧ i ≤ n ∧ k = n + 1 - i) ?_ (n + 1)
    ⟨s.heap, s.toks, m₀, news, 0, rfl, F, N, off, hst, h0, Nat.zero_le _, rfl⟩
  rintro k s' ⟨h, tk, m, nw, i, rfl, F', N', hoff, hit, hJ, hi, rfl⟩
  by_cases hlt : i < n
  · refine wpAny_mono (W.item i { s with heap := h, toks := tk } (fun v s₁ => ∃ h₁ tk₁, s₁ = { s with heap := h₁, toks := tk₁ } ∧ P i v h₁ ∧ St (i + 1) h₁ ∧ (∀ b o, b ∉ wr → h.get? b = some o → h₁.get? b = some o)) _ (fun _ _ => False) hlt hit
      (fun v h' tk' hP hst' hk => ⟨h', tk', rfl, hP, hst', hk⟩)) (fun r s₁ hr => ?_) fun _ _ x => x
    refine hideG ?_
    intro G hG
    obtain ⟨v, rfl, hgo⟩ := hr
    refine hG ?_
    clear hG G
    refine wpAny_mono hgo (fun _ s₂ h₂ => ?_) fun _ _ x => x.elim
    refine hideG ?_
    intro G hG
    obtain ⟨h₁, tk₁, rfl, hP, hit₁, hk₁⟩ := h₂
    refine hG ?_
    clear hG G
    have F₁ := old_kept F' hLw hw0 hk₁
    have N₁ : News h₀ env.locals h₁ (ownOf h₀ wr h₁ ++ nw) := (news_ownOf hLw).append (off_kept N' hoff hk₁)
    refine wpAny_mono (turn i v m nw _ h₁ _ hlt hP hJ F₁ N₁ ownOf_sub (fun b hb => let ⟨o, ho⟩ := hlive _ _ hit₁ b hb; ⟨o, mem_ownOf hb (hw0 b hb) ho⟩) hoff) (fun _ s₃ h₃ => wpAny_mono h₃ (fun f s₄ h₄ => ?_) fun _ _ x => x.elim) fun _ _ x => x.elim
    have go : NxG h₀ env.locals (J (i + 1)) wr (ownOf h₀ wr h₁) s s₄ → ∃ k, k < n + 1 - i ∧ ∃ h tk m nw i, s₄ = { s with heap := h, toks := tk } ∧ Fr h₀ env.locals h m ∧ News h₀ env.locals h nw ∧ (∀ p ∈ nw, p.1 ∉ wr) ∧
        St i h ∧ J i m nw ∧ i ≤ n ∧ k = n + 1 - i := by
      rintro ⟨H₄, tk₄, m₄, nw₄, rfl, F₄, N₄, off₄, hJ₄⟩
      exact ⟨n + 1 - (i + 1), sub_dec hlt, H₄, tk₄, m₄, nw₄, i + 1, rfl, F₄, N₄.right, off₄,
        hSt _ _ _ nw₄ hit₁ (own_kept hw0 N₄) F₄.keep N₄.right (hS _ _ _ hJ₄), hJ₄, hlt, rfl⟩
    cases f with
    | ret v => exact h₄
    | brk => exact h₄
    | cont => exact go h₄
    | next => exact go h₄
  · have hin : i = n := by omega
    subst hin
    refine W.done _ _ _ hit fun h₁ tk₁ hk₁ => ?_
    exact wpAny_mono (done m nw h₁ tk₁ hJ (old_kept F' hLw hw0 hk₁) (off_kept N' hoff hk₁)) (fun _ _ x => x) fun _ _ x => x.elim
end

noncomputable def CEnd (h₀ : Heap) (L : Addr) (m : Str → Option Value) (s : Shared) (wr : List Addr) (own : List (Addr × Obj)) (C : Addr) (oC : Obj) (D : Addr) (oD : Obj) (Jn : List (Addr × Obj) → Prop) (s₂ : Shared) : Prop :=
  ∃ h tk news', s₂ = { s with heap := h, toks := tk } ∧ Fr h₀ L h m ∧ News h₀ L h ((C, oC) :: (D, oD) :: (own ++ news')) ∧ (∀ p ∈ news', p.1 ∉ wr ∧ p.1 ≠ C ∧ p.1 ≠ D) ∧ Jn news'

section
variable {prog : Program} {w : World} {A : Around} {E : Value → Shared → Prop} {R : Result → Shared → Prop} {s : Shared}
theorem comp_loop_list {elt target iter : PySem.Expr} {ifs : List PySem.Expr} {scope : Scope} {pos : Pos} {it : Value} {D : Addr} {env : Env} (I : Nat → Shared → Prop)
    (turn : ∀ n s, I n s → wpAny (model prog w) A (pyNext it) (fun r s₁ => match r with
      | none => R (.ok .next) s₁
      | some v => wpAny (model prog w) A (letOwnedTupleGo target it v) (fun _ s₁ => wpAny (model prog w) A (assign target env v) (fun _ s₂ =>
          wpAny (model prog w) A (forIn ifs true fun c r => if r = true then do let ok ← isTrue c env (eval c env); pure (ForInStep.yield ok) else pure (ForInStep.yield r)) (fun ok s₃ =>
            if ok = true then wpAny (model prog w) A (eval elt env) (fun x s₄ => wpAny (model prog w) A (call (.builtin "list.append") [.ref D, x]) (fun _ s₅ => ∃ m, m < n ∧ I m s₅) (notedBy (model prog w) A env fun e s' => R (.error e) s') s₄) (notedBy (model prog w) A env fun e s' => R (.error e) s') s₃
            else ∃ m, m < n ∧ I m s₃) (notedBy (model prog w) A env fun e s' => R (.error e) s') s₂) (notedBy (model prog w) A env fun e s' => R (.error e) s') s₁) (notedBy (model prog w) A env fun e s' => R (.error e) s') s₁) (notedBy (model prog w) A env fun e s' => R (.error e) s') s)
    (n : Nat) (h : I n s) :
    codeAny (model prog w) A (.compLoop (.ListComp elt [⟨target, iter, ifs, 0⟩] scope pos) 0 it (.ref D) env) R s := by
  refine codeAny_loop rfl I (fun n s hI => ?_) n h
  show wpAny _ A ((compTurn (.ListComp elt [⟨target, iter, ifs, 0⟩] scope pos) 0 it (.ref D) env).onRaise (fun x => do noteFrame x env; theTreesLotGoes x)) _ _ s
  refine wpAny_noted ?_
  rw [compTurn_list]
  refine wpAny_bind (wpAny_standAt (wpAny_bind (wpAny_mono (turn n s hI) (fun r s₁ h₁ => ?_) fun _ _ h' => h')))
  cases r with
  | none => exact wpAny_pure h₁
  | some v =>
    refine wpAny_bind (wpAny_mono h₁ (fun _ s₁ h₁ => ?_) fun _ _ h' => h')
    refine wpAny_bind (wpAny_mono h₁ (fun _ s₂ h₂ => wpAny_bind (wpAny_mono h₂ (fun ok s₃ h₃ => ?_) fun _ _ h' => h')) fun _ _ h' => h')
    cases ok with
    | false => exact wpAny_pure ⟨rfl, h₃⟩
    | true =>
      exact wpAny_bind (wpAny_bind (wpAny_mono h₃ (fun x s₄ h₄ => wpAny_bind (wpAny_mono h₄ (fun _ s₅ h₅ => wpAny_pure (wpAny_pure ⟨rfl, h₅⟩)) fun _ _ h' => h')) fun _ _ h' => h'))
end

section
variable {prog : Program} {w : World} {A : Around} {E : Value → Shared → Prop} {R : Result → Shared → Prop} {s : Shared}
theorem comp_loop_dict {kx vx target iter : PySem.Expr} {ifs : List PySem.Expr} {scope : Scope} {pos : Pos} {it : Value} {D : Addr} {env : Env} (I : Nat → Shared → Prop)
    (turn : ∀ n s, I n s → wpAny (model prog w) A (pyNext it) (fun r s₁ => match r with
      | none => R (.ok .next) s₁
      | some v => wpAny (model prog w) A (letOwnedTupleGo target it v) (fun _ s₁ => wpAny (model prog w) A (assign target env v) (fun _ s₂ =>
          wpAny (model prog w) A (forIn ifs true fun c r => if r = true then do let ok ← isTrue c env (eval c env); pure (ForInStep.yield ok) else pure (ForInStep.yield r)) (fun ok s₃ =>
            if ok = true then wpAny (model prog w) A (eval kx env) (fun kv s₄ => wpAny (model prog w) A (eval vx env) (fun vv s₅ => wpAny (model prog w) A (dictSet D kv vv) (fun _ s₆ => ∃ m, m < n ∧ I m s₆) (notedBy (model prog w) A env fun e s' => R (.error e) s') s₅) (notedBy (model prog w) A env fun e s' => R (.error e) s') s₄) (notedBy (model prog w) A env fun e s' => R (.error e) s') s₃
            else ∃ m, m < n ∧ I m s₃) (notedBy (model prog w) A env fun e s' => R (.error e) s') s₂) (notedBy (model prog w) A env fun e s' => R (.error e) s') s₁) (notedBy (model prog w) A env fun e s' => R (.error e) s') s₁) (notedBy (model prog w) A env fun e s' => R (.error e) s') s)
    (n : Nat) (h : I n s) :
    codeAny (model prog w) A (.compLoop (.DictComp kx vx [⟨target, iter, ifs, 0⟩] scope pos) 0 it (.ref D) env) R s := by
  refine codeAny_loop rfl I (fun n s hI => ?_) n h
  show wpAny _ A ((compTurn (.DictComp kx vx [⟨target, iter, ifs, 0⟩] scope pos) 0 it (.ref D) env).onRaise (fun x => do noteFrame x env; theTreesLotGoes x)) _ _ s
  refine wpAny_noted ?_
  rw [compTurn_dict]
  refine wpAny_bind (wpAny_standAt (wpAny_bind (wpAny_mono (turn n s hI) (fun r s₁ h₁ => ?_) fun _ _ h' => h')))
  cases r with
  | none => exact wpAny_pure h₁
  | some v =>
    refine wpAny_bind (wpAny_mono h₁ (fun _ s₁ h₁ => ?_) fun _ _ h' => h')
    refine wpAny_bind (wpAny_mono h₁ (fun _ s₂ h₂ => wpAny_bind (wpAny_mono h₂ (fun ok s₃ h₃ => ?_) fun _ _ h' => h')) fun _ _ h' => h')
    cases ok with
    | false => exact wpAny_pure ⟨rfl, h₃⟩
    | true =>
      exact wpAny_bind (wpAny_bind (wpAny_mono h₃ (fun kv s₄ h₄ => wpAny_bind (wpAny_holding (wpAny_mono h₄ (fun vv s₅ h₅ => wpAny_bind (wpAny_standAt (wpAny_holding (wpAny_mono h₅ (fun _ s₆ h₆ => wpAny_pure ⟨rfl, h₆⟩) fun _ _ h' => h')))) fun _ _ h' => h'))) fun _ _ h' => h'))
end

section
variable {prog : Program} {w : World} {A : Around} {E : Value → Shared → Prop} {s : Shared} {h₀ : Heap} {L : Addr} {m : Str → Option Value} {env : Env}
theorem comp_list {elt target iter : PySem.Expr} {ifs : List PySem.Expr} {scope : Scope} {cl : List (Str × Addr)} {pos : Pos} {s₂ : Shared} {I : Addr} {wr : List Addr} {n : Nat} {P : Nat → Value → Heap → Prop} {St : Nat → Heap → Prop} {S : List (Addr × Obj) → Prop} {news : List (Addr × Obj)}
    {RR : Value → Addr → Result → Shared → Prop} (W : GWalk prog w A target I wr n P St) (hsz : n ≤ sizeLine)
    (hSt : ∀ i h h' nw, St i h → (∀ b ∈ wr, ∀ o, h.get? b = some o → h'.get? b = some o) → (∀ b o, h₀.get? b = some o → h'.get? b = some o) → News h₀ L h' nw → S nw → St i h')
    (J : Nat → List Value → List (Addr × Obj) → Prop) (hS : ∀ i ys nw, J i ys nw → S nw) (B : Nat → (Str → Option Value) → Prop)
    (hcell : ∀ y ∈ scope.names, y.2 ≠ .cell) (hkind : scope.kind = .function)
    (hasg : ∀ i v C m₁ (s' : Shared) (Q' : Unit → Shared → Prop) (E' : Value → Shared → Prop), P i v s'.heap → s'.heap.Ns C m₁ →
      (∀ h' tk m₂, B i m₂ → h'.Ns C m₂ → (∀ b o, b ≠ C → s'.heap.get? b = some o → h'.get? b = some o) → Q' () { s' with heap := h', toks := tk }) → wpAny (model prog w) A (assign target (compEnvC scope cl C env) v) Q' E' s')
    (hst : St 0 s₂.heap) (hwlt : ∀ b ∈ wr, b < s₂.heap.objs.size) (hLw : L ∉ wr) (hw0 : ∀ b ∈ wr, h₀.get? b = none) (off : ∀ p ∈ news, p.1 ∉ wr)
    (F : Fr h₀ L s₂.heap m) (N : News h₀ L s₂.heap news) (h0 : J 0 [] news)
    (turn : ∀ i C D oC m₂ ys news₁ own h tk (E' : Value → Shared → Prop), i < n → B i m₂ → J i ys news₁ → LCg.NsObj oC m₂ → Fr h₀ L h m → News h₀ L h ((C, oC) :: (D, (LCg.lst ys)) :: (own ++ news₁)) →
      (∀ p ∈ own, p.1 ∈ wr) → (∀ p ∈ news₁, p.1 ∉ wr ∧ p.1 ≠ C ∧ p.1 ≠ D) → C ∉ wr → D ∉ wr → C ≠ D →
      wpAny (model prog w) A (forIn ifs true fun c r => if r = true then do let ok ← isTrue c (compEnvC scope cl C env) (eval c (compEnvC scope cl C env)); pure (ForInStep.yield ok) else pure (ForInStep.yield r)) (fun ok s₃ =>
        if ok = true then wpAny (model prog w) A (eval elt (compEnvC scope cl C env)) (fun y s₄ => CEnd h₀ L m s₂ wr own C oC D (LCg.lst ys) (J (i + 1) (ys ++ [y])) s₄) E' s₃
        else CEnd h₀ L m s₂ wr own C oC D (LCg.lst ys) (J (i + 1) ys) s₃) E' { s₂ with heap := h, toks := tk })
    (hRR : ∀ D C h tk m' ys news', Fr h₀ L h m → News h₀ L h ((D, (LCg.lst ys)) :: news') → (∀ p ∈ news', p.1 ≠ D) → h.Ns C m' → h₀.get? C = none → h₀.get? D = none → C ≠ L → D ≠ L → C ≠ D → (∀ p ∈ news', p.1 ≠ C) → J n ys news' → RR (.ref D) C (.ok .next) { s₂ with heap := h, toks := tk }) :
    wpAny (model prog w) A (newList []) (fun acc s₃ => wpAny (model prog w) A (newFunctionEnv scope env.globals cl [] env.qual none .none (some env)) (fun cenv s₄ =>
      codeAny (model prog w) A (.compStart (.ListComp elt [⟨target, iter, ifs, 0⟩] scope pos) 0 (.ref I) acc { cenv with scope := relabel scope env }) (RR acc cenv.locals) s₄) E s₃) E s₂ := by
  refine wpAny_newObj_type (wpAny_newFunctionEnv hcell (by intro y hy; simp at hy) (fun h₁ hns₁ hsb₁ => ?_) hkind)
  dsimp only at hns₁ hsb₁ ⊢
  generalize hH2 : s₂.heap.push { cls := .type "list", dict := none, data := .seq ([] : List Value).toArray } = H2 at hns₁ hsb₁ ⊢
  have hC : H2.objs.size = s₂.heap.objs.size + 1 := by rw [← hH2, Heap.size_push]
  have hDC : s₂.heap.objs.size ≠ H2.objs.size := by rw [hC]; exact Nat.ne_of_lt (Nat.lt_succ_self _)
  have below : ∀ b, b < s₂.heap.objs.size → b ≠ H2.objs.size ∧ b ≠ s₂.heap.objs.size := fun b hb => ⟨by rw [hC]; exact Nat.ne_of_lt (Nat.lt_succ_of_lt hb), Nat.ne_of_lt hb⟩
  have hDw : s₂.heap.objs.size ∉ wr := fun hm => Nat.lt_irrefl _ (hwlt _ hm)
  have hCw : H2.objs.size ∉ wr := fun hm => by have := hwlt _ hm; rw [hC] at this; exact Nat.lt_irrefl _ (Nat.lt_of_succ_lt this)
  have old : ∀ b o, s₂.heap.get? b = some o → h₁.get? b = some o := fun b o e => hsb₁.extBut b o (below b (Heap.lt_size e)).1 (Heap.get?_push_of_some _ (hH2 ▸ Heap.get?_push_of_some _ e))
  have hacc : h₁.get? s₂.heap.objs.size = some (LCg.lst []) := hsb₁.extBut _ _ hDC (Heap.get?_push_of_some _ (hH2 ▸ Heap.get?_push_size _ rfl))
  have fresh : ∀ a, s₂.heap.objs.size ≤ a → s₂.heap.get? a = none := fun a ha => by
    cases e : s₂.heap.get? a with
    | none => rfl
    | some o' => exact absurd (Heap.lt_size e) (Nat.not_lt.mpr ha)
  have fresh₀ : ∀ a, s₂.heap.objs.size ≤ a → h₀.get? a = none := fun a ha => by
    cases e : h₀.get? a with
    | none => rfl
    | some o' => have := F.keep a o' e; rw [fresh a ha] at this; cases this
  have hD₀ : h₀.get? s₂.heap.objs.size = none := fresh₀ _ (Nat.le_refl _)
  have hC₀ : h₀.get? H2.objs.size = none := fresh₀ _ (by rw [hC]; exact Nat.le_succ _)
  have hLlt : L < s₂.heap.objs.size := F.ns.lt
  have hDL : s₂.heap.objs.size ≠ L := Ne.symm (below L hLlt).2
  have hCL : H2.objs.size ≠ L := Ne.symm (below L hLlt).1
  have off₀ : ∀ p ∈ news, p.1 ∉ wr ∧ p.1 ≠ H2.objs.size ∧ p.1 ≠ s₂.heap.objs.size := fun p hp => ⟨off p hp, (below _ (Heap.lt_size (N p hp).1)).1, (below _ (Heap.lt_size (N p hp).1)).2⟩
  have N1 : News h₀ L h₁ news := fun p hp => ⟨old _ _ (N p hp).1, (N p hp).2⟩
  have F1 : Fr h₀ L h₁ m := F.keeps old
  have hst₁ : St 0 h₁ := hSt _ _ _ news hst (fun b _ o e => old b o e) F1.keep N1 (hS _ _ _ h0)
  have loop : ∀ s₃ : Shared, s₃ = { s₂ with heap := h₁, toks := s₂.toks + ([] : List (Str × Value)).length } →
      codeAny (model prog w) A (.compLoop (.ListComp elt [⟨target, iter, ifs, 0⟩] scope pos) 0 (.ref I) (.ref s₂.heap.objs.size) (compEnvC scope cl H2.objs.size env))
        (RR (.ref s₂.heap.objs.size) H2.objs.size) s₃ := by
    rintro s₃ rfl
    refine comp_loop_list
      (fun k s' => ∃ h' tk i ys m' news', s' = { s₂ with heap := h', toks := tk } ∧ i ≤ n ∧ k = n + 1 - i ∧ ys.length ≤ i ∧ St i h' ∧ Fr h₀ L h' m ∧ h'.Ns H2.objs.size m' ∧ News h₀ L h' ((s₂.heap.objs.size, (LCg.lst ys)) :: news') ∧
        (∀ p ∈ news', p.1 ∉ wr ∧ p.1 ≠ H2.objs.size ∧ p.1 ≠ s₂.heap.objs.size) ∧ J i ys news') ?_ (n + 1)
      ⟨h₁, _, 0, [], _, news, rfl, Nat.zero_le _, rfl, Nat.le_refl _, hst₁, F1, hns₁, ?_, off₀, h0⟩
    · rintro k s' ⟨h', tk, i, ys, m', news', rfl, hi, rfl, hyl, hst', F', hn', N', off', hJ⟩
      have offD : ∀ p ∈ (s₂.heap.objs.size, (LCg.lst ys)) :: news', p.1 ∉ wr := fun p hp => by
        rcases List.mem_cons.mp hp with rfl | hp
        · exact hDw
        · exact (off' p hp).1
      by_cases hlt : i < n
      · refine wpAny_mono (W.item i { s₂ with heap := h', toks := tk } (fun v s₁ => ∃ h₁ tk₁, s₁ = { s₂ with heap := h₁, toks := tk₁ } ∧ P i v h₁ ∧ St (i + 1) h₁ ∧ (∀ b o, b ∉ wr → h'.get? b = some o → h₁.get? b = some o)) _ (fun _ _ => False) hlt hst'
          (fun v h' tk' hP hst' hk => ⟨h', tk', rfl, hP, hst', hk⟩)) (fun r s₁ hr => ?_) fun _ _ x => x
        refine hideG ?_
        intro G hG
        obtain ⟨v, rfl, hgo⟩ := hr
        refine hG ?_
        clear hG G
        refine wpAny_mono hgo (fun _ s₂' h₂ => ?_) fun _ _ x => x.elim
        refine hideG ?_
        intro G hG
        obtain ⟨h₂, tk₂, rfl, hP, hst₂, hk₂⟩ := h₂
        refine hG ?_
        clear hG G
        have F₂ := old_kept F' hLw hw0 hk₂
        have N₂ := off_kept N' offD hk₂
        refine hasg i v H2.objs.size m' _ _ _ hP (hn'.at' fun o e => hk₂ _ o hCw e) fun h₃ tk₃ m₂ hB hn₃ hk₃ => ?_
        have F₃ : Fr h₀ L h₃ m := ⟨F₂.ns.at' fun o e => hk₃ _ o (Ne.symm hCL) e, fun b o e => hk₃ b o (fun q => by rw [q, hC₀] at e; cases e) (F₂.keep b o e), F₂.above⟩
        have N₃ : News h₀ L h₃ ((s₂.heap.objs.size, (LCg.lst ys)) :: news') := fun p hp => by
          refine ⟨hk₃ _ _ ?_ (N₂ p hp).1, (N₂ p hp).2⟩
          rcases List.mem_cons.mp hp with rfl | hp
          · exact hDC
          · exact (off' p hp).2.1
        have hst₃ : St (i + 1) h₃ := hSt _ _ _ _ hst₂ (fun b hb o e => hk₃ b o (fun q => hCw (q ▸ hb)) e) F₃.keep (N_tail N₃) (hS _ _ _ hJ)
        refine hideG ?_
        intro G hG
        obtain ⟨oC, heC, hoC⟩ := LCg.ns_obj hn₃
        refine hG ?_
        clear hG G
        have N₄ : News h₀ L h₃ ((H2.objs.size, oC) :: (s₂.heap.objs.size, (LCg.lst ys)) :: (ownOf h₀ wr h₃ ++ news')) := by
          intro p hp
          rcases List.mem_cons.mp hp with rfl | hp
          · exact ⟨heC, hCL, hC₀⟩
          · rcases List.mem_cons.mp hp with rfl | hp
            · exact N₃ _ List.mem_cons_self
            · exact ((news_ownOf hLw).append (N_tail N₃)) p hp
        have fin : ∀ s₅ ys', CEnd h₀ L m s₂ wr (ownOf h₀ wr h₃) H2.objs.size oC s₂.heap.objs.size (LCg.lst ys) (J (i + 1) ys') s₅ → ∃ h₄ tk₄ news₄, s₅ = { s₂ with heap := h₄, toks := tk₄ } ∧ St (i + 1) h₄ ∧ Fr h₀ L h₄ m ∧ h₄.Ns H2.objs.size m₂ ∧
            News h₀ L h₄ ((s₂.heap.objs.size, (LCg.lst ys)) :: news₄) ∧ (∀ p ∈ news₄, p.1 ∉ wr ∧ p.1 ≠ H2.objs.size ∧ p.1 ≠ s₂.heap.objs.size) ∧ J (i + 1) ys' news₄ := by
          rintro s₅ ys' ⟨h₄, tk₄, news₄, rfl, F₄, N₄, off₄, hJ₄⟩
          have N₅ := N_tail (N_tail N₄)
          refine ⟨h₄, tk₄, news₄, rfl, hSt _ _ _ _ hst₃ (own_kept hw0 N₅) F₄.keep N₅.right (hS _ _ _ hJ₄), F₄, hoC.ns (N₄ _ List.mem_cons_self).1, fun p hp => ?_, off₄, hJ₄⟩
          rcases List.mem_cons.mp hp with rfl | hp
          · exact N₄ _ (List.mem_cons_of_mem _ List.mem_cons_self)
          · exact N₅.right p hp
        refine wpAny_mono (turn i H2.objs.size s₂.heap.objs.size oC m₂ ys news' _ h₃ _ _ hlt hB hJ hoC F₃ N₄ ownOf_sub off' hCw hDw (Ne.symm hDC)) (fun ok s₄ h₄ => ?_) fun _ _ e => e
        cases ok with
        | false =>
          refine hideG ?_
          intro G hG
          obtain ⟨h₅, tk₅, news₅, rfl, hst₅, F₅, hn₅, N₅, off₅, hJ₅⟩ := fin _ _ h₄
          refine hG ?_
          clear hG G
          exact ⟨n + 1 - (i + 1), sub_dec hlt, h₅, tk₅, i + 1, ys, _, news₅, rfl, hlt, rfl, Nat.le_succ_of_le hyl, hst₅, F₅, hn₅, N₅, off₅, hJ₅⟩
        | true =>
          have h₄' := h₄
          simp only [if_true] at h₄' ⊢
          refine wpAny_mono h₄' (fun y s₅ h₅ => ?_) fun _ _ e => e
          refine hideG ?_
          intro G hG
          obtain ⟨h₅, tk₅, news₅, rfl, hst₅, F₅, hn₅, N₅, off₅, hJ₅⟩ := fin _ _ h₅
          refine hG ?_
          clear hG G
          have zD := (N₅ _ List.mem_cons_self).1
          refine append_at (hsz := by show ys.toArray.size ≤ sizeLine; rw [List.size_toArray]; exact Nat.le_trans (Nat.le_trans hyl hi) hsz) zD fun h₆ hs₆ hD₆ => ?_
          have F₆ := F₅.change hs₆ hDL hD₀
          have N₆ : News h₀ L h₆ news₅ := fun p hp => ⟨hs₆.extBut _ _ (off₅ p hp).2.2 (N₅ p (List.mem_cons_of_mem _ hp)).1, (N₅ p (List.mem_cons_of_mem _ hp)).2⟩
          refine ⟨n + 1 - (i + 1), sub_dec hlt, h₆, tk₅, i + 1, ys ++ [y], _, news₅, rfl, hlt, rfl, by rw [List.length_append, List.length_singleton]; exact Nat.succ_le_succ hyl, hSt _ _ _ _ hst₅ (fun b hb o e => hs₆.extBut b o (fun q => hDw (q ▸ hb)) e) F₆.keep N₆ (hS _ _ _ hJ₅), F₆,
            hn₅.sameBut hs₆ (Ne.symm hDC), fun p hp => ?_, off₅, hJ₅⟩
          rcases List.mem_cons.mp hp with rfl | hp
          · exact ⟨hD₆.trans (congrArg some (LCg.lst_snoc ys y)), hDL, hD₀⟩
          · exact N₆ p hp
      · obtain rfl : i = n := Nat.le_antisymm hi (Nat.not_lt.mp hlt)
        refine W.done _ _ _ hst' fun h₂ tk₂ hk₂ => ?_
        exact hRR _ _ h₂ tk₂ _ ys news' (old_kept F' hLw hw0 hk₂) (off_kept N' offD hk₂) (fun p hp => (off' p hp).2.2) (hn'.at' fun o e => hk₂ _ o hCw e) hC₀ hD₀ hCL hDL (Ne.symm hDC) (fun p hp => (off' p hp).2.1) hJ
    · intro p hp
      rcases List.mem_cons.mp hp with rfl | hp
      · exact ⟨hacc, hDL, hD₀⟩
      · exact N1 p hp
  exact codeAny_compStart_list (loop _ rfl) (W.self 0 _ _ _ hst₁ (loop _ rfl))
end

section
variable {prog : Program} {w : World} {K : Type} [DecidableEq K] {knd : KeyKind prog w K} {A : Around} {E : Value → Shared → Prop} {s : Shared} {h₀ : Heap} {L : Addr} {m : Str → Option Value} {env : Env}

end
end Mine

-- L7
open PySem PySem.W PyProof.Rows PySem.Spec PySem.Calls
set_option maxRecDepth 100000
namespace Mine
/-- an iterable that is under way, with what it needs -/
structure Src (prog : Program) (w : World) (A : Around) (h₀ : Heap) (L : Addr) (m : Str → Option Value) (news : List (Addr × Obj)) (target : PySem.Expr) (I : Addr) (wr : List Addr) (n : Nat) (P : Nat → Value → Heap → Prop) (St : Nat → Heap → Prop) (S : List (Addr × Obj) → Prop) (s₂ : Shared) : Prop where
  W : GWalk prog w A target I wr n P St
  keep : ∀ i h h' nw, St i h → (∀ b ∈ wr, ∀ o, h.get? b = some o → h'.get? b = some o) → (∀ b o, h₀.get? b = some o → h'.get? b = some o) → News h₀ L h' nw → S nw → St i h'
  live : ∀ i h, St i h → ∀ b ∈ wr, ∃ o, h.get? b = some o
  st : St 0 s₂.heap
  lt : ∀ b ∈ wr, b < s₂.heap.objs.size
  Lw : L ∉ wr
  w0 : ∀ b ∈ wr, h₀.get? b = none
  off : ∀ p ∈ news, p.1 ∉ wr
  above : ∀ p ∈ news, ∀ b ∈ wr, p.1 < b
  F : Fr h₀ L s₂.heap m
  N : News h₀ L s₂.heap news
section
variable {prog : Program} {w : World} {A : Around} {E : Value → Shared → Prop} {s : Shared} {h₀ : Heap} {L : Addr} {m : Str → Option Value} {news : List (Addr × Obj)} {R : Value → Shared → Prop}
theorem src_list {l : Addr} {items : Array Value} (hh : A.handled = none) (F : Fr h₀ L s.heap m) (N : News h₀ L s.heap news) (hl : LCg.SrcAt h₀ l items news)
    (h : ∀ I St s₂, (∃ h', s₂ = { s with heap := h' }) → (∀ x px, Src prog w A h₀ L m news (.Name x px) I [I] items.size (fun i v _ => items[i]? = some v) St (LCg.SrcAt h₀ l items) s₂) → R (.ref I) s₂) :
    wpAny (model prog w) A (pyIter (.ref l)) R E s := by
  have hls := hl.list F.keep N
  have hlt : l < s.heap.objs.size := by obtain ⟨_, e, _⟩ := hls; exact Heap.lt_size e
  refine wpAny_pyIter_list hls (h _ (fun i h => h.IsListIter s.heap.objs.size l i ∧ h.IsList l items) _ ⟨_, rfl⟩ fun x px => ?_)
  have up : ∀ b o, s.heap.get? b = some o → (s.heap.push { cls := .type "list_iterator", data := .fields #[.ref l, .int 0 0] }).get? b = some o := fun b o e => Heap.get?_push_of_some _ e
  exact {
    W := GWalk.name (Walks.list hh s.heap.objs.size l (Nat.ne_of_lt hlt) items)
    keep := fun i h h' nw st e k N' S => ⟨st.1.at fun o q => e _ (by simp) o q, S.list k N'⟩
    live := fun i h st b hb => by rw [List.mem_singleton.mp hb]; exact let ⟨o, e, _⟩ := st.1; ⟨o, e⟩
    st := ⟨⟨_, Heap.get?_push_size _ rfl, rfl, rfl⟩, hls.push _⟩
    lt := fun b hb => by rw [List.mem_singleton.mp hb]; show _ < (s.heap.push _).objs.size; rw [Heap.size_push]; exact Nat.lt_succ_self _
    Lw := fun hb => Nat.ne_of_lt F.ns.lt (List.mem_singleton.mp hb)
    w0 := fun b hb => by rw [List.mem_singleton.mp hb]; exact next_is_new F
    off := fun p hp hb => Nat.ne_of_lt (Heap.lt_size (N p hp).1) (List.mem_singleton.mp hb)
    above := fun p hp b hb => by rw [List.mem_singleton.mp hb]; exact Heap.lt_size (N p hp).1
    F := F.keeps up
    N := N.grown up }
theorem src_range {r : Addr} {a b : Int} {t u v : Tok} {n : Nat} (hh : A.handled = none) (F : Fr h₀ L s.heap m) (N : News h₀ L s.heap news) (hr : IsRange s.heap r a b 1 t u v) (hsm : Builtin.Range.small a b 1 = true) (hn : Builtin.Range.rangeSize a b 1 = ((n : Nat) : Int))
    (h : ∀ I St s₂, (∃ h', s₂ = { s with heap := h' }) → (∀ x px, Src prog w A h₀ L m news (.Name x px) I [I] n (fun i v _ => ∃ t, v = .int (a + (i : Int)) t) St (fun _ => True) s₂) → R (.ref I) s₂) :
    wpAny (model prog w) A (pyIter (.ref r)) R E s := by
  refine wpAny_pyIter_range hr hsm (h _ (fun i h => IsRangeIter h s.heap.objs.size (a + (i : Nat) * 1) ((n : Int) - (i : Nat)) 1) _ ⟨_, rfl⟩ fun x px => ?_)
  exact {
    W := GWalk.name (LCg.range_walks hh a n)
    keep := fun i h h' nw st e k N' S => e _ (by simp) _ st
    live := fun i h st b hb => by rw [List.mem_singleton.mp hb]; exact ⟨_, st⟩
    st := by
      show IsRangeIter _ _ _ _ _
      rw [hn]
      simpa using Heap.get?_push_size _ rfl
    lt := fun b hb => by rw [List.mem_singleton.mp hb]; show _ < (s.heap.push _).objs.size; rw [Heap.size_push]; exact Nat.lt_succ_self _
    Lw := fun hb => Nat.ne_of_lt F.ns.lt (List.mem_singleton.mp hb)
    w0 := fun b hb => by rw [List.mem_singleton.mp hb]; exact next_is_new F
    off := fun p hp hb => Nat.ne_of_lt (Heap.lt_size (N p hp).1) (List.mem_singleton.mp hb)
    above := fun p hp b hb => by rw [List.mem_singleton.mp hb]; exact Heap.lt_size (N p hp).1
    F := F.keeps fun _ _ e => Heap.get?_push_of_some _ e
    N := N.grown fun _ _ e => Heap.get?_push_of_some _ e }

theorem src_dict {K : Type} [DecidableEq K] {knd : KeyKind prog w K} {d : Addr} {o : Obj} {kvs : List (K × Value)} (hh : A.handled = none) (F : Fr h₀ L s.heap m) (N : News h₀ L s.heap news) (hm : (d, o) ∈ news) (hd : o.IsDictOf knd kvs) (lo : (d == sysModules) = false)
    (h : ∀ I St s₂, (∃ h', s₂ = { s with heap := h' }) → (∀ x px, Src prog w A h₀ L m news (.Name x px) I [I] kvs.length (fun i v _ => ∃ k x, kvs[i]? = some (k, x) ∧ knd.is k v = true) St (fun nw => (d, o) ∈ nw) s₂) → R (.ref I) s₂) :
    wpAny (model prog w) A (pyIter (.ref d)) R E s := by
  obtain ⟨ep, ha⟩ := KdkAt.of hd
  have hlt : d < s.heap.objs.size := Heap.lt_size (N _ hm).1
  refine wpAny_pyIter_dict lo (ha.dictAt (N _ hm).1) (h _ (fun i h => h.IsKeyIter s.heap.objs.size d i kvs.length ep ∧ h.DictAt knd d kvs ep) _ ⟨_, rfl⟩ fun x px => ?_)
  exact {
    W := GWalk.name (Walks.dictKeys hh s.heap.objs.size d (Nat.ne_of_lt hlt) kvs ep)
    keep := fun i h h' nw st e k N' S => ⟨st.1.at fun o q => e _ (by simp) o q, ha.dictAt (N' _ S).1⟩
    live := fun i h st b hb => by rw [List.mem_singleton.mp hb]; exact let ⟨o, e, _⟩ := st.1; ⟨o, e⟩
    st := ⟨⟨_, Heap.get?_push_size _ rfl, rfl, rfl⟩, ha.dictAt (Heap.get?_push_of_some _ (N _ hm).1)⟩
    lt := fun b hb => by rw [List.mem_singleton.mp hb]; show _ < (s.heap.push _).objs.size; rw [Heap.size_push]; exact Nat.lt_succ_self _
    Lw := fun hb => Nat.ne_of_lt F.ns.lt (List.mem_singleton.mp hb)
    w0 := fun b hb => by rw [List.mem_singleton.mp hb]; exact next_is_new F
    off := fun p hp hb => Nat.ne_of_lt (Heap.lt_size (N p hp).1) (List.mem_singleton.mp hb)
    above := fun p hp b hb => by rw [List.mem_singleton.mp hb]; exact Heap.lt_size (N p hp).1
    F := F.keeps fun _ _ e => Heap.get?_push_of_some _ e
    N := N.grown fun _ _ e => Heap.get?_push_of_some _ e }
end
section
variable {prog : Program} {w : World} {A : Around} {E : Value → Shared → Prop} {s : Shared} {h₀ : Heap} {L : Addr} {m : Str → Option Value} {env : Env}
/-- storing into a comprehension's own name -/
theorem asg_name {x : Str} {px : Pos} {scope : Scope} {cl : List (Str × Addr)} {B : Nat → (Str → Option Value) → Prop} {P : Nat → Value → Prop} (hkind : scope.kind = .function) (hx : scope.names.lookup x = some .local)
    (hB : ∀ i v m₂, P i v → m₂ x = some v → B i m₂) :
    ∀ i v C m₁ (s' : Shared) (Q' : Unit → Shared → Prop) (E' : Value → Shared → Prop), P i v → s'.heap.Ns C m₁ →
      (∀ h' tk m₂, B i m₂ → h'.Ns C m₂ → (∀ b o, b ≠ C → s'.heap.get? b = some o → h'.get? b = some o) → Q' () { s' with heap := h', toks := tk }) → wpAny (model prog w) A (assign (.Name x px) (compEnvC scope cl C env) v) Q' E' s' := by
  intro i v C m₁ s' Q' E' hP hn hQ
  refine wpAny_assign_Name (wpAny_storeName_local (lookup_relabel_local hx) hn (fun h₃ hn₃ hs₃ => ?_) (by simp [compEnvC, relabel, hkind]))
  exact hQ h₃ _ _ (hB i v _ hP (by simp)) hn₃ fun b o hb e => hs₃.extBut b o hb e

/-- what is left of a comprehension once its iterator stands -/
noncomputable def Afterlist (prog : Program) (w : World) (A : Around) (E : Value → Shared → Prop) (use : Option (Value → Sem Unit)) (Q : Value → Shared → Prop) (elt target iter : PySem.Expr) (ifs : List PySem.Expr) (scope : Scope) (cl : List (Str × Addr)) (pos : Pos) (env : Env) (it : Value) (s₂ : Shared) : Prop :=
  wpAny (model prog w) A (newList []) (fun acc s₃ => wpAny (model prog w) A (newFunctionEnv scope env.globals cl [] env.qual none .none (some env)) (fun cenv s₄ =>
      codeAny (model prog w) A (.compStart (.ListComp elt [⟨target, iter, ifs, 0⟩] scope pos) 0 it acc { cenv with scope := relabel scope env }) (compPost (model prog w) A E use Q acc cenv.locals) s₄) E s₃) E s₂
theorem eval_list {elt target iter : PySem.Expr} {ifs : List PySem.Expr} {scope : Scope} {cl : List (Str × Addr)} {pos : Pos} {Q : Value → Shared → Prop}
    (hclos : closureFor scope env = pure cl) (hkind : scope.kind = .function) (hnames : ∀ y ∈ scope.names, y.2 = .local → scope.names.lookup y.1 = some .local)
    (h : wpAny (model prog w) A (eval iter env) (fun xv s₁ => wpAny (model prog w) A (pyIter xv) (Afterlist prog w A E none Q elt target iter ifs scope cl pos env) E s₁) E s)
    (hs : ∀ x, foldedSetIterable iter env x = pure x := by intro _; rfl) :
    wpAny (model prog w) A (eval (.ListComp elt [⟨target, iter, ifs, 0⟩] scope pos) env) Q E s := by
  rw [arm_eval_ListComp]
  exact wpAny_comprehension_free (use := none) rfl hs hclos hkind hnames h
theorem exec_list {elt target iter : PySem.Expr} {ifs : List PySem.Expr} {scope : Scope} {cl : List (Str × Addr)} {pos spos py : Pos} {y : Str} {Q : Flow → Shared → Prop}
    (hsw : swapsWith (.ListComp elt [⟨target, iter, ifs, 0⟩] scope pos) (some (.Name y py)) spos.line env = pure true)
    (hclos : closureFor scope env = pure cl) (hkind : scope.kind = .function) (hnames : ∀ y ∈ scope.names, y.2 = .local → scope.names.lookup y.1 = some .local)
    (h : wpAny (model prog w) A (eval iter env) (fun xv s₁ => wpAny (model prog w) A (pyIter xv) (Afterlist prog w A E (some (assign (.Name y py) env)) (fun _ s' => Q .next s') elt target iter ifs scope cl pos env) E s₁) E s)
    (hs : ∀ x, foldedSetIterable iter env x = pure x := by intro _; rfl) :
    wpAny (model prog w) A (exec (.Assign [.Name y py] (.ListComp elt [⟨target, iter, ifs, 0⟩] scope pos) spos) env) Q E s := by
  rw [exec_Assign_Name_used _ _ _ _ hsw]
  refine wpAny_bind (wpAny_standAt (wpAny_bind ?_))
  show wpAny _ A (do let _ ← comprehension (.ListComp elt [⟨target, iter, ifs, 0⟩] scope pos) scope env _ (newList []) false (eval iter env) (some (assign (.Name y py) env))) _ _ s
  exact wpAny_bind (wpAny_mono (wpAny_comprehension_free (use := some (assign (.Name y py) env)) (Q := fun _ s' => Q .next s') rfl hs hclos hkind hnames h) (fun _ s' hq => wpAny_pure (wpAny_pure hq)) fun _ _ e => e)
section
variable {elt target iter : PySem.Expr} {ifs : List PySem.Expr} {scope : Scope} {cl : List (Str × Addr)} {pos : Pos} {s₂ : Shared} {I : Addr} {wr : List Addr} {n : Nat} {P : Nat → Value → Heap → Prop} {St : Nat → Heap → Prop} {S : List (Addr × Obj) → Prop} {news : List (Addr × Obj)}
noncomputable def Turnlist (prog : Program) (w : World) (A : Around) (h₀ : Heap) (L : Addr) (m : Str → Option Value) (env : Env) (elt : PySem.Expr) (ifs : List PySem.Expr) (scope : Scope) (cl : List (Str × Addr)) (s₂ : Shared) (wr : List Addr) (n : Nat) (J : Nat → List Value → List (Addr × Obj) → Prop) (B : Nat → (Str → Option Value) → Prop) : Prop :=
  ∀ i C D oC m₂ ys news₁ own h tk (E' : Value → Shared → Prop), i < n → B i m₂ → J i ys news₁ → LCg.NsObj oC m₂ → Fr h₀ L h m → News h₀ L h ((C, oC) :: (D, (LCg.lst ys)) :: (own ++ news₁)) →
      (∀ p ∈ own, p.1 ∈ wr) → (∀ p ∈ news₁, p.1 ∉ wr ∧ p.1 ≠ C ∧ p.1 ≠ D) → C ∉ wr → D ∉ wr → C ≠ D →
      wpAny (model prog w) A (forIn ifs true fun c r => if r = true then do let ok ← isTrue c (compEnvC scope cl C env) (eval c (compEnvC scope cl C env)); pure (ForInStep.yield ok) else pure (ForInStep.yield r)) (fun ok s₃ =>
        if ok = true then wpAny (model prog w) A (eval elt (compEnvC scope cl C env)) (fun y s₄ => CEnd h₀ L m s₂ wr own C oC D (LCg.lst ys) (J (i + 1) (ys ++ [y])) s₄) E' s₃
        else CEnd h₀ L m s₂ wr own C oC D (LCg.lst ys) (J (i + 1) ys) s₃) E' { s₂ with heap := h, toks := tk }
theorem after_list {Q : Value → Shared → Prop} (X : Src prog w A h₀ L m news target I wr n P St S s₂) (hsz : n ≤ sizeLine)
    (J : Nat → List Value → List (Addr × Obj) → Prop) (hS : ∀ i ys nw, J i ys nw → S nw) (B : Nat → (Str → Option Value) → Prop)
    (hcell : ∀ y ∈ scope.names, y.2 ≠ .cell) (hkind : scope.kind = .function)
    (hasg : ∀ i v C m₁ (s' : Shared) (Q' : Unit → Shared → Prop) (E' : Value → Shared → Prop), P i v s'.heap → s'.heap.Ns C m₁ →
      (∀ h' tk m₂, B i m₂ → h'.Ns C m₂ → (∀ b o, b ≠ C → s'.heap.get? b = some o → h'.get? b = some o) → Q' () { s' with heap := h', toks := tk }) → wpAny (model prog w) A (assign target (compEnvC scope cl C env) v) Q' E' s')
    (h0 : J 0 [] news) (turn : Turnlist prog w A h₀ L m env elt ifs scope cl s₂ wr n J B)
    (done : ∀ D h tk ys news', Fr h₀ L h m → News h₀ L h ((D, (LCg.lst ys)) :: news') → (∀ p ∈ news', p.1 ≠ D) → J n ys news' → Q (.ref D) { s₂ with heap := h, toks := tk }) :
    Afterlist prog w A E none Q elt target iter ifs scope cl pos env (.ref I) s₂ := by
  refine comp_list (RR := fun acc C => compPost (model prog w) A E none Q acc C) X.W hsz X.keep J hS B hcell hkind hasg X.st X.lt X.Lw X.w0 X.off X.F X.N h0 turn ?_
  intro D C h tk m' ys news' F' N' o1 hn hC₀ hD₀ hCL hDL hCD offC fin
  refine ⟨m', hn, fun h'' hs'' => done D h'' tk ys news' (F'.change hs'' hCL hC₀) (fun p hp => ?_) o1 fin⟩
  refine ⟨hs''.extBut _ _ ?_ (N' p hp).1, (N' p hp).2⟩
  rcases List.mem_cons.mp hp with rfl | hp
  · exact Ne.symm hCD
  · exact offC p hp
theorem after_list_as {y : Str} {py : Pos} {Q : Value → Shared → Prop} (hLe : env.locals = L) (X : Src prog w A h₀ L m news target I wr n P St S s₂) (hsz : n ≤ sizeLine)
    (hy : env.kindOf y = some .local) (hp : (env.scope.kind == .class || (env.scope.kind == .module && env.locals != env.globals)) = false)
    (J : Nat → List Value → List (Addr × Obj) → Prop) (hS : ∀ i ys nw, J i ys nw → S nw) (B : Nat → (Str → Option Value) → Prop)
    (hcell : ∀ y ∈ scope.names, y.2 ≠ .cell) (hkind : scope.kind = .function)
    (hasg : ∀ i v C m₁ (s' : Shared) (Q' : Unit → Shared → Prop) (E' : Value → Shared → Prop), P i v s'.heap → s'.heap.Ns C m₁ →
      (∀ h' tk m₂, B i m₂ → h'.Ns C m₂ → (∀ b o, b ≠ C → s'.heap.get? b = some o → h'.get? b = some o) → Q' () { s' with heap := h', toks := tk }) → wpAny (model prog w) A (assign target (compEnvC scope cl C env) v) Q' E' s')
    (h0 : J 0 [] news) (turn : Turnlist prog w A h₀ L m env elt ifs scope cl s₂ wr n J B)
    (done : ∀ D h tk ys news', Fr h₀ L h (fun z => if z = y then some (.ref D) else m z) → News h₀ L h ((D, (LCg.lst ys)) :: news') → (∀ p ∈ news', p.1 ≠ D) → J n ys news' → Q .none { s₂ with heap := h, toks := tk }) :
    Afterlist prog w A E (some (assign (.Name y py) env)) Q elt target iter ifs scope cl pos env (.ref I) s₂ := by
  subst hLe
  refine comp_list (RR := fun acc C => compPost (model prog w) A E (some (assign (.Name y py) env)) Q acc C) X.W hsz X.keep J hS B hcell hkind hasg X.st X.lt X.Lw X.w0 X.off X.F X.N h0 turn ?_
  intro D C h' tk m' ys news' F' N' o1 hn hC₀ hD₀ hCL hDL hCD offC fin
  show wpAny _ A (assign (.Name y py) env (.ref D)) _ _ _
  refine wpAny_assign_Name (wpAny_storeName_local hy F'.ns (fun h₂ hn₂ hs₂ => ?_) hp)
  have hL₀ : h₀.get? env.locals = none := Heap.get?_none_of_le F'.above
  have F₂ : Fr h₀ env.locals h₂ (fun z => if z = y then some (.ref D) else m z) := ⟨hn₂, fun b o e => hs₂.extBut b o (fun q => by rw [q, hL₀] at e; cases e) (F'.keep b o e), F'.above⟩
  refine ⟨m', hn.sameBut hs₂ hCL, fun h'' hs'' => done D h'' _ ys news' (F₂.change hs'' hCL hC₀) (fun p hp => ?_) o1 fin⟩
  have z : h₂.get? p.1 = some p.2 := hs₂.extBut _ _ (N' p hp).2.1 (N' p hp).1
  refine ⟨hs''.extBut _ _ ?_ z, (N' p hp).2⟩
  rcases List.mem_cons.mp hp with rfl | hp
  · exact Ne.symm hCD
  · exact offC p hp
end

/-- what is left of a comprehension once its iterator stands -/
noncomputable def Afterdict (prog : Program) (w : World) (A : Around) (E : Value → Shared → Prop) (use : Option (Value → Sem Unit)) (Q : Value → Shared → Prop) (kx vx target iter : PySem.Expr) (ifs : List PySem.Expr) (scope : Scope) (cl : List (Str × Addr)) (pos : Pos) (env : Env) (it : Value) (s₂ : Shared) : Prop :=
  wpAny (model prog w) A newDict (fun acc s₃ => wpAny (model prog w) A (newFunctionEnv scope env.globals cl [] env.qual none .none (some env)) (fun cenv s₄ =>
      codeAny (model prog w) A (.compStart (.DictComp kx vx [⟨target, iter, ifs, 0⟩] scope pos) 0 it acc { cenv with scope := relabel scope env }) (compPost (model prog w) A E use Q acc cenv.locals) s₄) E s₃) E s₂

theorem exec_dict {kx vx target iter : PySem.Expr} {ifs : List PySem.Expr} {scope : Scope} {cl : List (Str × Addr)} {pos spos py : Pos} {y : Str} {Q : Flow → Shared → Prop}
    (hsw : swapsWith (.DictComp kx vx [⟨target, iter, ifs, 0⟩] scope pos) (some (.Name y py)) spos.line env = pure true)
    (hclos : closureFor scope env = pure cl) (hkind : scope.kind = .function) (hnames : ∀ y ∈ scope.names, y.2 = .local → scope.names.lookup y.1 = some .local)
    (h : wpAny (model prog w) A (eval iter env) (fun xv s₁ => wpAny (model prog w) A (pyIter xv) (Afterdict prog w A E (some (assign (.Name y py) env)) (fun _ s' => Q .next s') kx vx target iter ifs scope cl pos env) E s₁) E s)
    (hs : ∀ x, foldedSetIterable iter env x = pure x := by intro _; rfl) :
    wpAny (model prog w) A (exec (.Assign [.Name y py] (.DictComp kx vx [⟨target, iter, ifs, 0⟩] scope pos) spos) env) Q E s := by
  rw [exec_Assign_Name_used _ _ _ _ hsw]
  refine wpAny_bind (wpAny_standAt (wpAny_bind ?_))
  show wpAny _ A (do let _ ← comprehension (.DictComp kx vx [⟨target, iter, ifs, 0⟩] scope pos) scope env _ newDict false (eval iter env) (some (assign (.Name y py) env))) _ _ s
  exact wpAny_bind (wpAny_mono (wpAny_comprehension_free (use := some (assign (.Name y py) env)) (Q := fun _ s' => Q .next s') rfl hs hclos hkind hnames h) (fun _ s' hq => wpAny_pure (wpAny_pure hq)) fun _ _ e => e)
section
variable {K : Type} [DecidableEq K] {knd : KeyKind prog w K} {kx vx target iter : PySem.Expr} {ifs : List PySem.Expr} {scope : Scope} {cl : List (Str × Addr)} {pos : Pos} {s₂ : Shared} {I : Addr} {wr : List Addr} {n : Nat} {P : Nat → Value → Heap → Prop} {St : Nat → Heap → Prop} {S : List (Addr × Obj) → Prop} {news : List (Addr × Obj)}



end

theorem cend_mk {s : Shared} {wr : List Addr} {own : List (Addr × Obj)} {C D : Addr} {oC oD : Obj} {Jn : List (Addr × Obj) → Prop} {h : Heap} {tk : Nat} {all : List (Addr × Obj)} (F : Fr h₀ L h m) (N : News h₀ L h all) (news' : List (Addr × Obj)) (hsub : ∀ p ∈ (C, oC) :: (D, oD) :: (own ++ news'), p ∈ all)
    (off : ∀ p ∈ news', p.1 ∉ wr ∧ p.1 ≠ C ∧ p.1 ≠ D) (hJ : Jn news') : CEnd h₀ L m s wr own C oC D oD Jn { s with heap := h, toks := tk } := ⟨h, tk, news', rfl, F, fun p hp => N p (hsub p hp), off, hJ⟩
end
end Mine

-- D2
open PySem PySem.W PyProof.Rows PySem.Spec PySem.Calls
set_option maxRecDepth 100000
namespace Mine
section
variable {prog : Program} {w : World}

theorem valueAt_snoc {kvs : List (Str × Value)} {t t' : Str} {v : Value} : valueAt (kvs ++ [(t, v)]) t' = (match valueAt kvs t' with | some x => some x | none => if t = t' then some v else none) := by
  unfold valueAt
  rw [List.find?_append]
  cases h : kvs.find? (fun kv => kv.1 = t') with
  | some x => rfl
  | none =>
    by_cases e : t = t'
    · simp [e]
    · simp [e]
theorem allLt_mem {d : Addr} : ∀ {l : List (Addr × Obj)}, AllLt d l → ∀ p ∈ l, p.1 < d
  | [], _, _, h => nomatch h
  | _ :: _, x, p, h => by
    rcases List.mem_cons.mp h with rfl | h
    · exact x.1
    · exact allLt_mem x.2 p h
theorem take_filter {α : Type} {l : List α} {i : Nat} {x : α} (f : α → Bool) (h : l[i]? = some x) : (l.take (i + 1)).filter f = (l.take i).filter f ++ (if f x = true then [x] else []) := by
  rw [List.take_add_one, h, List.filter_append]
  congr 1
  show List.filter f [x] = _
  rw [List.filter_cons, List.filter_nil]
theorem ite_yes {b : Bool} {T F : Prop} (h : b = true) (t : T) : (if b = true then T else F) := by rw [if_pos h]; exact t
theorem ite_no {b : Bool} {T F : Prop} (h : b = false) (f : F) : (if b = true then T else F) := by rw [h, if_neg Bool.false_ne_true]; exact f
theorem strs_snoc2 {vs : List Value} {ss : List Str} (h : StrsAre vs ss) (x : Str) (t : Tok) : StrsAre (vs ++ [.str x t]) (ss ++ [x]) := h.append' (.cons x t .nil)
theorem filter_nil_all {α : Type} {l : List α} {f : α → Bool} : (l.filter fun x => !f x) = [] ↔ l.all f = true := by
  rw [List.filter_eq_nil_iff, List.all_eq_true]
  constructor
  · intro h x hx; simpa using h x hx
  · intro h x hx; simpa using h x hx
theorem strs_empty {vs : List Value} {ss : List Str} (h : StrsAre vs ss) : vs.isEmpty = ss.isEmpty := by cases h <;> rfl
/-- pairs with the keys ts, each value as R says -/
noncomputable def Pairs2 (R : Value → Str → Prop) (kvs : List (Str × Value)) (ts : List Str) : Prop := kvs.map (·.1) = ts ∧ ∀ t ∈ ts, ∃ v, valueAt kvs t = some v ∧ R v t
theorem Pairs2.nil {R : Value → Str → Prop} : Pairs2 R [] [] := ⟨rfl, fun _ h => nomatch h⟩
theorem Pairs2.put {R : Value → Str → Prop} {kvs : List (Str × Value)} {ts : List Str} {t : Str} {v : Value} (h : Pairs2 R kvs ts) (hn : t ∉ ts) (hv : R v t) : Pairs2 R (stored kvs t v) (ts ++ [t]) := by
  have h0 : valueAt kvs t = none := valueAt_none_of_not_mem (h.1 ▸ hn)
  rw [stored_absent h0]
  refine ⟨by simp [h.1], fun t' ht' => ?_⟩
  rw [valueAt_snoc]
  rcases List.mem_append.mp ht' with ht' | ht'
  · obtain ⟨x, e, hx⟩ := h.2 t' ht'
    exact ⟨x, by rw [e], hx⟩
  · rw [List.mem_singleton.mp ht', h0]
    exact ⟨v, by simp, hv⟩
theorem Pairs2.mono {R S : Value → Str → Prop} {kvs : List (Str × Value)} {ts : List Str} (h : Pairs2 R kvs ts) (hs : ∀ v t, R v t → S v t) : Pairs2 S kvs ts :=
  ⟨h.1, fun t ht => let ⟨v, e, hv⟩ := h.2 t ht; ⟨v, e, hs v t hv⟩⟩
/-- a dict in the ledger -/
noncomputable def IsDct (prog : Program) (w : World) (news : List (Addr × Obj)) (d : Addr) (ts : List Str) (R : Value → Str → Prop) : Prop :=
  ∃ o kvs, (d, o) ∈ news ∧ o.IsDictOf (PySem.strKind prog w) kvs ∧ (d == sysModules) = false ∧ ts.Nodup ∧ Pairs2 R kvs ts
theorem IsDct.mono {news news' : List (Addr × Obj)} {d : Addr} {ts : List Str} {R S : Value → Str → Prop} (h : IsDct prog w news d ts R) (hs : ∀ p ∈ news, p ∈ news') (hR : ∀ v t, R v t → S v t) : IsDct prog w news' d ts S := by
  obtain ⟨o, kvs, hm, hd, lo, hn, hp⟩ := h
  exact ⟨o, kvs, hs _ hm, hd, lo, hn, hp.mono hR⟩
/-- a list of texts in the ledger -/
noncomputable def IsStrs (news : List (Addr × Obj)) (v : Value) (W : List Str) : Prop := ∃ l vs n, v = .ref l ∧ (l, lstO vs n) ∈ news ∧ StrsAre vs W
theorem IsStrs.mono {news news' : List (Addr × Obj)} {v : Value} {W : List Str} (h : IsStrs news v W) (hs : ∀ p ∈ news, p ∈ news') : IsStrs news' v W := by
  obtain ⟨l, vs, n, e, hm, hv⟩ := h
  exact ⟨l, vs, n, e, hs _ hm, hv⟩
variable {A : Around} {E : Value → Shared → Prop} {s : Shared} {h₀ : Heap} {L : Addr} {news : List (Addr × Obj)} {m : Str → Option Value}
theorem dct_item {value slice : PySem.Expr} {d : Addr} {ts : List Str} {R : Value → Str → Prop} {t : Str} {u : Tok} {Q : Value → Shared → Prop} (N : News h₀ L s.heap news) (hd : IsDct prog w news d ts R) (ht : t ∈ ts)
    (h : ∀ v tk, R v t → Q v { s with toks := tk }) (hs : subscripted slice false (.ref d) (.str t u) = operate [.ref d, .str t u] (getItem (.ref d) (.str t u)) := by with_unfolding_all rfl) (hg : ∀ r, letTemporaryGo value (.ref d) r = pure () := by intro _; with_unfolding_all rfl) :
    wpAny (model prog w) A (subscriptTail value slice (.ref d) (.str t u)) Q E s := by
  obtain ⟨o, kvs, hm, ho, lo, hn, hp⟩ := hd
  obtain ⟨v, e, hv⟩ := hp.2 t ht
  exact kda_item N hm ho (strKind_is _ _ _ _) e (h v _ hv) hs hg
theorem dct_item2 {value slice : PySem.Expr} {d : Addr} {ts : List Str} {R : Value → Str → Prop} {t : Str} {u : Tok} {base : List (Addr × Obj)} {Q : Value → Shared → Prop} (N : News h₀ L s.heap news) (hd : IsDct prog w base d ts R) (hsub : ∀ p ∈ base, p ∈ news) (ht : t ∈ ts)
    (h : ∀ v tk, R v t → Q v { s with toks := tk }) (hs : subscripted slice false (.ref d) (.str t u) = operate [.ref d, .str t u] (getItem (.ref d) (.str t u)) := by with_unfolding_all rfl) (hg : ∀ r, letTemporaryGo value (.ref d) r = pure () := by intro _; with_unfolding_all rfl) :
    wpAny (model prog w) A (subscriptTail value slice (.ref d) (.str t u)) Q E s := dct_item N (hd.mono hsub fun _ _ h => h) ht h hs hg
theorem each_snoc {α : Type} {R : Value → α → Prop} {vs : List Value} {ds : List α} {v : Value} {d : α} (h : Each R vs ds) (hv : R v d) : Each R (vs ++ [v]) (ds ++ [d]) := by
  refine ⟨by simp [h.1], fun i v' d' h1 h2 => ?_⟩
  rcases Nat.lt_trichotomy i vs.length with c | c | c
  · rw [List.getElem?_append_left c] at h1
    rw [List.getElem?_append_left (h.1 ▸ c)] at h2
    exact h.2 i v' d' h1 h2
  · subst c
    have h1' : some v = some v' := by simpa using h1
    have h2' : some d = some d' := by rw [h.1] at h2; simpa using h2
    cases h1'; cases h2'; exact hv
  · rw [List.getElem?_eq_none (by simp; omega)] at h1
    cases h1
theorem Each.nil {α : Type} {R : Value → α → Prop} : Each R [] ([] : List α) := ⟨rfl, fun i v d a b => by simp at a⟩
theorem each_cons {α : Type} {R : Value → α → Prop} {vs : List Value} {ds : List α} {v : Value} {d : α} (h : Each R vs ds) (hv : R v d) : Each R (v :: vs) (d :: ds) := by
  refine ⟨by simp [h.1], fun i v' d' h1 h2 => ?_⟩
  cases i with
  | zero => simp at h1 h2; subst h1; subst h2; exact hv
  | succ j => exact h.2 j v' d' (by simpa using h1) (by simpa using h2)
theorem each_len {α : Type} {R : Value → α → Prop} {vs : List Value} {ds : List α} (h : Each R vs ds) : vs.length = ds.length := h.1
theorem src_dct {R' : Value → Shared → Prop} {d : Addr} {ts : List Str} {R : Value → Str → Prop} (hh : A.handled = none) (F : Fr h₀ L s.heap m) (N : News h₀ L s.heap news) {base : List (Addr × Obj)} (hd : IsDct prog w base d ts R) (hsub : ∀ p ∈ base, p ∈ news)
    (h : ∀ o I St s₂, (d, o) ∈ base → (∃ h', s₂ = { s with heap := h' }) → (∀ x px, Src prog w A h₀ L m news (.Name x px) I [I] ts.length (fun i v _ => ∃ t tk, ts[i]? = some t ∧ v = .str t tk) St (fun nw => (d, o) ∈ nw) s₂) → R' (.ref I) s₂) :
    wpAny (model prog w) A (pyIter (.ref d)) R' E s := by
  obtain ⟨o, kvs, hm, ho, lo, hn, hp⟩ := hd
  refine src_dict (knd := PySem.strKind prog w) hh F N (hsub _ hm) ho lo fun I St s₂ hs₂ X => h o I St s₂ hm hs₂ fun x px => ?_
  have e : kvs.length = ts.length := by rw [← hp.1, List.length_map]
  have X := X x px
  rw [e] at X
  exact { X with W := {
    item := fun i s Q E E' hi st hQ => X.W.item i s Q E E' hi st fun v h' tk hP => hQ v h' tk (by
      obtain ⟨k, y, hk, hv⟩ := hP
      obtain ⟨tk, rfl⟩ := Value.isStrOf_shape hv
      exact ⟨k, tk, by rw [← hp.1, List.getElem?_map, hk]; rfl, rfl⟩)
    done := X.W.done
    self := X.W.self } }


theorem news_in2 {h : Heap} {own b : List (Addr × Obj)} {x0 x1 : Addr × Obj} (N : News h₀ L h (own ++ x0 :: x1 :: b)) : News h₀ L h (x0 :: x1 :: (own ++ b)) := fun p hp => N p (by
  simp only [List.mem_cons, List.mem_append] at hp ⊢
  rcases hp with h | h | h | h <;> simp [h])
theorem news_out2 {h : Heap} {own b : List (Addr × Obj)} {x0 x1 : Addr × Obj} (N : News h₀ L h (x0 :: x1 :: (own ++ b))) : News h₀ L h (own ++ x0 :: x1 :: b) := fun p hp => N p (by
  simp only [List.mem_cons, List.mem_append] at hp ⊢
  rcases hp with h | h | h | h <;> simp [h])


theorem news_in4 {h : Heap} {own b : List (Addr × Obj)} {x0 x1 x2 x3 : Addr × Obj} (N : News h₀ L h (own ++ x0 :: x1 :: x2 :: x3 :: b)) : News h₀ L h (x0 :: x1 :: x2 :: x3 :: (own ++ b)) := fun p hp => N p (by
  simp only [List.mem_cons, List.mem_append] at hp ⊢
  rcases hp with h | h | h | h | h | h <;> simp [h])
theorem news_out4 {h : Heap} {own b : List (Addr × Obj)} {x0 x1 x2 x3 : Addr × Obj} (N : News h₀ L h (x0 :: x1 :: x2 :: x3 :: (own ++ b))) : News h₀ L h (own ++ x0 :: x1 :: x2 :: x3 :: b) := fun p hp => N p (by
  simp only [List.mem_cons, List.mem_append] at hp ⊢
  rcases hp with h | h | h | h | h | h <;> simp [h])
theorem news_in5 {h : Heap} {own b : List (Addr × Obj)} {x0 x1 x2 x3 x4 : Addr × Obj} (N : News h₀ L h (own ++ x0 :: x1 :: x2 :: x3 :: x4 :: b)) : News h₀ L h (x0 :: x1 :: x2 :: x3 :: x4 :: (own ++ b)) := fun p hp => N p (by
  simp only [List.mem_cons, List.mem_append] at hp ⊢
  rcases hp with h | h | h | h | h | h | h <;> simp [h])
theorem news_out5 {h : Heap} {own b : List (Addr × Obj)} {x0 x1 x2 x3 x4 : Addr × Obj} (N : News h₀ L h (x0 :: x1 :: x2 :: x3 :: x4 :: (own ++ b))) : News h₀ L h (own ++ x0 :: x1 :: x2 :: x3 :: x4 :: b) := fun p hp => N p (by
  simp only [List.mem_cons, List.mem_append] at hp ⊢
  rcases hp with h | h | h | h | h | h | h <;> simp [h])




theorem eq_nil {l b : Addr} {ys : List Value} {n k : Nat} {Q : Value → Shared → Prop} (N : News h₀ L s.heap news) (hl : (l, lstO ys n) ∈ news) (hb : (b, lstO [] k) ∈ news) (hu : A.units < cLine) (h : Q (.bool ys.isEmpty) s) :
    wpAny (model prog w) A (compareOp .Eq (.ref l) (.ref b)) Q E s := by
  have h1 : s.heap.IsList l ys.toArray := ⟨_, (N _ hl).1, rfl, _, rfl⟩
  have h2 : s.heap.IsList b ([] : List Value).toArray := ⟨_, (N _ hb).1, rfl, _, rfl⟩
  cases ys with
  | nil => exact PySem.SeqAt.eq_listAt (e := fun _ => true) h1 h2 rfl hu (fun j a _ => absurd a (by simp)) h
  | cons y r => exact PySem.SeqAt.eq_list_lengthsAt h1 h2 (by simp) hu h
end
end Mine

-- L8
open PySem PySem.W PyProof.Rows PySem.Spec PySem.Calls
set_option maxRecDepth 100000
namespace Mine
section
variable {prog : Program} {w : World} {K : Type} [DecidableEq K] {knd : KeyKind prog w K} {A : Around} {E : Value → Shared → Prop} {s : Shared}
theorem nextOf_dict_item {it d : Addr} {i ep : Nat} {kvs : List (K × Value)} {k : K} {x : Value} {Q : Value → Shared → Prop} (hit : s.heap.IsKeyIter it d i kvs.length ep) (hm : s.heap.DictAt knd d kvs ep) (hx : kvs[i]? = some (k, x))
    (hQ : ∀ key h', knd.is k key = true → h'.IsKeyIter it d (i + 1) kvs.length ep → Heap.SameBut it s.heap h' → Q key { s with heap := h' }) : wpAny (model prog w) A (Builtin.SmallTypes.nextOf (.ref it)) Q E s := by
  unfold Builtin.SmallTypes.nextOf
  exact wpAny_bind (kdk_special hit hm hx fun key h' hk hit' hs => wpAny_pure (hQ key h' hk hit' hs))
theorem nextOf_dict_end {it d : Addr} {i ep : Nat} {kvs : List (K × Value)} {Q : Value → Shared → Prop} (hh : A.handled = none) (hit : s.heap.IsKeyIter it d i kvs.length ep) (hm : s.heap.DictAt knd d kvs ep) (hx : kvs[i]? = none)
    (hE : ∀ h' e, Heap.ExtBut it s.heap h' → (∃ o, h'.get? e = some o ∧ o.cls = .type "StopIteration") → E (.ref e) { s with heap := h' }) : wpAny (model prog w) A (Builtin.SmallTypes.nextOf (.ref it)) Q E s := by
  refine hideG ?_
  intro G hG
  obtain ⟨o, ho, hc, hd⟩ := id hit
  refine hG ?_
  clear hG G
  refine hideG ?_
  intro G hG
  obtain ⟨od, es, hod, hcd, hdd, hk, hp, hn⟩ := id hm
  refine hG ?_
  clear hG G
  unfold Builtin.SmallTypes.nextOf
  refine wpAny_bind (wpAny_callSpecial?_slot (name := Str.ofString "__next__") hit.typeIs PySem.F.slot_dict_keyiterator_next
    (wpAny_call_entry PySem.F.slot_dict_keyiterator_next hit.typeIs PySem.F.entry_dict_keyiterator_next ?_ (PySem.F.args_dict_keyiterator_next_1 _)))
  refine wpAny_bind (wpAny_pure ?_)
  refine wpAny_bind ?_
  refine wpAny_bind ?_
  first | refine wpAny_bind (wpAny_typeNameOfWhole_keyiter hit.typeIs (wpAny_pure ?_)) | refine wpAny_bind (wpAny_typeNameOf_keyiter hit.typeIs (wpAny_pure ?_))
  refine wpAny_bind (wpAny_fieldsOf ho hd ?_)
  have hown : Builtin.Dict_items.ownsTuple "dict_keyiterator" = false := by decide
  simp only [hown, Bool.false_eq_true, if_false]
  show wpAny _ _ (if (Value.ref d == Value.none) = true then _ else _) _ _ s
  rw [if_neg (show ¬ ((Value.ref d == Value.none) = true) from Bool.false_ne_true)]
  refine wpAny_bind (wpAny_pure ?_)
  refine wpAny_bind (wpAny_dictEntries hod hdd ?_)
  have hsz : es.size = kvs.length := by rw [← hp.length]; simp
  rw [if_neg (by rw [hsz]; simp)]
  refine wpAny_bind (wpAny_pure ?_)
  refine wpAny_bind (wpAny_dictEpoch hod hdd ?_)
  rw [if_neg (by simp)]
  refine wpAny_pure ?_
  have hge : es.size ≤ i := by rw [hsz]; simpa using hx
  simp only [show ¬ ((i : Int) < 0) from by omega, if_false, Int.toNat_natCast, Array.getElem?_eq_none hge]
  refine wpAny_bind ?_
  first | refine wpAny_bind (wpAny_typeNameOfWhole_keyiter hit.typeIs (wpAny_pure ?_)) | refine wpAny_bind (wpAny_typeNameOf_keyiter hit.typeIs (wpAny_pure ?_))
  show wpAny _ _ (setField (.ref it) 0 .none >>= _) _ _ s
  refine wpAny_bind (wpAny_setField ho hd (by simp) ?_)
  show wpAny _ _ (newExc (.type "StopIteration") [] >>= _) _ _ _
  refine wpAny_bind ?_
  simp only [newExc, newTuple]
  refine wpAny_bind (wpAny_newObj_type ?_ (by size_fits))
  refine wpAny_bind (m := firstArgMember _ _) (wpAny_of_eq (a := Value.none) (by first | rfl | (simp only [firstArgMember]; rfl)) ?_)
  refine wpAny_newObj_type ?_ (by size_fits)
  simp only [raiseNew]
  refine wpAny_bind (wpAny_handled ?_)
  first | rw [show A.in1.handled = none from hh] | rw [hh]
  refine wpAny_bind (wpAny_pure (wpAny_throw ?_))
  exact hE _ _ (((Heap.SameBut.update ..).extBut.push _).push _) ⟨_, Heap.get?_push_size _ rfl, rfl⟩
theorem draws_dict (hh : A.handled = none) (it d : Addr) (hne : d ≠ it) (kvs : List (K × Value)) (ep : Nat) :
    Draws prog w A it [it, d] kvs.length (fun i v => ∃ k x, kvs[i]? = some (k, x) ∧ knd.is k v = true) (fun i h => h.IsKeyIter it d i kvs.length ep ∧ h.DictAt knd d kvs ep) where
  live := fun _ _ st => let ⟨o, ho, _⟩ := st.1; ⟨o, ho⟩
  frame := fun _ _ _ st hk => ⟨st.1.at fun o e => hk it (by simp) o e, st.2.at' fun o e => hk d (by simp) o e⟩
  item := fun i s Q E hi st hQ => by
    refine hideG ?_
    intro G hG
    obtain ⟨⟨k, x⟩, hx⟩ : ∃ p, kvs[i]? = some p := ⟨kvs[i], by simp [hi]⟩
    refine hG ?_
    clear hG G
    refine nextOf_dict_item st.1 st.2 hx fun key h' hkey hit' hs' => ?_
    exact hQ key h' s.toks ⟨k, x, hx, hkey⟩ ⟨hit', st.2.extBut hs'.extBut hne⟩ hs'
  done := fun s Q E st hE => nextOf_dict_end hh st.1 st.2 (by simp) hE
theorem enum_new_dict {d : Addr} {kvs : List (K × Value)} {ep : Nat} (lo : (d == sysModules) = false) :
    MeetsIn prog w (Builtin.«enumerate.__new__» ⟨[.type "enumerate", .ref d], []⟩) (fun _ R s => s.heap.DictAt knd d kvs ep ∧
      R (.ok (.ret (.ref (s.heap.push { cls := .type "dict_keyiterator", data := .fields #[.ref d, .int 0 0, .int kvs.length 0, .int ep 0] }).objs.size)))
        { s with heap := (s.heap.push { cls := .type "dict_keyiterator", data := .fields #[.ref d, .int 0 0, .int kvs.length 0, .int ep 0] }).push { cls := .type "enumerate", data := .fields #[.none, .bool false, .ref s.heap.objs.size, rawInt 0, .none, .none] } }) :=
  .of_wp fun A R s h => by
    refine hideG ?_
    intro G hG
    obtain ⟨hp, g, dd, tk, os⟩ := s; obtain ⟨hl, h⟩ := h
    refine hG ?_
    clear hG G
    refine hideG ?_
    intro G hG
    obtain ⟨od, es, hod, hcd, hdd, _⟩ := id hl
    refine hG ?_
    clear hG G
    have hsub := sub_enumerate
    have hD : Heap.DictAt knd (Shared.heap ⟨hp, g, dd, tk, os⟩) d kvs ep := hl
    wp_walk using PySem.AutoSeq1.wpAny_loadPart' hod
    refine wpAny_stack_any fun st => wpAny_pure ?_
    split
    · rename_i c _ _ _ _ _
      cases (c == Value.type "enumerate")
      · wp_walk using PySem.AutoSeq1.wpAny_loadPart' hod, wpAny_pyIter_dict lo hD
        exact ⟨_, rfl, h⟩
      · wp_walk using PySem.AutoSeq1.wpAny_loadPart' hod, wpAny_pyIter_dict lo hD
        exact ⟨_, rfl, h⟩
    · wp_walk using PySem.AutoSeq1.wpAny_loadPart' hod, wpAny_pyIter_dict lo hD
      exact ⟨_, rfl, h⟩
theorem call_enum_dict {d : Addr} {kvs : List (K × Value)} {ep : Nat} {Q : Value → Shared → Prop} (lo : (d == sysModules) = false) (hD : s.heap.DictAt knd d kvs ep)
    (h : ∀ h', IsEnum h' (s.heap.objs.size + 1) s.heap.objs.size 0 .none → h'.IsKeyIter s.heap.objs.size d 0 kvs.length ep → h'.objs.size = s.heap.objs.size + 2 →
      (∀ b o, s.heap.get? b = some o → h'.get? b = some o) → Q (.ref (s.heap.objs.size + 1)) { s with heap := h' }) :
    wpAny (model prog w) A (call (.type "enumerate") [.ref d]) Q E s := by
  refine callType_newIn PySem.F.called_enumerate (by decide) (PySem.F.typeCall_enumerate_1 _) (PySem.F.newCall_enumerate_1 _) (fun obj => PySem.F.args_object_init_2 obj _) PySem.F.entry_enumerate_new
    (enum_new_dict (knd := knd) (kvs := kvs) (ep := ep) lo) ⟨hD, ?_⟩
  have hz : (s.heap.push { cls := .type "dict_keyiterator", data := .fields #[.ref d, .int 0 0, .int kvs.length 0, .int ep 0] }).objs.size = s.heap.objs.size + 1 := Heap.size_push ..
  show _ ∧ _
  rw [hz]
  have he : IsEnum ((s.heap.push { cls := .type "dict_keyiterator", data := .fields #[.ref d, .int 0 0, .int kvs.length 0, .int ep 0] }).push
      { cls := .type "enumerate", data := .fields #[.none, .bool false, .ref s.heap.objs.size, rawInt 0, .none, .none] }) (s.heap.objs.size + 1) s.heap.objs.size 0 .none := by
    have := Heap.get?_push_size (s.heap.push { cls := .type "dict_keyiterator", data := .fields #[.ref d, .int 0 0, .int kvs.length 0, .int ep 0] })
      (o := { cls := .type "enumerate", data := .fields #[.none, .bool false, .ref s.heap.objs.size, rawInt 0, .none, .none] }) rfl
    rw [hz] at this; exact this
  refine ⟨⟨_, he, rfl⟩, h _ he ⟨_, Heap.get?_push_of_some _ (Heap.get?_push_size _ rfl), rfl, rfl⟩ (by rw [Heap.size_push, hz]) fun b o x => Heap.get?_push_of_some _ (Heap.get?_push_of_some _ x)⟩
end
section
variable {prog : Program} {w : World} {A : Around} {E : Value → Shared → Prop} {s : Shared} {h₀ : Heap} {L : Addr} {m : Str → Option Value} {news : List (Addr × Obj)} {env : Env}
theorem src_enum_dict {R' : Value → Shared → Prop} {d : Addr} {ts : List Str} {R : Value → Str → Prop} {base : List (Addr × Obj)} (hh : A.handled = none) (F : Fr h₀ L s.heap m) (N : News h₀ L s.heap news) (hd : IsDct prog w base d ts R) (hsub : ∀ p ∈ base, p ∈ news)
    (h : ∀ o e it St s₂, (d, o) ∈ base → (∃ h', s₂ = { s with heap := h' }) → (∀ elts k pos, Src prog w A h₀ L m news (.Tuple elts k pos) e [e, it] ts.length
      (fun i v h => ∃ T t nm tk, v = .ref T ∧ ts[i]? = some nm ∧ h.IsTuple T #[.int i t, .str nm tk]) St (fun nw => (d, o) ∈ nw) s₂) → R' (.ref e) s₂) :
    wpAny (model prog w) A (call (.type "enumerate") [.ref d]) (fun xv s₁ => wpAny (model prog w) A (pyIter xv) R' E s₁) E s := by
  refine hideG ?_
  intro G hG
  obtain ⟨o, kvs, hm, ho, lo, hn, hp⟩ := hd
  refine hG ?_
  clear hG G
  refine hideG ?_
  intro G hG
  obtain ⟨ep, ha⟩ := KdkAt.of ho
  refine hG ?_
  clear hG G
  have hm' := hsub _ hm
  have hlt : d < s.heap.objs.size := Heap.lt_size (N _ hm').1
  refine call_enum_dict (knd := PySem.strKind prog w) lo (ha.dictAt (N _ hm').1) fun h' he hit hsz hk => ?_
  refine wpAny_pyIter_enum he ?_
  have e2 : kvs.length = ts.length := by rw [← hp.1, List.length_map]
  refine h o _ s.heap.objs.size (fun i h => (∃ old, IsEnum h (s.heap.objs.size + 1) s.heap.objs.size i old) ∧ (h.IsKeyIter s.heap.objs.size d i kvs.length ep ∧ h.DictAt (PySem.strKind prog w) d kvs ep)) _ hm ⟨h', rfl⟩ fun elts k pos => ?_
  have W := GWalk.tuple (elts := elts) (k := k) (pos := pos) (WalksT.enumerateD (A := A) (draws_dict (knd := PySem.strKind prog w) (A := A.in1) hh s.heap.objs.size d (Nat.ne_of_lt hlt) kvs ep) (s.heap.objs.size + 1) (Nat.ne_of_gt (Nat.lt_succ_self _)) (by
    intro hmem
    rcases List.mem_cons.mp hmem with q | hmem
    · exact absurd q (Nat.ne_of_gt (Nat.lt_succ_self _))
    · exact absurd (List.mem_singleton.mp hmem) (Nat.ne_of_gt (Nat.lt_succ_of_lt hlt))) List.mem_cons_self)
  have two : ∀ b ∈ [s.heap.objs.size + 1, s.heap.objs.size], b = s.heap.objs.size + 1 ∨ b = s.heap.objs.size := fun b hb => by simpa using hb
  have new0 : ∀ b, s.heap.objs.size ≤ b → h₀.get? b = none := fun b hb => by
    cases e : h₀.get? b with
    | none => rfl
    | some o' => exact absurd (Heap.lt_size (F.keep b o' e)) (Nat.not_lt.mpr hb)
  exact {
    W := {
      item := fun i s Q E E' hi st hQ => W.item i s Q E E' (e2 ▸ hi) st fun v h' tk hP => hQ v h' tk (by
        refine hideG ?_
        intro G hG
        obtain ⟨T, vals, rfl, ⟨t, x, ⟨k, y, hk, hv⟩, rfl⟩, hT⟩ := hP
        refine hG ?_
        clear hG G
        refine hideG ?_
        intro G hG
        obtain ⟨tk, rfl⟩ := Value.isStrOf_shape hv
        refine hG ?_
        clear hG G
        exact ⟨T, t, k, tk, rfl, by rw [← hp.1, List.getElem?_map, hk]; rfl, hT⟩)
      done := fun s Q E st => W.done s Q E (e2 ▸ st)
      self := W.self }
    keep := fun i h h' nw st e k N' S => ⟨st.1.imp fun old q => e _ (by simp) _ q, st.2.1.at fun o q => e _ (by simp) o q, ha.dictAt (N' _ S).1⟩
    live := fun i h st b hb => by
      rcases two b hb with rfl | rfl
      · exact let ⟨_, q⟩ := st.1; ⟨_, q⟩
      · exact let ⟨o, e, _⟩ := st.2.1; ⟨o, e⟩
    st := ⟨⟨_, he⟩, hit, ha.dictAt (hk _ _ (N _ hm').1)⟩
    lt := fun b hb => by
      show b < h'.objs.size
      rw [hsz]
      rcases two b hb with rfl | rfl
      · exact Nat.lt_succ_self _
      · exact Nat.lt_succ_of_lt (Nat.lt_succ_self _)
    Lw := fun hb => by
      have := F.ns.lt
      rcases two _ hb with q | q
      · exact Nat.ne_of_lt (Nat.lt_succ_of_lt this) q
      · exact Nat.ne_of_lt this q
    w0 := fun b hb => by
      rcases two b hb with rfl | rfl
      · exact new0 _ (Nat.le_succ _)
      · exact new0 _ (Nat.le_refl _)
    off := fun p hp' hb => by
      have := Heap.lt_size (N p hp').1
      rcases two _ hb with q | q
      · exact Nat.ne_of_lt (Nat.lt_succ_of_lt this) q
      · exact Nat.ne_of_lt this q
    above := fun p hp' b hb => by
      have := Heap.lt_size (N p hp').1
      rcases two b hb with rfl | rfl
      · exact Nat.lt_succ_of_lt this
      · exact this
    F := F.keeps hk
    N := N.grown hk }
theorem assign_pair2 {a b : Str} {pa pb tp : Pos} {kk : Nat} {T : Addr} {x y : Value} {Q : Unit → Shared → Prop} (hh : A.handled = none)
    (F : Fr h₀ env.locals s.heap m) (N : News h₀ env.locals s.heap news) (hT : s.heap.IsTuple T #[x, y])
    (ha : env.kindOf a = some .local) (hb : env.kindOf b = some .local) (hp : (env.scope.kind == .class || (env.scope.kind == .module && env.locals != env.globals)) = false)
    (h : ∀ h' tk, Fr h₀ env.locals h' (fun z => if z = b then some y else if z = a then some x else m z) → News h₀ env.locals h' news → Q () { s with heap := h', toks := tk }) :
    wpAny (model prog w) A (assign (.Tuple [.Name a pa, .Name b pb] kk tp) env (.ref T)) Q E s := by
  refine kcp_assign hh hT ha hb hp F.ns fun h' tk hn hk => ?_
  refine h h' tk ⟨hn, fun b o e => hk b o (Nat.ne_of_lt (Nat.lt_of_lt_of_le (Heap.lt_size e) F.above)) (F.keep b o e), F.above⟩ ?_
  exact fun p hp => ⟨hk _ _ (N p hp).2.1 (N p hp).1, (N p hp).2⟩
end
end Mine

-- Cwt
open PySem PySem.W PyProof.Rows PySem.Spec PySem.Calls
set_option maxRecDepth 100000
set_option maxHeartbeats 8000000
namespace Mine
theorem fresh_Cwt : True := by
  w_top off
  exact trivial

theorem junk_one {x : Str} {v : Option Value} {u m₀ : Str → Option Value} : Junk [x] m₀ (fun z => if z = x then v else if [x].contains z = true then u z else m₀ z) := Junk.intro (by
  intro z hz
  simp at hz
  simp [hz])
theorem N_drop3 {g h : Heap} {L : Addr} {x a b c : Addr × Obj} {news : List (Addr × Obj)} (N : News g L h (x :: a :: b :: c :: news)) : News g L h (x :: news) := fun p hp => N p (by
  rcases List.mem_cons.mp hp with h | h
  · rw [h]; exact List.mem_cons_self
  · exact List.mem_cons_of_mem _ (List.mem_cons_of_mem _ (List.mem_cons_of_mem _ (List.mem_cons_of_mem _ h))))
/-- the first of the rows of a list of texts, the greatest of them -/
noncomputable def bestT (ks : List (Int × Int)) (side : Int) (rd : Str → RowD) (l : List Str) : RowD := match l with
  | [] => ⟨0, 0, 0⟩
  | t :: r => pick ks side (rd t) (rd t :: r.map rd)
noncomputable def belowT (ts : List Str) (wds : Str → List Str) (t : Str) : List Str := ts.filter fun one => (wds one).all fun w => (wds t).any (· == w)
noncomputable def wt1 (ks : List (Int × Int)) (ts : List Str) (rd : Str → RowD) (wds : Str → List Str) (t : Str) : RowD := bestT ks 1 rd (belowT ts wds t)

section
variable {w : World} {p : Program} {loose : List Str} {mean : ExcName → Option Value} {mg mb : Str → Option Value}
   {dp un : Nat} {gd : Option (List Code)} {cn : Str} {cs : Scope} {a : Addr} {ccd : Value} {cl : List (Str × Addr)} {outer : List Env} {A₀ : Around} {base h₀ : Heap} {L : Addr} {m : Str → Option Value} {news : List (Addr × Obj)} {s : Shared} {Q E : Value → Shared → Prop}
   (B : Below A₀ base outer h₀) (F : Fr h₀ L s.heap m) (X : (Mine.hd.heap_1 w.params).In h₀) (N : News h₀ L s.heap news) (T : Top p loose mean mg mb h₀) (hk : cs.kind = .function)
include B F X N T hk

local macro_rules | `(tactic| k_room) => `(tactic| ktr_room)
local macro_rules | `(tactic| k_units) => `(tactic| ktr_units)
local macro_rules | `(tactic| k_mem) => `(tactic| first | with_reducible assumption | assumption)
local macro_rules | `(tactic| k_all) => `(tactic| first | with_reducible assumption | exact allLt_ne (by first | assumption | exact And.right (by assumption)))
set_option hygiene false in
theorem weights_k (hd : dp + 8 < recursionLimit) (hu : un + 48 < cLine) {sd wd : Addr} {jv : Value} {ks : List (Int × Int)} {ts : List Str} {rd : Str → RowD} {wds : Str → List Str}
   (hj : IsJudge news jv ks) (hks : okKeys ks) (hS : IsDct PySem.Challenge.rw_wf0029_01.row.prog w news sd ts (fun v t => IsRow news v (rd t))) (hW : IsDct PySem.Challenge.rw_wf0029_01.row.prog w news wd ts (fun v t => IsStrs news v (wds t)))
   (hlen : ts.length ≤ 8) (hwl : ∀ t, (wds t).length ≤ 8)
   (hret : ∀ D o h' tk', (∀ q ∈ news, q.1 < D) → IsDct PySem.Challenge.rw_wf0029_01.row.prog w [(D, o)] D ts (fun v t => IsRow news v (wt1 ks ts rd wds t)) → Fr h₀ L h' m → News h₀ L h' ((D, o) :: news) → Q (.ref D) { s with heap := h', toks := tk' }) :
   wpAny (model PySem.Challenge.rw_wf0029_01.row.prog w) (ktrTop dp un gd cn cs L a ccd cl outer) (call (.ref 110) [.ref sd, .ref wd, jv]) Q E s := by
  revert X; k_fill; intro X
  have hnd : ts.Nodup := by obtain ⟨_, _, _, _, _, h, _⟩ := hS; exact h
  refine wpAny_noRaise ?_
  refine wpAny_call ?_
  k_dflt (refine' code_defC ?k1 ?k2 ?k3 ?k4 ?k5 ?kA ?kF ?kK ?k6 ?k7 ?k8 ?k9 ?kB ?kD ?_ ?c2 ?c3 ?c4; (case kA => exact rfl); (case kF => exact rfl); (case kK => assumption); (case k1 => k_asm); (case k2 => k_asm); (case k3 => k_asm); (case k4 => k_asm); (case k5 => k_asm); (case k6 => k_is); (case k7 => k_is); (case k8 => ktr_room); (case k9 => first | exact BindsTo.of_eq rfl | exact binds_K (by k_in) rfl (by k_is) rfl rfl rfl); (case kB => exact rfl); (case kD => decide +kernel); (case c2 => exact rfl); (case c3 => exact rfl); (case c4 => exact rfl); k_whole; intro g' L' h' tk' cells' FG' F' N' Y' B' X' T' l1; (try k_lt l1); k_cells Y'; (try simp only [List.cons_append, List.nil_append] at N'); (try dsimp only); (try k_lift B'); (try k_fold))
  (with_reducible rename Fr _ _ _ _ => FE)
  refine letF FE ?_
  clear FE
  intro mE FE
  iterate 5 walk1
  refine wpAny_noRaise (wpAny_For ?_ ?hs)
  case hs => intro _; rfl
  iterate 1 walk1
  rename_i ot ow os e1 e2 e3 D h4 od lo hs fs hi fi l2 h5 F5 N5
  have e1 : ot.data = .cell none := e1
  have e2 : ow.data = .cell (some (.ref wd)) := e2
  have e3 : os.data = .cell (some (.ref sd)) := e3
  have lo : (D == sysModules) = false := lo
  clear fs hi fi
  have sub5 : ∀ p ∈ news, p ∈ (D, od) :: (L' + 1 + 1 + 1, ot) :: (L' + 1 + 1, ow) :: (L' + 1, os) :: news := fun p hp => List.mem_cons_of_mem _ (List.mem_cons_of_mem _ (List.mem_cons_of_mem _ (List.mem_cons_of_mem _ hp)))
  revert F5
  suffices key : ∀ M : Str → Option Value, M "judge" = some jv → M "weights" = some (.ref D) → Fr g' L' h5 M → _ from key _ rfl rfl
  intro M hM1 hM2 F5
  refine src_dct rfl F5 N5 hS sub5 fun so I St s₂ hso hs₂ X5 => ?_
  obtain ⟨h6, rfl⟩ := hs₂
  have X6 := X5 "text" ⟨0, 0, 0, 0⟩
  refine for_gen (X5 _ _).W X6.keep (fun i m1 nw => ∃ od ot kvs c, nw = (D, od) :: (L' + 1 + 1 + 1, ot) :: (L' + 1 + 1, ow) :: (L' + 1, os) :: news ∧ od.IsDictOf (PySem.strKind PySem.Challenge.rw_wf0029_01.row.prog w) kvs ∧ Pairs2 (fun v t => IsRow news v (wt1 ks ts rd wds t)) kvs (ts.take i) ∧ ot.data = .cell c ∧
    Junk ["below"] (fun z => if z = "judge" then some jv else if z = "weights" then some (.ref D) else M z) m1) (fun i m1 nw hJ => by obtain ⟨_, _, _, _, rfl, _⟩ := hJ; exact List.mem_cons_of_mem _ (List.mem_cons_of_mem _ (List.mem_cons_of_mem _ (List.mem_cons_of_mem _ hso)))) X6.Lw X6.w0 X6.off X6.st X6.F X6.N ?_ ?_ ?_
  · refine ⟨od, ot, [], none, rfl, hs, .nil, e1, Junk.intro fun z _ => ?_⟩
    (repeat' split) <;> (try rfl) <;> (rename_i h; subst h; first | exact hM1 | exact hM2)
  · intro i v m1 nw own h7 tk7 hi hA hB F7 N7 hown hoff
    refine wpQ ?_
    intro Qa hQa
    obtain ⟨t, tt, hti, rfl⟩ := hA
    obtain ⟨od1, ot1, kvs, c, rfl, hd1, hp1, hc1, u, rfl⟩ := hB
    have N7 := news_in4 N7
    have sub7 : ∀ p ∈ news, p ∈ own ++ news := fun p hp => List.mem_append_right _ hp
    have offD : ∀ p ∈ own ++ news, p.1 ≠ D := by
      intro p hp
      rcases List.mem_append.mp hp with hp | hp
      · exact fun e => (hoff (D, od1) List.mem_cons_self) (e ▸ hown p hp)
      · exact allLt_ne l2.2.2.2 p hp
    have offT : ∀ p ∈ own ++ news, p.1 ≠ L' + 1 + 1 + 1 := by
      intro p hp
      rcases List.mem_append.mp hp with hp | hp
      · exact fun e => (hoff (L' + 1 + 1 + 1, ot1) (List.mem_cons_of_mem _ List.mem_cons_self)) (e ▸ hown p hp)
      · exact fun e => absurd (l1 p hp) (by rw [e]; exact fun q => absurd (ltN q) (by omega))
    revert N7 sub7 offD offT
    generalize hrest : own ++ news = rest
    revert rest
    refine hold ?_
    intro rest hrest N7 sub7 offD offT
    have hj7 := hj.mono sub7
    have hW7 := hW.mono sub7 fun v t h => h.mono sub7
    have hS7 := hS.mono sub7 fun v t h => h.mono sub7
    iterate 2 walk1
    refine hQa _ _ ?_
    clear hQa Qa
    dsimp only
    refine wpQ ?_
    intro Qt hQt
    iterate 1 walk1
    rename_i h8 ot2 F8 N8 hc8
    refine wpQ ?_
    intro Qh1 hQh1
    refine exec_list (by with_unfolding_all rfl) (by with_unfolding_all rfl) rfl (by decide) ?_
    iterate 1 walk1
    refine src_dct rfl F8 N8 hS7 (fun p hp => List.mem_cons_of_mem _ (List.mem_cons_of_mem _ (List.mem_cons_of_mem _ (List.mem_cons_of_mem _ hp)))) fun so2 I2 St2 s₂ hso2 hs₂ X9 => ?_
    obtain ⟨h9, rfl⟩ := hs₂
    refine' after_list_as rfl (X9 _ _) ?sz rfl rfl
      (fun i ys nw => nw = (D, od1) :: (L' + 1 + 1 + 1, ot2) :: (L' + 1 + 1, ow) :: (L' + 1, os) :: rest ∧ StrsAre ys ((ts.take i).filter fun one => (wds one).all fun w => (wds t).any (· == w)))
      ?hS
      (fun i m₂ => ∃ t tk, ts[i]? = some t ∧ m₂ "one" = some (.str t tk)) ?c1 rfl ?asg ⟨rfl, .nil⟩ ?_ ?_
    case sz => rw [sizeLine_eq]; omega
    case hS => intro i ys nw hJ; rw [hJ.1]; exact List.mem_cons_of_mem _ (List.mem_cons_of_mem _ (List.mem_cons_of_mem _ (List.mem_cons_of_mem _ hso2)))
    case c1 => decide
    case asg =>
      refine asg_name ?_ ?_ ?_
      · rfl
      · rfl
      · intro i v m₂ hP hm
        obtain ⟨t, tk, h1, rfl⟩ := hP
        exact ⟨t, tk, h1, hm⟩
    · intro i2 C D2 oC m₂ ys0 nw own2 h10 tk10 E' hi2 hBt hJt hoC F10 N10 hown2 hoff2 hCw hDw hCD
      refine wpQ ?_
      intro Qt1 hQt1
      obtain ⟨t2, tt2, ht2, hm2⟩ := hBt
      obtain ⟨hnw, hys⟩ := hJt
      subst hnw
      have sub10 : ∀ p ∈ rest, p ∈ own2 ++ (D, od1) :: (L' + 1 + 1 + 1, ot2) :: (L' + 1 + 1, ow) :: (L' + 1, os) :: rest := fun p hp => List.mem_append_right _ (List.mem_cons_of_mem _ (List.mem_cons_of_mem _ (List.mem_cons_of_mem _ (List.mem_cons_of_mem _ hp))))
      have hT10 : (L' + 1 + 1 + 1, ot2) ∈ own2 ++ (D, od1) :: (L' + 1 + 1 + 1, ot2) :: (L' + 1 + 1, ow) :: (L' + 1, os) :: rest := List.mem_append_right _ (List.mem_cons_of_mem _ List.mem_cons_self)
      have hW10 : (L' + 1 + 1, ow) ∈ own2 ++ (D, od1) :: (L' + 1 + 1 + 1, ot2) :: (L' + 1 + 1, ow) :: (L' + 1, os) :: rest := List.mem_append_right _ (List.mem_cons_of_mem _ (List.mem_cons_of_mem _ List.mem_cons_self))
      revert N10 sub10 hT10 hW10
      generalize hled : own2 ++ (D, od1) :: (L' + 1 + 1 + 1, ot2) :: (L' + 1 + 1, ow) :: (L' + 1, os) :: rest = led
      revert led
      refine hold ?_
      intro led hled N10 sub10 hT10 hW10
      have hWd10 := hW7.mono sub10 fun v t h => h.mono sub10
      have N10' := N10
      have hWd10' := hWd10.mono (fun p hp => List.mem_cons_of_mem (C, oC) (List.mem_cons_of_mem (D2, LCg.lst ys0) hp)) fun v t h => h.mono (fun p hp => List.mem_cons_of_mem (C, oC) (List.mem_cons_of_mem (D2, LCg.lst ys0) hp))
      have ht2m : t2 ∈ ts := List.mem_of_getElem? ht2
      have htm : t ∈ ts := List.mem_of_getElem? hti
      refine wpAny_tests_one ?_
      iterate 1 walk1
      refine wpQ ?_
      intro Qh2 hQh2
      refine eval_list (by with_unfolding_all rfl) rfl (by decide) ?_
      iterate 3 walk1
      refine dct_item N10' hWd10' ht2m ?_
      intro v9 tk9 hv9
      obtain ⟨l9, vs9, n9, rfl, hm9, hs9⟩ := hv9
      refine src_list rfl (by k_asm) (by k_asm) (.inr ⟨_, by k_mem, rfl, _, rfl⟩) fun I3 St3 s₂ hs₂ X11 => ?_
      obtain ⟨h11, rfl⟩ := hs₂
      refine' after_list (X11 _ _) ?sz2
        (fun i ys nw => nw = (C, oC) :: (D2, LCg.lst ys0) :: led ∧ StrsAre ys (((wds t2).take i).filter fun w => !((wds t).any (· == w))))
        ?hS2 (fun i m₂ => ∃ t tk, (wds t2)[i]? = some t ∧ m₂ "word" = some (.str t tk)) ?c12 rfl ?asg2 ⟨rfl, .nil⟩ ?_ ?_
      case sz2 => rw [sizeLine_eq, List.size_toArray, hs9.length]; exact Nat.le_trans (hwl t2) (by decide)
      case hS2 => intro i ys nw hJ; rw [hJ.1]; exact .inr ⟨_, hm9, rfl, _, rfl⟩
      case c12 => decide
      case asg2 =>
        refine asg_name ?_ ?_ ?_
        · rfl
        · rfl
        · intro i v m₂ hP hm
          obtain ⟨x, tk, rfl, h1⟩ := hs9.item i v (by simpa using hP)
          exact ⟨x, tk, h1, hm⟩
      · intro i3 C3 D3 oC3 m₃ ys3 nw own3 h12 tk12 E3 hi3 hBt hJt hoC3 F12 N12 hown3 hoff3 hCw3 hDw3 hCD3
        refine wpQ ?_
        intro Qt2 hQt2
        obtain ⟨t3, tt3, ht3, hm3⟩ := hBt
        obtain ⟨hnw, hys3⟩ := hJt
        subst hnw
        have sub12 : ∀ p ∈ led, p ∈ own3 ++ (C, oC) :: (D2, LCg.lst ys0) :: led := fun p hp => List.mem_append_right _ (List.mem_cons_of_mem _ (List.mem_cons_of_mem _ hp))
        revert N12 sub12
        generalize hled3 : own3 ++ (C, oC) :: (D2, LCg.lst ys0) :: led = led3
        revert led3
        refine hold ?_
        intro led3 hled3 N12 sub12
        have hT12 := sub12 _ hT10
        have hW12 := sub12 _ hW10
        have sub13 : ∀ p ∈ led, p ∈ (C3, oC3) :: (D3, LCg.lst ys3) :: led3 := fun p hp => List.mem_cons_of_mem _ (List.mem_cons_of_mem _ (sub12 p hp))
        have hWd12 := hWd10.mono sub13 fun v t h => h.mono sub13
        refine wpAny_tests_one ?_
        iterate 5 walk1
        refine dct_item N12 hWd12 htm ?_
        intro v13 tk13 hv13
        obtain ⟨l13, vs13, n13, rfl, hm13, hs13⟩ := hv13
        refine notin_list_strs ⟨_, (N12 _ hm13).1, rfl, _, rfl⟩ hs13 ?_
        iterate 1 walk1
        have hf := take_filter (fun w => !((wds t).any (· == w))) ht3
        cases hb : (wds t).any (· == t3) with
        | true =>
          refine hQt2 _ _ ?_
          refine ite_no (by first | rfl | (rw [hb]; rfl)) ?_
          refine cend_mk F12 N12 ((C, oC) :: (D2, LCg.lst ys0) :: led) (fun p hp => hled3 ▸ hp) hoff3 ⟨rfl, ?_⟩
          rw [hf, if_neg (by simp [hb]), List.append_nil]
          exact hys3
        | false =>
          refine hQt2 _ _ ?_
          refine ite_yes (by first | rfl | (rw [hb]; rfl)) ?_
          iterate 1 walk1
          refine cend_mk F12 N12 ((C, oC) :: (D2, LCg.lst ys0) :: led) (fun p hp => hled3 ▸ hp) hoff3 ⟨rfl, ?_⟩
          rw [hf, if_pos (by simp [hb])]
          exact strs_snoc2 hys3 _ _
      · intro D3 h12 tk12 ys3 nw F12 N12 hoff3 hJr
        obtain ⟨hnw, hys3⟩ := hJr
        subst hnw
        rw [List.size_toArray, hs9.length, List.take_length] at hys3
        refine hQh2 _ _ ?_
        clear hQh2 Qh2
        (try dsimp only)
        iterate 3 walk1
        rename_i F14 N14 l14
        refine' eq_nil N14 (List.mem_cons_of_mem _ List.mem_cons_self) List.mem_cons_self ?uu ?_
        case uu => first | ktr_units | units_room | ke_room
        iterate 1 walk1
        have hf := take_filter (fun one => (wds one).all fun w => (wds t).any (· == w)) ht2
        cases hb : ys3.isEmpty with
        | true =>
          have hall : ((wds t2).all fun w => (wds t).any (· == w)) = true := by
            rw [strs_empty hys3] at hb
            exact filter_nil_all.mp (List.isEmpty_iff.mp hb)
          refine hQt1 _ _ ?_
          refine ite_yes (by first | rfl | exact hb) ?_
          iterate 1 walk1
          refine cend_mk F14 N14 _ (fun p hp => List.mem_cons_of_mem _ (List.mem_cons_of_mem _ (hled ▸ hp))) hoff2 ⟨rfl, ?_⟩
          rw [hf, if_pos hall]
          exact strs_snoc2 hys _ _
        | false =>
          have hall : ¬ ((wds t2).all fun w => (wds t).any (· == w)) = true := by
            intro h
            rw [strs_empty hys3, filter_nil_all.mpr h] at hb
            cases hb
          refine hQt1 _ _ ?_
          refine ite_no (by first | rfl | exact hb) ?_
          refine cend_mk F14 N14 _ (fun p hp => List.mem_cons_of_mem _ (List.mem_cons_of_mem _ (hled ▸ hp))) hoff2 ⟨rfl, ?_⟩
          rw [hf, if_neg hall, List.append_nil]
          exact hys
    · intro D4 h15 tk15 ys4 nw F15 N15 hoff4 hJr
      obtain ⟨hnw, hys4⟩ := hJr
      subst hnw
      rw [List.take_length] at hys4
      refine hQh1 _ _ ?_
      clear hQh1 Qh1
      (try dsimp only)
      iterate 6 walk1
      refine wpQ ?_
      intro Qh3 hQh3
      refine eval_list (by with_unfolding_all rfl) rfl (by decide) ?_
      iterate 1 walk1
      refine src_list rfl F15 N15 (.inr ⟨_, List.mem_cons_self, rfl, _, rfl⟩) fun I5 St5 s₂ hs₂ X16 => ?_
      obtain ⟨h16, rfl⟩ := hs₂
      have htb : t ∈ belowT ts wds t := List.mem_filter.mpr ⟨List.mem_of_getElem? hti, by rw [List.all_eq_true]; intro x hx; rw [List.any_eq_true]; exact ⟨x, hx, by simp⟩⟩
      have hbl : ys4.length = (belowT ts wds t).length := hys4.length
      have hbl8 : (belowT ts wds t).length ≤ 8 := Nat.le_trans (List.length_filter_le _ _) hlen
      refine' after_list (X16 _ _) ?sz3
        (fun i ys nw => nw = (D4, LCg.lst ys4) :: (D, od1) :: (L' + 1 + 1 + 1, ot2) :: (L' + 1 + 1, ow) :: (L' + 1, os) :: rest ∧ Each (IsRow news) ys (((belowT ts wds t).take i).map rd))
        ?hS3 (fun i m₂ => ∃ t2 tk, (belowT ts wds t)[i]? = some t2 ∧ m₂ "one" = some (.str t2 tk)) ?c13 rfl ?asg3 ⟨rfl, ?_⟩ ?_ ?_
      case sz3 => rw [sizeLine_eq, List.size_toArray, hbl]; exact Nat.le_trans hbl8 (by decide)
      case hS3 => intro i ys nw hJ; rw [hJ.1]; exact .inr ⟨_, List.mem_cons_self, rfl, _, rfl⟩
      case c13 => decide
      case asg3 =>
        refine asg_name ?_ ?_ ?_
        · rfl
        · rfl
        · intro i v m₂ hP hm
          obtain ⟨x, tk, rfl, h1⟩ := hys4.item i v (by simpa using hP)
          exact ⟨x, tk, h1, hm⟩
      · exact ⟨rfl, fun i v d a b => by simp at a⟩
      · intro i5 C5 D5 oC5 m₅ ys5 nw own5 h17 tk17 E5 hi5 hBt hJt hoC5 F17 N17 hown5 hoff5 hCw5 hDw5 hCD5
        refine wpAny_tests_nil ?_
        refine ite_yes rfl ?_
        refine wpQ ?_
        intro Qt3 hQt3
        obtain ⟨t5, tt5, ht5, hm5⟩ := hBt
        obtain ⟨hnw, hys5⟩ := hJt
        subst hnw
        have sub17 : ∀ p ∈ news, p ∈ (C5, oC5) :: (D5, LCg.lst ys5) :: (own5 ++ (D4, LCg.lst ys4) :: (D, od1) :: (L' + 1 + 1 + 1, ot2) :: (L' + 1 + 1, ow) :: (L' + 1, os) :: rest) := fun p hp => List.mem_cons_of_mem _ (List.mem_cons_of_mem _ (List.mem_append_right _ (List.mem_cons_of_mem _ (List.mem_cons_of_mem _ (List.mem_cons_of_mem _ (List.mem_cons_of_mem _ (List.mem_cons_of_mem _ (sub7 p hp))))))))
        have hs17 : (L' + 1, os) ∈ own5 ++ (D4, LCg.lst ys4) :: (D, od1) :: (L' + 1 + 1 + 1, ot2) :: (L' + 1 + 1, ow) :: (L' + 1, os) :: rest := List.mem_append_right _ (List.mem_cons_of_mem _ (List.mem_cons_of_mem _ (List.mem_cons_of_mem _ (List.mem_cons_of_mem _ List.mem_cons_self))))
        have hS17 := hS.mono sub17 fun v t h => h
        revert N17 hs17 hS17 sub17
        generalize hled5 : own5 ++ (D4, LCg.lst ys4) :: (D, od1) :: (L' + 1 + 1 + 1, ot2) :: (L' + 1 + 1, ow) :: (L' + 1, os) :: rest = led5
        revert led5
        refine hold ?_
        intro led5 hled5 N17 sub17 hs17 hS17
        iterate 3 walk1
        refine dct_item N17 hS17 (List.mem_filter.mp (List.mem_of_getElem? ht5)).1 ?_
        intro v18 tk18 hv18
        refine hQt3 _ _ ?_
        refine cend_mk F17 N17 _ (fun p hp => hled5 ▸ hp) hoff5 ⟨rfl, ?_⟩
        rw [List.take_add_one, ht5, List.map_append]
        exact each_snoc hys5 hv18
      · intro D5 h17 tk17 ys5 nw F17 N17 hoff5 hJr
        obtain ⟨hnw, hys5⟩ := hJr
        subst hnw
        have hsz5 : ys4.toArray.size = (belowT ts wds t).length := by rw [List.size_toArray, hbl]
        rw [hsz5, List.take_length] at hys5
        refine hQh3 _ _ ?_
        clear hQh3 Qh3
        (try dsimp only)
        iterate 6 walk1
        have sub18 : ∀ p ∈ news, p ∈ (D5, LCg.lst ys5) :: (D4, LCg.lst ys4) :: (D, od1) :: (L' + 1 + 1 + 1, ot2) :: (L' + 1 + 1, ow) :: (L' + 1, os) :: rest := fun p hp => List.mem_cons_of_mem _ (List.mem_cons_of_mem _ (List.mem_cons_of_mem _ (List.mem_cons_of_mem _ (List.mem_cons_of_mem _ (List.mem_cons_of_mem _ (sub7 p hp))))))
        have hj18 := hj.mono sub18
        obtain ⟨t0, bt, hbt⟩ : ∃ t0 bt, belowT ts wds t = t0 :: bt := by
          cases hc : belowT ts wds t with
          | nil => rw [hc] at htb; cases htb
          | cons a b => exact ⟨a, b, rfl⟩
        rw [hbt] at hys5
        k_dflt (refine' best_k (R := fun v r => IsRow news v r) (r0 := rd t0) (rs := bt.map rd) ?kB ?kF ?kX ?kN ?kT ?kk ?kd ?ku ?kR ?kl ?ke hj18 hks ?_; (case kB => k_asm); (case kF => k_asm); (case kX => k_asm); (case kN => k_asm); (case kT => k_asm); (case kk => exact rfl); (case kd => ktr_room); (case ku => ktr_units); (case kl => exact List.mem_cons_self); (case kR => exact fun v r h => h.mono sub18); (case ke => exact hys5))
        intro v19 h19 tk19 hv19 F19 N19
        have hw1 : wt1 ks ts rd wds t = pick ks 1 (rd t0) (rd t0 :: bt.map rd) := by rw [wt1, hbt]; rfl
        rw [← hw1] at hv19
        have hD4 := neN (hoff4 (D, od1) List.mem_cons_self)
        have hD5 := neN (hoff5 (D, od1) (List.mem_cons_of_mem _ List.mem_cons_self))
        have hkl : kvs.length ≤ sizeLine := by
          have := congrArg List.length hp1.1
          rw [List.length_map, List.length_take] at this
          rw [sizeLine_eq]
          omega
        iterate 2 walk1
        k_dflt (refine' kda_set (knd := PySem.strKind PySem.Challenge.rw_wf0029_01.row.prog w) ?F ?N ?U hd1 (strKind_is _ _ _ _) hkl ?_; (case F => k_asm); (case N => k_asm); (case U => k_updF))
        intro h20 od2 F20 N20 hd20
        k_steps
        have hti' : t ∉ ts.take i := by
          intro hm
          obtain ⟨q, hq⟩ := List.getElem?_of_mem hm
          have hq1 : q < i := by
            have := (List.getElem?_eq_some_iff.mp hq).1
            rw [List.length_take] at this
            omega
          rw [List.getElem?_take_of_lt hq1] at hq
          exact absurd ((List.getElem?_inj (by omega) hnd).mp (hq.trans hti.symm)) (by omega)
        have hput := hp1.put (v := v19) hti' hv19
        rw [show ts.take i ++ [t] = ts.take (i + 1) by rw [List.take_add_one, hti]; rfl] at hput
        subst hrest
        refine hQt _ _ ?_
        refine ⟨_, _, _, (D, od2) :: (L' + 1 + 1 + 1, ot2) :: (L' + 1 + 1, ow) :: (L' + 1, os) :: news, rfl, F20, news_out4 (N_tail (N_tail N20)), ?_, od2, ot2, _, _, rfl, hd20, hput, hc8, junk_one⟩
        · intro p hp
          rcases List.mem_cons.mp hp with rfl | hp
          · exact hoff (D, od1) List.mem_cons_self
          · rcases List.mem_cons.mp hp with rfl | hp
            · exact hoff (L' + 1 + 1 + 1, ot1) (List.mem_cons_of_mem _ List.mem_cons_self)
            · exact hoff p (List.mem_cons_of_mem _ (List.mem_cons_of_mem _ hp))
  · intro m1 nw h7 tk7 hB F7 N7
    refine hideG ?_
    intro G hG
    obtain ⟨od1, ot1, kvs, c, rfl, hd1, hp1, hc1, u, rfl⟩ := hB
    refine hG ?_
    clear hG G
    rw [List.take_length] at hp1
    k_steps
    rename_i kF kN Tc kX
    exact hret D od1 _ _ (allLt_mem l2.2.2.2) ⟨od1, kvs, List.mem_cons_self, hd1, lo, hnd, hp1⟩ kF (N_drop3 kN)
end
end Mine

-- Cbys
open PySem PySem.W PyProof.Rows PySem.Spec PySem.Calls
set_option maxRecDepth 100000
set_option maxHeartbeats 8000000
namespace Mine
theorem fresh_Cbys : True := by
  w_top off
  exact trivial

theorem N_drop5 {g h : Heap} {L : Addr} {x a b c d e : Addr × Obj} {news : List (Addr × Obj)} (N : News g L h (x :: a :: b :: c :: d :: e :: news)) : News g L h (x :: news) := fun p hp => N p (by
  rcases List.mem_cons.mp hp with h | h
  · rw [h]; exact List.mem_cons_self
  · exact List.mem_cons_of_mem _ (List.mem_cons_of_mem _ (List.mem_cons_of_mem _ (List.mem_cons_of_mem _ (List.mem_cons_of_mem _ (List.mem_cons_of_mem _ h))))))
noncomputable def bestL (ks : List (Int × Int)) (side : Int) (l : List RowD) : RowD := match l with
  | [] => ⟨0, 0, 0⟩
  | r :: rs => pick ks side r (r :: rs)
theorem junk_two {x y : Str} {v v' : Option Value} {u m₀ : Str → Option Value} : Junk [x, y] m₀ (fun z => if z = y then v else if z = x then v' else if [x, y].contains z = true then u z else m₀ z) := Junk.intro (by
  intro z hz
  simp at hz
  simp [hz])
noncomputable def innT (ks : List (Int × Int)) (hr wt : Str → RowD) (wds : Str → List Str) (t : Str) : RowD := pick ks (-1) (wt t) (wt t :: (wds t).map hr)
noncomputable def outT (ks : List (Int × Int)) (ns : List Str) (hr wt : Str → RowD) (wds : Str → List Str) (t : Str) : RowD := pick ks 1 (wt t) (wt t :: (ns.filter fun w => !((wds t).any (· == w))).map hr)

section
variable {w : World} {p : Program} {loose : List Str} {mean : ExcName → Option Value} {mg mb : Str → Option Value}
   {dp un : Nat} {gd : Option (List Code)} {cn : Str} {cs : Scope} {a : Addr} {ccd : Value} {cl : List (Str × Addr)} {outer : List Env} {A₀ : Around} {base h₀ : Heap} {L : Addr} {m : Str → Option Value} {news : List (Addr × Obj)} {s : Shared} {Q E : Value → Shared → Prop}
   (B : Below A₀ base outer h₀) (F : Fr h₀ L s.heap m) (X : (Mine.hd.heap_1 w.params).In h₀) (N : News h₀ L s.heap news) (T : Top p loose mean mg mb h₀) (hk : cs.kind = .function)
include B F X N T hk

local macro_rules | `(tactic| k_room) => `(tactic| ktr_room)
local macro_rules | `(tactic| k_units) => `(tactic| ktr_units)
local macro_rules | `(tactic| k_mem) => `(tactic| first | with_reducible assumption | assumption)
local macro_rules | `(tactic| k_all) => `(tactic| first | with_reducible assumption | exact allLt_ne (by first | assumption | exact And.right (by assumption)))
set_option hygiene false in
theorem bysets_k (hd : dp + 8 < recursionLimit) (hu : un + 48 < cLine) {hdd wtd wd : Addr} {jv : Value} {ks : List (Int × Int)} {ns ts : List Str} {hr wt : Str → RowD} {wds : Str → List Str}
   (hj : IsJudge news jv ks) (hks : okKeys ks) (hH : IsDct PySem.Challenge.rw_wf0029_01.row.prog w news hdd ns (fun v t => IsRow news v (hr t))) (hS : IsDct PySem.Challenge.rw_wf0029_01.row.prog w news wtd ts (fun v t => IsRow news v (wt t))) (hW : IsDct PySem.Challenge.rw_wf0029_01.row.prog w news wd ts (fun v t => IsStrs news v (wds t)))
   (hlen : ts.length ≤ 8) (hwl : ∀ t, (wds t).length ≤ 8) (hnl : ns.length ≤ 8) (hwn : ∀ t, ∀ x ∈ wds t, x ∈ ns) (hne : ts ≠ [])
   (hret : ∀ D v1 v2 n h' tk', AllLt D news → IsRow news v1 (bestL ks 1 (ts.map (innT ks hr wt wds))) → IsRow news v2 (bestL ks (-1) (ts.map (outT ks ns hr wt wds))) → Fr h₀ L h' m → News h₀ L h' ((D, lstO [v1, v2] n) :: news) → Q (.ref D) { s with heap := h', toks := tk' }) :
   wpAny (model PySem.Challenge.rw_wf0029_01.row.prog w) (ktrTop dp un gd cn cs L a ccd cl outer) (call (.ref 115) [.ref hdd, .ref wtd, .ref wd, jv]) Q E s := by
  revert X; k_fill; intro X
  have hnd : ts.Nodup := by obtain ⟨_, _, _, _, _, h, _⟩ := hS; exact h
  refine wpAny_noRaise ?_
  refine wpAny_call ?_
  k_dflt (refine' code_defC ?k1 ?k2 ?k3 ?k4 ?k5 ?kA ?kF ?kK ?k6 ?k7 ?k8 ?k9 ?kB ?kD ?_ ?c2 ?c3 ?c4; (case kA => exact rfl); (case kF => exact rfl); (case kK => assumption); (case k1 => k_asm); (case k2 => k_asm); (case k3 => k_asm); (case k4 => k_asm); (case k5 => k_asm); (case k6 => k_is); (case k7 => k_is); (case k8 => ktr_room); (case k9 => first | exact BindsTo.of_eq rfl | exact binds_K (by k_in) rfl (by k_is) rfl rfl rfl); (case kB => exact rfl); (case kD => decide +kernel); (case c2 => exact rfl); (case c3 => exact rfl); (case c4 => exact rfl); k_whole; intro g' L' h' tk' cells' FG' F' N' Y' B' X' T' l1; (try k_lt l1); k_cells Y'; (try simp only [List.cons_append, List.nil_append] at N'); (try dsimp only); (try k_lift B'); (try k_fold))
  (with_reducible rename Fr _ _ _ _ => FE)
  refine letF FE ?_
  clear FE
  intro mE FE
  iterate 23 walk1
  refine wpAny_noRaise (wpAny_For ?_ ?hs)
  case hs => intro _; rfl
  iterate 1 walk1
  rename_i ot ow oh e1 e2 e3 Di _ l2 Do _ l3 _ _ l4 _ _ h5 F5 N5
  have e1 : ot.data = .cell none := e1
  have e2 : ow.data = .cell (some (.ref wd)) := e2
  have e3 : oh.data = .cell (some (.ref hdd)) := e3
  have N5 := N_tail N5
  have sub5 : ∀ p ∈ news, p ∈ (Do, lstO [] 0) :: (Di, lstO [] 0) :: (L' + 1 + 1 + 1, ot) :: (L' + 1 + 1, ow) :: (L' + 1, oh) :: news := fun p hp => List.mem_cons_of_mem _ (List.mem_cons_of_mem _ (List.mem_cons_of_mem _ (List.mem_cons_of_mem _ (List.mem_cons_of_mem _ (hp)))))
  revert F5
  suffices key : ∀ M : Str → Option Value, M "judge" = some jv → M "weights" = some (.ref wtd) → M "inner" = some (.ref Di) → M "outer" = some (.ref Do) → Fr g' L' h5 M → _ from key _ rfl rfl rfl rfl
  intro M hM1 hM2 hM3 hM4 F5
  refine src_dct rfl F5 N5 hS sub5 fun so I St s₂ hso hs₂ X5 => ?_
  refine hideG ?_
  intro G hG
  obtain ⟨h6, rfl⟩ := hs₂
  refine hG ?_
  clear hG G
  have X6 := X5 "text" ⟨0, 0, 0, 0⟩
  refine for_gen (X5 _ _).W X6.keep (fun i m1 nw => ∃ vi vo ki ko ot c, nw = (Do, lstO vo ko) :: (Di, lstO vi ki) :: (L' + 1 + 1 + 1, ot) :: (L' + 1 + 1, ow) :: (L' + 1, oh) :: news ∧ Each (IsRow news) vi ((ts.take i).map (innT ks hr wt wds)) ∧ Each (IsRow news) vo ((ts.take i).map (outT ks ns hr wt wds)) ∧ ot.data = .cell c ∧
    Junk ["within", "without"] (fun z => if z = "judge" then some jv else if z = "weights" then some (.ref wtd) else if z = "inner" then some (.ref Di) else if z = "outer" then some (.ref Do) else M z) m1) (fun i m1 nw hJ => by obtain ⟨_, _, _, _, _, _, rfl, _⟩ := hJ; exact List.mem_cons_of_mem _ (List.mem_cons_of_mem _ (List.mem_cons_of_mem _ (List.mem_cons_of_mem _ (List.mem_cons_of_mem _ (hso)))))) X6.Lw X6.w0 X6.off X6.st X6.F X6.N ?_ ?_ ?_
  · refine ⟨[], [], 0, 0, ot, none, rfl, .nil, .nil, e1, Junk.intro fun z _ => ?_⟩
    (repeat' split) <;> (try rfl) <;> (rename_i h; subst h; first | exact hM1 | exact hM2 | exact hM3 | exact hM4)
  · intro i v m1 nw own h7 tk7 hi hA hB F7 N7 hown hoff
    refine wpQ ?_
    intro Qa hQa
    obtain ⟨t, tt, hti, rfl⟩ := hA
    obtain ⟨vi, vo, ki, ko, ot1, c, rfl, hvi, hvo, hc1, u, rfl⟩ := hB
    refine letF F7 ?_
    clear F7
    intro mF F7
    have N7 := news_in5 N7
    have sub7 : ∀ p ∈ news, p ∈ own ++ news := fun p hp => List.mem_append_right _ hp
    have offO : ∀ p ∈ own ++ news, p.1 ≠ Do := by
      intro p hp
      rcases List.mem_append.mp hp with hp | hp
      · exact fun e => (hoff (Do, lstO vo ko) List.mem_cons_self) (e ▸ hown p hp)
      · exact allLt_ne l3.2.2.2.2 p hp
    have offI : ∀ p ∈ own ++ news, p.1 ≠ Di := by
      intro p hp
      rcases List.mem_append.mp hp with hp | hp
      · exact fun e => (hoff (Di, lstO vi ki) (List.mem_cons_of_mem _ List.mem_cons_self)) (e ▸ hown p hp)
      · exact allLt_ne l2.2.2.2 p hp
    have offT : ∀ p ∈ own ++ news, p.1 ≠ L' + 1 + 1 + 1 := by
      intro p hp
      rcases List.mem_append.mp hp with hp | hp
      · exact fun e => (hoff (L' + 1 + 1 + 1, ot1) (List.mem_cons_of_mem _ (List.mem_cons_of_mem _ List.mem_cons_self))) (e ▸ hown p hp)
      · exact fun e => absurd (l1 p hp) (by rw [e]; exact fun q => absurd (ltN q) (by omega))
    revert N7 sub7 offO offI offT
    generalize hrest : own ++ news = rest
    revert rest
    refine hold ?_
    intro rest hrest N7 sub7 offO offI offT
    have htm : t ∈ ts := List.mem_of_getElem? hti
    iterate 2 walk1
    refine hQa _ _ ?_
    clear hQa Qa
    dsimp only
    refine wpQ ?_
    intro Qt hQt
    iterate 1 walk1
    rename_i h8 ot2 F8 N8 hc8
    refine wpQ ?_
    intro Qh1 hQh1
    refine exec_list (by with_unfolding_all rfl) (by with_unfolding_all rfl) rfl (by decide) ?_
    iterate 3 walk1
    refine dct_item2 N8 hW (fun p hp => List.mem_cons_of_mem _ (List.mem_cons_of_mem _ (List.mem_cons_of_mem _ (List.mem_cons_of_mem _ (List.mem_cons_of_mem _ (sub7 p hp)))))) htm ?_
    intro v9 tk9 hv9
    refine hideG ?_
    intro G hG
    obtain ⟨l9, vs9, n9, rfl, hm9, hs9⟩ := hv9
    refine hG ?_
    clear hG G
    have hm9' : (l9, lstO vs9 n9) ∈ (Do, lstO vo ko) :: (Di, lstO vi ki) :: (L' + 1 + 1 + 1, ot2) :: (L' + 1 + 1, ow) :: (L' + 1, oh) :: rest := (fun p hp => List.mem_cons_of_mem _ (List.mem_cons_of_mem _ (List.mem_cons_of_mem _ (List.mem_cons_of_mem _ (List.mem_cons_of_mem _ (sub7 p hp)))))) _ hm9
    refine src_list rfl F8 N8 (.inr ⟨_, hm9', rfl, _, rfl⟩) fun I3 St3 s₂ hs₂ X9 => ?_
    refine hideG ?_
    intro G hG
    obtain ⟨h9, rfl⟩ := hs₂
    refine hG ?_
    clear hG G
    refine' after_list_as rfl (X9 _ _) ?sz rfl rfl
      (fun i ys nw => nw = (Do, lstO vo ko) :: (Di, lstO vi ki) :: (L' + 1 + 1 + 1, ot2) :: (L' + 1 + 1, ow) :: (L' + 1, oh) :: rest ∧ Each (IsRow news) ys (((wds t).take i).map hr))
      ?hS (fun i m₂ => ∃ t2 tk, (wds t)[i]? = some t2 ∧ m₂ "word" = some (.str t2 tk)) ?c1 rfl ?asg ⟨rfl, .nil⟩ ?_ ?_
    case sz => rw [sizeLine_eq, List.size_toArray, hs9.length]; exact Nat.le_trans (hwl t) (by decide)
    case hS => intro i ys nw hJ; rw [hJ.1]; exact .inr ⟨_, hm9', rfl, _, rfl⟩
    case c1 => decide
    case asg =>
      refine asg_name ?_ ?_ ?_
      · rfl
      · rfl
      · intro i v m₂ hP hm
        refine hideG ?_
        intro G hG
        obtain ⟨x, tk, rfl, h1⟩ := hs9.item i v (by simpa using hP)
        refine hG ?_
        clear hG G
        exact ⟨x, tk, h1, hm⟩
    · intro i5 C5 D5 oC5 m₅ ys5 nw own5 h17 tk17 E5 hi5 hBt hJt hoC5 F17 N17 hown5 hoff5 hCw5 hDw5 hCD5
      refine wpAny_tests_nil ?_
      refine ite_yes rfl ?_
      refine wpQ ?_
      intro Qt1 hQt1
      obtain ⟨t5, tt5, ht5, hm5⟩ := hBt
      obtain ⟨hnw, hys5⟩ := hJt
      subst hnw
      have sub17 : ∀ p ∈ news, p ∈ own5 ++ (Do, lstO vo ko) :: (Di, lstO vi ki) :: (L' + 1 + 1 + 1, ot2) :: (L' + 1 + 1, ow) :: (L' + 1, oh) :: rest := fun p hp => List.mem_append_right _ ((fun p hp => List.mem_cons_of_mem _ (List.mem_cons_of_mem _ (List.mem_cons_of_mem _ (List.mem_cons_of_mem _ (List.mem_cons_of_mem _ (sub7 p hp)))))) p hp)
      have hs17 : (L' + 1, oh) ∈ own5 ++ (Do, lstO vo ko) :: (Di, lstO vi ki) :: (L' + 1 + 1 + 1, ot2) :: (L' + 1 + 1, ow) :: (L' + 1, oh) :: rest := List.mem_append_right _ (List.mem_cons_of_mem _ (List.mem_cons_of_mem _ (List.mem_cons_of_mem _ (List.mem_cons_of_mem _ (List.mem_cons_self)))))
      revert N17 sub17 hs17
      generalize hled5 : own5 ++ (Do, lstO vo ko) :: (Di, lstO vi ki) :: (L' + 1 + 1 + 1, ot2) :: (L' + 1 + 1, ow) :: (L' + 1, oh) :: rest = led5
      revert led5
      refine hold ?_
      intro led5 hled5 N17 sub17 hs17
      iterate 3 walk1
      refine dct_item2 N17 hH (fun p hp => List.mem_cons_of_mem _ (List.mem_cons_of_mem _ (sub17 p hp))) (hwn t _ (List.mem_of_getElem? ht5)) ?_
      intro v18 tk18 hv18
      refine hQt1 _ _ ?_
      refine cend_mk F17 N17 _ (fun p hp => hled5 ▸ hp) hoff5 ⟨rfl, ?_⟩
      rw [List.take_add_one, ht5, List.map_append]
      exact each_snoc hys5 hv18
    · intro D4 h15 tk15 ys4 nw F15 N15 hoff4 hJr
      obtain ⟨hnw, hys4⟩ := hJr
      subst hnw
      rw [List.size_toArray, hs9.length, List.take_length] at hys4
      refine hQh1 _ _ ?_
      clear hQh1 Qh1
      (try dsimp only)
      iterate 1 walk1
      refine wpQ ?_
      intro Qh2 hQh2
      refine exec_list (by with_unfolding_all rfl) (by with_unfolding_all rfl) rfl (by decide) ?_
      iterate 1 walk1
      refine src_dct rfl F15 N15 hH (fun p hp => List.mem_cons_of_mem _ (List.mem_cons_of_mem _ (List.mem_cons_of_mem _ (List.mem_cons_of_mem _ (List.mem_cons_of_mem _ (List.mem_cons_of_mem _ (sub7 p hp))))))) fun so2 I2 St2 s₂ hso2 hs₂ X16 => ?_
      refine hideG ?_
      intro G hG
      obtain ⟨h16, rfl⟩ := hs₂
      refine hG ?_
      clear hG G
      refine' after_list_as rfl (X16 _ _) ?sz2 rfl rfl
        (fun i ys nw => nw = (D4, LCg.lst ys4) :: (Do, lstO vo ko) :: (Di, lstO vi ki) :: (L' + 1 + 1 + 1, ot2) :: (L' + 1 + 1, ow) :: (L' + 1, oh) :: rest ∧ Each (IsRow news) ys (((ns.take i).filter fun w => !((wds t).any (· == w))).map hr))
        ?hS2 (fun i m₂ => ∃ t2 tk, ns[i]? = some t2 ∧ m₂ "word" = some (.str t2 tk)) ?c12 rfl ?asg2 ⟨rfl, .nil⟩ ?_ ?_
      case sz2 => rw [sizeLine_eq]; exact Nat.le_trans hnl (by decide)
      case hS2 => intro i ys nw hJ; rw [hJ.1]; exact (fun p hp => List.mem_cons_of_mem _ (List.mem_cons_of_mem _ (List.mem_cons_of_mem _ (List.mem_cons_of_mem _ (List.mem_cons_of_mem _ (List.mem_cons_of_mem _ (sub7 p hp))))))) _ hso2
      case c12 => decide
      case asg2 =>
        refine asg_name ?_ ?_ ?_
        · rfl
        · rfl
        · intro i v m₂ hP hm
          refine hideG ?_
          intro G hG
          obtain ⟨t, tk, h1, rfl⟩ := hP
          refine hG ?_
          clear hG G
          exact ⟨t, tk, h1, hm⟩
      · intro i5 C5 D5 oC5 m₅ ys5 nw own5 h17 tk17 E5 hi5 hBt hJt hoC5 F17 N17 hown5 hoff5 hCw5 hDw5 hCD5
        refine wpQ ?_
        intro Qt2 hQt2
        obtain ⟨t5, tt5, ht5, hm5⟩ := hBt
        obtain ⟨hnw, hys5⟩ := hJt
        subst hnw
        have sub17 : ∀ p ∈ news, p ∈ own5 ++ (D4, LCg.lst ys4) :: (Do, lstO vo ko) :: (Di, lstO vi ki) :: (L' + 1 + 1 + 1, ot2) :: (L' + 1 + 1, ow) :: (L' + 1, oh) :: rest := fun p hp => List.mem_append_right _ ((fun p hp => List.mem_cons_of_mem _ (List.mem_cons_of_mem _ (List.mem_cons_of_mem _ (List.mem_cons_of_mem _ (List.mem_cons_of_mem _ (List.mem_cons_of_mem _ (sub7 p hp))))))) p hp)
        have hs17 : (L' + 1, oh) ∈ own5 ++ (D4, LCg.lst ys4) :: (Do, lstO vo ko) :: (Di, lstO vi ki) :: (L' + 1 + 1 + 1, ot2) :: (L' + 1 + 1, ow) :: (L' + 1, oh) :: rest := List.mem_append_right _ (List.mem_cons_of_mem _ (List.mem_cons_of_mem _ (List.mem_cons_of_mem _ (List.mem_cons_of_mem _ (List.mem_cons_of_mem _ (List.mem_cons_self))))))
        have hw17 : (L' + 1 + 1, ow) ∈ own5 ++ (D4, LCg.lst ys4) :: (Do, lstO vo ko) :: (Di, lstO vi ki) :: (L' + 1 + 1 + 1, ot2) :: (L' + 1 + 1, ow) :: (L' + 1, oh) :: rest := List.mem_append_right _ (List.mem_cons_of_mem _ (List.mem_cons_of_mem _ (List.mem_cons_of_mem _ (List.mem_cons_of_mem _ (List.mem_cons_self)))))
        have ht17 : (L' + 1 + 1 + 1, ot2) ∈ own5 ++ (D4, LCg.lst ys4) :: (Do, lstO vo ko) :: (Di, lstO vi ki) :: (L' + 1 + 1 + 1, ot2) :: (L' + 1 + 1, ow) :: (L' + 1, oh) :: rest := List.mem_append_right _ (List.mem_cons_of_mem _ (List.mem_cons_of_mem _ (List.mem_cons_of_mem _ (List.mem_cons_self))))
        revert N17 sub17 hs17 hw17 ht17
        generalize hled5 : own5 ++ (D4, LCg.lst ys4) :: (Do, lstO vo ko) :: (Di, lstO vi ki) :: (L' + 1 + 1 + 1, ot2) :: (L' + 1 + 1, ow) :: (L' + 1, oh) :: rest = led5
        revert led5
        refine hold ?_
        intro led5 hled5 N17 sub17 hs17 hw17 ht17
        refine wpAny_tests_one ?_
        iterate 5 walk1
        refine dct_item2 N17 hW (fun p hp => List.mem_cons_of_mem _ (List.mem_cons_of_mem _ (sub17 p hp))) htm ?_
        intro v13 tk13 hv13
        refine hideG ?_
        intro G hG
        obtain ⟨l13, vs13, n13, rfl, hm13, hs13⟩ := hv13
        refine hG ?_
        clear hG G
        refine notin_list_strs ⟨_, (N17 _ (List.mem_cons_of_mem _ (List.mem_cons_of_mem _ (sub17 _ hm13)))).1, rfl, _, rfl⟩ hs13 ?_
        iterate 1 walk1
        have hf := take_filter (fun w => !((wds t).any (· == w))) ht5
        cases hb : (wds t).any (· == t5) with
        | true =>
          refine hQt2 _ _ ?_
          refine ite_no (by first | rfl | (rw [hb]; rfl)) ?_
          refine cend_mk F17 N17 _ (fun p hp => hled5 ▸ hp) hoff5 ⟨rfl, ?_⟩
          rw [hf, if_neg (by simp [hb]), List.append_nil]
          exact hys5
        | false =>
          refine hQt2 _ _ ?_
          refine ite_yes (by first | rfl | (rw [hb]; rfl)) ?_
          iterate 3 walk1
          refine dct_item2 N17 hH (fun p hp => List.mem_cons_of_mem _ (List.mem_cons_of_mem _ (sub17 p hp))) (List.mem_of_getElem? ht5) ?_
          intro v18 tk18 hv18
          refine cend_mk F17 N17 _ (fun p hp => hled5 ▸ hp) hoff5 ⟨rfl, ?_⟩
          rw [hf, if_pos (by simp [hb]), List.map_append]
          exact each_snoc hys5 hv18
      · intro D6 h17 tk17 ys6 nw F17 N17 hoff6 hJr
        obtain ⟨hnw, hys6⟩ := hJr
        subst hnw
        rw [List.take_length] at hys6
        refine hQh2 _ _ ?_
        clear hQh2 Qh2
        (try dsimp only)
        iterate 17 walk1
        refine dct_item2 N17 hS (fun p hp => List.mem_cons_of_mem _ (List.mem_cons_of_mem _ (List.mem_cons_of_mem _ (List.mem_cons_of_mem _ (List.mem_cons_of_mem _ (List.mem_cons_of_mem _ (List.mem_cons_of_mem _ (sub7 p hp)))))))) htm ?_
        intro v20 tk20 hv20
        iterate 3 walk1
        rename_i l20 h20 F20 N20 l21
        have hwi8 : ys4.length ≤ 8 := by rw [each_len hys4, List.length_map]; exact hwl t
        have hwo8 : ys6.length ≤ 8 := by rw [each_len hys6, List.length_map]; exact Nat.le_trans (List.length_filter_le _ _) hnl
        have hvi8 : vi.length ≤ 1000 := by rw [each_len hvi, List.length_map, List.length_take]; omega
        have hvo8 : vo.length ≤ 1000 := by rw [each_len hvo, List.length_map, List.length_take]; omega
        refine add_lists (vs := [v20]) (ws := ys4) F20 N20 ⟨_, (N20 _ List.mem_cons_self).1, rfl, _, rfl⟩ ⟨_, (N20 _ (List.mem_cons_of_mem _ (List.mem_cons_of_mem _ List.mem_cons_self))).1, rfl, _, rfl⟩ ?_ (by rw [sizeLine_eq]; simp; omega)
        intro h22 F22 N22
        iterate 8 walk1
        have sub22 : ∀ p ∈ news, p ∈ (h20.objs.size, ({ cls := .type "list", data := .seq ([v20] ++ ys4).toArray } : Obj)) :: (l20, W.listOf #[v20] 0) :: (D6, LCg.lst ys6) :: (D4, LCg.lst ys4) :: (Do, lstO vo ko) :: (Di, lstO vi ki) :: (L' + 1 + 1 + 1, ot2) :: (L' + 1 + 1, ow) :: (L' + 1, oh) :: rest := fun p hp => List.mem_cons_of_mem _ (List.mem_cons_of_mem _ (List.mem_cons_of_mem _ (List.mem_cons_of_mem _ (List.mem_cons_of_mem _ (List.mem_cons_of_mem _ (List.mem_cons_of_mem _ (List.mem_cons_of_mem _ (List.mem_cons_of_mem _ (sub7 p hp)))))))))
        k_dflt (refine' best_k (R := fun v r => IsRow news v r) (r0 := wt t) (rs := (wds t).map hr) (vs := [v20] ++ ys4) (n := 0) ?kB ?kF ?kX ?kN ?kT ?kk ?kd ?ku ?kR ?kl ?ke (hj.mono sub22) hks ?_; (case kB => k_asm); (case kF => k_asm); (case kX => k_asm); (case kN => exact N22); (case kT => k_asm); (case kk => exact rfl); (case kd => ktr_room); (case ku => ktr_units); (case kl => exact List.mem_cons_self); (case kR => exact fun v r h => h.mono sub22); (case ke => exact each_cons hys4 hv20))
        intro v23 h23 tk23 hv23 F23 N23
        have N23 := N_tail (N_tail N23)
        have q1 := neN (hoff6 (Di, lstO vi ki) (List.mem_cons_of_mem _ (List.mem_cons_of_mem _ List.mem_cons_self)))
        have q2 := neN (hoff6 (Do, lstO vo ko) (List.mem_cons_of_mem _ List.mem_cons_self))
        have q3 := neN (hoff4 (Di, lstO vi ki) (List.mem_cons_of_mem _ List.mem_cons_self))
        have q4 := neN (hoff4 (Do, lstO vo ko) List.mem_cons_self)
        iterate 1 walk1
        refine' append_lst (xs := vi) (n := ki) ?aF ?aN ?aU hvi8 ?_; (case aF => k_asm); (case aN => exact N23); (case aU => k_upd)
        intro h24 F24 N24
        iterate 18 walk1
        refine dct_item2 N24 hS (fun p hp => List.mem_cons_of_mem _ (List.mem_cons_of_mem _ (List.mem_cons_of_mem _ (List.mem_cons_of_mem _ (List.mem_cons_of_mem _ (List.mem_cons_of_mem _ (List.mem_cons_of_mem _ (sub7 p hp)))))))) htm ?_
        intro v30 tk30 hv30
        iterate 3 walk1
        rename_i l30 h30 F30 N30 l31
        refine add_lists (vs := [v30]) (ws := ys6) F30 N30 ⟨_, (N30 _ List.mem_cons_self).1, rfl, _, rfl⟩ ⟨_, (N30 _ (List.mem_cons_of_mem _ List.mem_cons_self)).1, rfl, _, rfl⟩ ?_ (by rw [sizeLine_eq]; simp; omega)
        intro h32 F32 N32
        iterate 6 walk1
        have sub32 : ∀ p ∈ news, p ∈ (h30.objs.size, ({ cls := .type "list", data := .seq ([v30] ++ ys6).toArray } : Obj)) :: (l30, W.listOf #[v30] 0) :: (D6, LCg.lst ys6) :: (D4, LCg.lst ys4) :: (Do, lstO vo ko) :: (Di, lstO (vi ++ [v23]) (ki + 1)) :: (L' + 1 + 1 + 1, ot2) :: (L' + 1 + 1, ow) :: (L' + 1, oh) :: rest := fun p hp => List.mem_cons_of_mem _ (List.mem_cons_of_mem _ (List.mem_cons_of_mem _ (List.mem_cons_of_mem _ (List.mem_cons_of_mem _ (List.mem_cons_of_mem _ (List.mem_cons_of_mem _ (List.mem_cons_of_mem _ (List.mem_cons_of_mem _ (sub7 p hp)))))))))
        k_dflt (refine' best_k (R := fun v r => IsRow news v r) (r0 := wt t) (rs := (ns.filter fun w => !((wds t).any (· == w))).map hr) (vs := [v30] ++ ys6) (n := 0) ?kB ?kF ?kX ?kN ?kT ?kk ?kd ?ku ?kR ?kl ?ke (hj.mono sub32) hks ?_; (case kB => k_asm); (case kF => k_asm); (case kX => k_asm); (case kN => exact N32); (case kT => k_asm); (case kk => exact rfl); (case kd => ktr_room); (case ku => ktr_units); (case kl => exact List.mem_cons_self); (case kR => exact fun v r h => h.mono sub32); (case ke => exact each_cons hys6 hv30))
        intro v33 h33 tk33 hv33 F33 N33
        have N33 := N_tail (N_tail N33)
        iterate 1 walk1
        refine' append_lst (xs := vo) (n := ko) ?aF ?aN ?aU hvo8 ?_; (case aF => k_asm); (case aN => exact N33); (case aU => k_upd)
        intro h34 F34 N34
        k_steps
        subst hrest
        refine hQt _ _ ?_
        refine ⟨_, _, _, (Do, lstO (vo ++ [v33]) (ko + 1)) :: (Di, lstO (vi ++ [v23]) (ki + 1)) :: (L' + 1 + 1 + 1, ot2) :: (L' + 1 + 1, ow) :: (L' + 1, oh) :: news, rfl, F34, news_out5 (N_tail (N_tail N34)), ?_, vi ++ [v23], vo ++ [v33], _, _, ot2, _, rfl, ?_, ?_, hc8, junk_two⟩
        · intro p hp
          rcases List.mem_cons.mp hp with rfl | hp
          · exact hoff (Do, lstO vo ko) List.mem_cons_self
          · rcases List.mem_cons.mp hp with rfl | hp
            · exact hoff (Di, lstO vi ki) (List.mem_cons_of_mem _ List.mem_cons_self)
            · rcases List.mem_cons.mp hp with rfl | hp
              · exact hoff (L' + 1 + 1 + 1, ot1) (List.mem_cons_of_mem _ (List.mem_cons_of_mem _ List.mem_cons_self))
              · exact hoff p (List.mem_cons_of_mem _ (List.mem_cons_of_mem _ (List.mem_cons_of_mem _ hp)))
        · rw [List.take_add_one, hti, List.map_append]
          exact each_snoc hvi hv23
        · rw [List.take_add_one, hti, List.map_append]
          exact each_snoc hvo hv33
  · rintro m1 nw h7 tk7 ⟨vi, vo, ki, ko, ot1, c, rfl, hvi, hvo, hc1, u, rfl⟩ F7 N7
    refine letF F7 ?_
    clear F7
    intro mF F7
    rw [List.take_length] at hvi hvo
    obtain ⟨t0, tr, rfl⟩ : ∃ t0 tr, ts = t0 :: tr := by
      cases ts with
      | nil => exact absurd rfl hne
      | cons a b => exact ⟨a, b, rfl⟩
    have sub7 : ∀ p ∈ news, p ∈ (Do, lstO vo ko) :: (Di, lstO vi ki) :: (L' + 1 + 1 + 1, ot1) :: (L' + 1 + 1, ow) :: (L' + 1, oh) :: news := fun p hp => List.mem_cons_of_mem _ (List.mem_cons_of_mem _ (List.mem_cons_of_mem _ (List.mem_cons_of_mem _ (List.mem_cons_of_mem _ (hp)))))
    iterate 16 walk1
    k_dflt (refine' best_k (R := fun v r => IsRow news v r) (r0 := (innT ks hr wt wds) t0) (rs := tr.map (innT ks hr wt wds)) (vs := vi) (n := ki) ?kB ?kF ?kX ?kN ?kT ?kk ?kd ?ku ?kR ?kl hvi (hj.mono sub7) hks ?_; (case kB => k_asm); (case kF => k_asm); (case kX => k_asm); (case kN => k_asm); (case kT => k_asm); (case kk => exact rfl); (case kd => ktr_room); (case ku => ktr_units); (case kl => exact List.mem_cons_of_mem _ List.mem_cons_self); (case kR => exact fun v r h => h.mono sub7))
    intro v8 h8 tk8 hv8 F8 N8
    iterate 14 walk1
    k_dflt (refine' best_k (R := fun v r => IsRow news v r) (r0 := (outT ks ns hr wt wds) t0) (rs := tr.map (outT ks ns hr wt wds)) (vs := vo) (n := ko) ?kB ?kF ?kX ?kN ?kT ?kk ?kd ?ku ?kR ?kl hvo (hj.mono sub7) hks ?_; (case kB => k_asm); (case kF => k_asm); (case kX => k_asm); (case kN => k_asm); (case kT => k_asm); (case kk => exact rfl); (case kd => ktr_room); (case ku => ktr_units); (case kl => exact List.mem_cons_self); (case kR => exact fun v r h => h.mono sub7))
    intro v9 h9 tk9 hv9 F9 N9
    k_steps
    rename_i lq kF kN Tc kX
    exact hret _ v8 v9 _ _ _ lq.2.2.2.2.2 hv8 hv9 kF (N_drop5 kN)
end
end Mine

-- Cino
open PySem PySem.W PyProof.Rows PySem.Spec PySem.Calls
set_option maxRecDepth 100000
set_option maxHeartbeats 8000000
namespace Mine
theorem fresh_Cino : True := by
  w_top off
  exact trivial

theorem N_turn {g h : Heap} {L : Addr} {a b d : Addr × Obj} {e2 own ex : List (Addr × Obj)} (N : News g L h (a :: b :: (e2 ++ d :: (own ++ ex)))) : News g L h (own ++ a :: b :: (e2 ++ d :: ex)) := fun q hq => N q (by
  simp only [List.mem_cons, List.mem_append] at hq ⊢
  rcases hq with h | h | h | h | h | h <;> simp [h])
theorem junk_rows {x y r : Str} {v v1 v2 : Option Value} {u m₀ : Str → Option Value} (h : m₀ r = v) : Junk [x, y] m₀ (fun z => if z = r then v else if z = y then v2 else if z = x then v1 else if [x, y].contains z = true then u z else m₀ z) := Junk.intro (by
  intro z hz
  simp at hz
  by_cases e : z = r
  · simp [e, h]
  · simp [e, hz])
theorem N_mid {g h : Heap} {L : Addr} {x1 x2 x3 x4 : Addr × Obj} {news : List (Addr × Obj)} (N : News g L h (x1 :: x2 :: x3 :: x4 :: news)) : News g L h (x3 :: x4 :: (x1 :: news)) := fun q hq => N q (by
  simp only [List.mem_cons] at hq ⊢
  rcases hq with h | h | h | h <;> simp [h])
theorem TabSt.mono {ps : Array Value} {news news' : List (Addr × Obj)} (h : TabSt ps news) (hs : ∀ p ∈ news, p ∈ news') : TabSt ps news' := by
  rcases h with h | ⟨c, oc, vs, t, e, hm, h1, h2⟩
  · exact .inl h
  · exact .inr ⟨c, oc, vs, t, e, hs _ hm, h1, h2⟩
theorem add_tups {prog : Program} {w : World} {A : Around} {E : Value → Shared → Prop} {s : Shared} {h₀ : Heap} {L a b : Addr} {m : Str → Option Value} {news : List (Addr × Obj)} {vs ws : List Value} {n k : Nat} {Q : Value → Shared → Prop}
    (F : Fr h₀ L s.heap m) (N : News h₀ L s.heap news) (hl : (a, tup vs n) ∈ news) (hb : (b, tup ws k) ∈ news) (h1 : vs ≠ []) (h2 : ws ≠ []) (hz : vs.length + ws.length ≤ 1000)
    (h : ∀ D h', (∀ p ∈ news, p.1 < D) → Fr h₀ L h' m → News h₀ L h' ((D, tup (vs ++ ws) 0) :: news) → Q (.ref D) { s with heap := h' }) : wpAny (model prog w) A (binaryOp .Add (.ref a) (.ref b)) Q E s := by
  refine PySem.P.add_tuple (items := vs.toArray) (items2 := ws.toArray) (N _ hl).1 (N _ hb).1 (by simpa using h1) (by simpa using h2) ?_ (by rw [sizeLine_eq]; simp; omega)
  have e : vs.toArray ++ ws.toArray = (vs ++ ws).toArray := by simp
  rw [e]
  exact h _ _ (fun p hp => Heap.lt_size (N p hp).1) (F.push _) (News.push F N _ rfl)
noncomputable abbrev RowM := RowD × Int
noncomputable def IsRowM (news : List (Addr × Obj)) (v : Value) (q : RowM) : Prop := ∃ t, IsRowX news v q.1 [.int q.2 t]
noncomputable def laidP (ks : List (Int × Int)) (P : List RowM) (q : RowM) : List RowM := insL (fun r => cmp ks r q.1) (P.map (·.1)) q.1 P q
theorem IsRowM.mono {news news' : List (Addr × Obj)} {v : Value} {q : RowM} (h : IsRowM news v q) (hs : ∀ p ∈ news, p ∈ news') : IsRowM news' v q := by
  refine hideG ?_
  intro G hG
  obtain ⟨t, h⟩ := h
  refine hG ?_
  clear hG G
  exact ⟨t, h.mono hs⟩
theorem each_fst {news : List (Addr × Obj)} {vs : List Value} {P : List RowM} (h : Each (IsRowM news) vs P) : Each (IsRow news) vs (P.map (·.1)) := by
  refine ⟨by rw [h.1, List.length_map], fun i v d a b => ?_⟩
  rw [List.getElem?_map] at b
  cases hq : P[i]? with
  | none => rw [hq] at b; cases b
  | some q =>
    rw [hq] at b
    cases b
    refine hideG ?_
    intro G hG
    obtain ⟨t, h⟩ := h.2 i v q a hq
    refine hG ?_
    clear hG G
    exact ⟨_, h⟩
theorem insL_len {α : Type} {g : RowD → Int} {rs : List RowD} {r : RowD} {vs : List α} {x : α} : (insL g rs r vs x).length = vs.length + 1 := by
  unfold insL
  rw [List.length_append, List.length_cons, List.length_take, List.length_drop]
  omega
noncomputable def inoAt (ks : List (Int × Int)) (hr : Str → RowD) (low : Nat) (ns : List Str) (i : Nat) : List RowM := (ns.zipIdx.take i).foldl (fun P x => laidP ks P (hr x.1, 1 * 2 ^ (low + x.2))) []
theorem inoAt_succ {ks : List (Int × Int)} {hr : Str → RowD} {low : Nat} {ns : List Str} {i : Nat} {nm : Str} (h : ns[i]? = some nm) : inoAt ks hr low ns (i + 1) = laidP ks (inoAt ks hr low ns i) (hr nm, 1 * 2 ^ (low + i)) := by
  unfold inoAt
  have e : ns.zipIdx[i]? = some (nm, i) := by rw [List.getElem?_zipIdx, h]; simp
  rw [List.take_add_one, e, List.foldl_append]
  rfl
theorem each_insL {α : Type} {R : Value → α → Prop} {g : RowD → Int} {rs : List RowD} {r : RowD} {vs : List Value} {ds : List α} {v : Value} {d : α} (h : Each R vs ds) (hv : R v d) : Each R (insL g rs r vs v) (insL g rs r ds d) := by
  have hl := h.1
  unfold insL
  rw [← hl]
  generalize bisGo (fun i => decide (g (rs.getD i ⟨0, 0, 0⟩) ≤ g r)) vs.length 0 vs.length = k
  refine ⟨by simp [hl], fun i v' d' h1 h2 => ?_⟩
  by_cases c : i < (vs.take k).length
  · have c2 : i < (ds.take k).length := by rw [List.length_take] at c ⊢; omega
    rw [List.getElem?_append_left c] at h1
    rw [List.getElem?_append_left c2] at h2
    have ck : i < k := by rw [List.length_take] at c; omega
    rw [List.getElem?_take_of_lt ck] at h1 h2
    exact h.2 i v' d' h1 h2
  · have hlen : (vs.take k).length = (ds.take k).length := by rw [List.length_take, List.length_take, hl]
    rw [List.getElem?_append_right (by omega)] at h1 h2
    rw [← hlen] at h2
    generalize i - (vs.take k).length = j at h1 h2
    cases j with
    | zero => simp at h1 h2; subst h1; subst h2; exact hv
    | succ j =>
      simp only [List.getElem?_cons_succ, List.getElem?_drop] at h1 h2
      exact h.2 _ v' d' h1 h2
theorem inoAt_len {ks : List (Int × Int)} {hr : Str → RowD} {low : Nat} {ns : List Str} {i : Nat} : (inoAt ks hr low ns i).length = min i ns.length := by
  unfold inoAt
  have key : ∀ (l : List (Str × Nat)) (P : List RowM), (l.foldl (fun P x => laidP ks P (hr x.1, 1 * 2 ^ (low + x.2))) P).length = P.length + l.length := by
    intro l
    induction l with
    | nil => intro P; rfl
    | cons x l ih =>
      intro P
      rw [List.foldl_cons, ih, laidP, insL_len, List.length_cons]
      omega
  rw [key]
  simp

section
variable {w : World} {p : Program} {loose : List Str} {mean : ExcName → Option Value} {mg mb : Str → Option Value}
   {dp un : Nat} {gd : Option (List Code)} {cn : Str} {cs : Scope} {a : Addr} {ccd : Value} {cl : List (Str × Addr)} {outer : List Env} {A₀ : Around} {base h₀ : Heap} {L : Addr} {m : Str → Option Value} {news : List (Addr × Obj)} {ps : Array Value} {s : Shared} {Q E : Value → Shared → Prop}
   (B : Below A₀ base outer h₀) (F : Fr h₀ L s.heap m) (X : (Mine.hd.heap_1 w.params).In h₀) (N : News h₀ L s.heap ((117, tabObj ps) :: news)) (C : CodeHd h₀ 121 117) (T : Top p loose mean mg mb h₀) (hk : cs.kind = .function)
include B F X N T hk C

local macro_rules | `(tactic| k_room) => `(tactic| ktr_room)
local macro_rules | `(tactic| k_units) => `(tactic| ktr_units)
local macro_rules | `(tactic| k_mem) => `(tactic| first | with_reducible assumption | assumption)
local macro_rules | `(tactic| k_all) => `(tactic| first | with_reducible assumption | exact allLt_ne (by first | assumption | exact And.right (by assumption)))
set_option hygiene false in
theorem inorder_k (hd : dp + 24 < recursionLimit) (hu : un + 120 < cLine) {hdd : Addr} {jv : Value} {ks : List (Int × Int)} {ns : List Str} {hr : Str → RowD} {low : Nat} {tl : Tok}
   (hl3 : ∀ q ∈ news, q.1 ≠ 117) (hps : TabSt ps news) (hlow : low < 10)
   (hj : IsJudge news jv ks) (hks : okKeys ks) (hH : IsDct PySem.Challenge.rw_wf0029_01.row.prog w news hdd ns (fun v t => IsRowX news v (hr t) [])) (hnl : ns.length ≤ 3)
   (hret : ∀ l vs n ps' ex h' tk', (117 < l ∧ AllLt l news) → (∀ p ∈ news, p ∈ ex) → (∀ q ∈ ex, q.1 ≠ l ∧ q.1 ≠ 117) → TabSt ps' ex → Each (IsRowM ex) vs (inoAt ks hr low ns ns.length) → Fr h₀ L h' m → News h₀ L h' ((l, lstO vs n) :: (117, tabObj ps') :: ex) → Q (.ref l) { s with heap := h', toks := tk' }) :
   wpAny (model PySem.Challenge.rw_wf0029_01.row.prog w) (ktrTop dp un gd cn cs L a ccd cl outer) (call (.ref 129) [.ref hdd, .int (low : Int) tl, jv]) Q E s := by
  revert X; k_fill; intro X
  refine wpAny_noRaise ?_
  refine wpAny_call ?_
  k_dflt cell_enter
  (with_reducible rename Fr _ _ _ _ => FE)
  refine letF FE ?_
  clear FE
  intro mE FE
  have C' := C.keeps (Fr.keep (by assumption : Fr h₀ _ _ _))
  iterate 8 walk1
  refine wpAny_noRaise (wpAny_For ?_ ?hs)
  case hs => intro _; rfl
  iterate 6 walk1
  rename_i g' L' _ FG' B' X' T' l _ l1 h5 F5 N5
  revert F5
  suffices key : ∀ M : Str → Option Value, M "heights" = some (.ref hdd) → M "low" = some (.int (low : Int) tl) → M "judge" = some jv → M "rows" = some (.ref l) → Fr g' L' h5 M → _ from key _ rfl rfl rfl rfl
  intro M hM1 hM2 hM3 hM4 F5
  refine src_enum_dict rfl F5 N5 hH (fun p hp => List.mem_cons_of_mem _ (List.mem_cons_of_mem _ hp)) fun ho e it St s₂ hho hs₂ X5 => ?_
  refine hideG ?_
  intro G hG
  obtain ⟨h6, rfl⟩ := hs₂
  refine hG ?_
  clear hG G
  have X6 := X5 [] 0 ⟨0, 0, 0, 0⟩
  refine for_gen2 (X5 _ _ _).W X6.keep X6.live (fun i m1 nw => ∃ vs n ps' ex, nw = (l, lstO vs n) :: (117, tabObj ps') :: ex ∧ (∀ p ∈ news, p ∈ ex) ∧ (∀ q ∈ ex, q.1 ≠ l ∧ q.1 ≠ 117) ∧ TabSt ps' ex ∧ Each (IsRowM ex) vs (inoAt ks hr low ns i) ∧
    Junk ["place", "name"] (fun z => if z = "heights" then some (.ref hdd) else if z = "low" then some (.int (low : Int) tl) else if z = "judge" then some jv else if z = "rows" then some (.ref l) else M z) m1)
    (fun i m1 nw hJ => by obtain ⟨_, _, _, _, rfl, hs, _⟩ := hJ; exact List.mem_cons_of_mem _ (List.mem_cons_of_mem _ (hs _ hho))) X6.Lw X6.w0 X6.off X6.st X6.F X6.N ?_ ?_ ?_
  · refine ⟨[], 0, ps, news, rfl, fun p hp => hp, fun q hq => ⟨allLt_ne l1.2 q hq, hl3 q hq⟩, hps, .nil, Junk.intro fun z _ => ?_⟩
    (repeat' split) <;> (try rfl) <;> (rename_i h; subst h; first | exact hM1 | exact hM2 | exact hM3 | exact hM4)
  · intro i v m1 nw own h7 tk7 hi hA hB F7 N7 hown hlive hoff
    refine wpQ ?_
    intro Qa hQa
    obtain ⟨T9, t9, nm, tt, rfl, hti, hT9⟩ := hA
    obtain ⟨vs, n, ps', ex, rfl, hsub, hofe, hps', hvs, u, rfl⟩ := hB
    have N7 := news_in2 N7
    have hnm : nm ∈ ns := List.mem_of_getElem? hti
    refine assign_pair2 rfl F7 N7 hT9 rfl rfl rfl fun h8 tk8 F8 N8 => ?_
    refine letF F8 ?_
    clear F8
    intro mF F8
    refine hQa _ _ ?_
    clear hQa Qa
    dsimp only
    refine wpQ ?_
    intro Qt hQt
    have offl : ∀ p ∈ own ++ ex, p.1 ≠ l := by
      intro p hp
      rcases List.mem_append.mp hp with hp | hp
      · exact fun e => (hoff (l, lstO vs n) List.mem_cons_self) (e ▸ hown p hp)
      · exact (hofe p hp).1
    have off7 : ∀ p ∈ own ++ ex, p.1 ≠ 117 := by
      intro p hp
      rcases List.mem_append.mp hp with hp | hp
      · exact fun e => (hoff (117, tabObj ps') (List.mem_cons_of_mem _ List.mem_cons_self)) (e ▸ hown p hp)
      · exact (hofe p hp).2
    have hsub8 : ∀ p ∈ news, p ∈ own ++ ex := fun p hp => List.mem_append_right _ (hsub p hp)
    have hsube : ∀ p ∈ ex, p ∈ own ++ ex := fun p hp => List.mem_append_right _ hp
    revert N8 offl off7 hsub8 hsube
    generalize hrest : own ++ ex = rest
    revert rest
    refine hold ?_
    intro rest hrest N8 offl off7 hsub8 hsube
    iterate 12 walk1
    refine dct_item2 N8 hH (fun p hp => List.mem_cons_of_mem _ (List.mem_cons_of_mem _ (hsub8 p hp))) hnm ?_
    intro v9 tk9 hv9
    refine hideG ?_
    intro G hG
    obtain ⟨h90, a9, u0, u1, u2, n9, rfl, hm9⟩ := hv9
    refine hG ?_
    clear hG G
    have hm9' := hsub8 _ hm9
    have hi3 : i < 3 := by omega
    k_steps
    rename_i T3 h9 F9 N9 l9
    refine add_tups F9 N9 (List.mem_cons_of_mem _ (List.mem_cons_of_mem _ (List.mem_cons_of_mem _ hm9'))) (List.mem_cons_self (a := (T3, tup [_] 0))) (by simp) (by simp) (by simp) ?_
    intro D h10 lD F10 N10
    iterate 4 walk1
    have e9 : ((low : Int) + (i : Int)).toNat = low + i := rfl
    have N11 := N_mid N10
    have hlD := lD (l, lstO vs n) (List.mem_cons_of_mem _ List.mem_cons_self)
    have h7D := lD (117, tabObj ps') (List.mem_cons_of_mem _ (List.mem_cons_of_mem _ List.mem_cons_self))
    have hlen : vs.length ≤ 1000 := by rw [each_len hvs, inoAt_len]; omega
    refine' laid_k (vs := vs) (nl := n) (ps := ps') (rs := (inoAt ks hr low ns i).map (·.1)) (r := hr nm) ?kB ?kF ?kX N11 ?kC ?kT ?kk ?kd ?ku hlen ?k1 ?k2 ?k3 ?kb hps' ?ke ?kr ?kj hks ?_
    case kB => k_asm
    case kF => k_asm
    case kX => k_asm
    case kT => k_asm
    case kk => exact rfl
    case kC => assumption
    case kd => ktr_room
    case ku => ktr_units
    case k1 => exact Nat.ne_of_gt l1.1
    case k2 =>
      intro q hq
      rcases List.mem_cons.mp hq with rfl | hq
      · exact Nat.ne_of_gt hlD
      · exact offl q hq
    case k3 =>
      intro q hq
      rcases List.mem_cons.mp hq with rfl | hq
      · exact Nat.ne_of_gt h7D
      · exact off7 q hq
    case kb => exact fun p hp => List.mem_cons_of_mem _ (hsube p hp)
    case ke => exact each_fst (hvs.mono fun v d h => h.mono fun p hp => List.mem_cons_of_mem _ (hsube p hp))
    case kr => exact ⟨_, h90, D, u0, u1, u2, 0, rfl, List.mem_cons_self⟩
    case kj => exact hj.mono fun p hp => List.mem_cons_of_mem _ (hsub8 p hp)
    intro ps2 ex2 h12 tk12 hps2 hex2 F12 N12
    k_steps
    rename_i h13 F13 N13
    subst hrest
    have hfr : ∀ q ∈ ex2, q.1 ∉ [e, it] := by
      intro q hq hm
      refine hideG ?_
      intro G hG
      obtain ⟨o, ho⟩ := hlive q.1 hm
      refine hG ?_
      clear hG G
      exact Nat.lt_irrefl _ (allLt_mem (hex2 q hq).2.2 (q.1, o) (List.mem_cons_of_mem _ (List.mem_append_left _ ho)))
    have hDw : D ∉ [e, it] := by
      intro hm
      refine hideG ?_
      intro G hG
      obtain ⟨o, ho⟩ := hlive D hm
      refine hG ?_
      clear hG G
      exact Nat.lt_irrefl _ (lD (D, o) (List.mem_cons_of_mem _ (List.mem_cons_of_mem _ (List.mem_cons_of_mem _ (List.mem_append_left _ ho)))))
    refine hQt _ _ ?_
    refine ⟨_, _, _, _, rfl, F13, N_turn N13, ?_, _, _, ps2, _, rfl, ?_, ?_, ?_, ?_, junk_rows rfl⟩
    · intro p hp
      rcases List.mem_cons.mp hp with rfl | hp
      · exact hoff (l, lstO vs n) List.mem_cons_self
      · rcases List.mem_cons.mp hp with rfl | hp
        · exact hoff (117, tabObj ps') (List.mem_cons_of_mem _ List.mem_cons_self)
        · rcases List.mem_append.mp hp with hp | hp
          · exact hfr p hp
          · rcases List.mem_cons.mp hp with rfl | hp
            · exact hDw
            · exact hoff p (List.mem_cons_of_mem _ (List.mem_cons_of_mem _ hp))
    · exact fun p hp => List.mem_append_right _ (List.mem_cons_of_mem _ (hsub p hp))
    · intro q hq
      rcases List.mem_append.mp hq with hq | hq
      · exact ⟨Nat.ne_of_gt (hex2 q hq).1, Nat.ne_of_gt (hex2 q hq).2.1⟩
      · rcases List.mem_cons.mp hq with rfl | hq
        · exact ⟨Nat.ne_of_gt hlD, Nat.ne_of_gt h7D⟩
        · exact hofe q hq
    · refine hps2.mono ?_
      · intro p hp
        rcases List.mem_append.mp hp with hp | hp
        · exact List.mem_append_left _ hp
        · exact List.mem_append_right _ (List.mem_cons_of_mem _ hp)
    · rw [inoAt_succ hti]
      refine each_insL (Each.mono hvs ?_) ?_
      · intro v d h
        refine h.mono ?_
        intro p hp
        exact List.mem_append_right _ (List.mem_cons_of_mem _ hp)
      · unfold IsRowM IsRowX
        exact ⟨_, h90, D, u0, u1, u2, 0, rfl, by rw [← e9]; exact List.mem_append.mpr (Or.inr (List.Mem.head _))⟩
  · rintro m1 nw h7 tk7 ⟨vs, n, ps', ex, rfl, hsub, hofe, hps', hvs, u, rfl⟩ F7 N7
    k_steps
    rename_i kF kN Tc kX
    exact hret l vs n ps' ex _ _ l1 hsub hofe hps' hvs kF kN
end
end Mine

-- Cbisl
open PySem PySem.W PyProof.Rows PySem.Spec PySem.Calls
set_option maxRecDepth 100000
set_option maxHeartbeats 8000000
namespace Mine
theorem fresh_Cbisl : True := by
  w_top off
  exact trivial

noncomputable def KeyFnB (w : World) (p : Program) (loose : List Str) (mean : ExcName → Option Value) (mg mb : Str → Option Value) (f : Addr) (news : List (Addr × Obj)) (g : Nat → Bool) (k1 k2 : Nat) : Prop :=
  ∀ {dp un : Nat} {gd : Option (List Code)} {cn : Str} {cs : Scope} {a : Addr} {ccd : Value} {cl : List (Str × Addr)} {outer : List Env} {A₀ : Around} {base h₀ : Heap} {L : Addr} {m : Str → Option Value} {s : Shared} {Q E : Value → Shared → Prop},
    Below A₀ base outer h₀ → Fr h₀ L s.heap m → (Mine.hd.heap_1 w.params).In h₀ → News h₀ L s.heap news → Top p loose mean mg mb h₀ → cs.kind = .function → dp + k1 < recursionLimit → un + k2 < cLine →
    ∀ {k : Nat} {t : Tok}, k < 3 → (∀ h' tk', Fr h₀ L h' m → News h₀ L h' news → Q (.bool (g k)) { s with heap := h', toks := tk' }) →
    wpAny (model PySem.Challenge.rw_wf0029_01.row.prog w) (ktrTop dp un gd cn cs L a ccd cl outer) (call (.ref f) [.int (k : Int) t]) Q E s
noncomputable def firstAt (g : Nat → Bool) : Nat := if g 1 then (if g 0 then 0 else 1) else (if g 2 then 2 else 3)

section
variable {w : World} {p : Program} {loose : List Str} {mean : ExcName → Option Value} {mg mb : Str → Option Value}
   {dp un : Nat} {gd : Option (List Code)} {cn : Str} {cs : Scope} {a : Addr} {ccd : Value} {cl : List (Str × Addr)} {outer : List Env} {A₀ : Around} {base h₀ : Heap} {L : Addr} {m : Str → Option Value} {news : List (Addr × Obj)} {s : Shared} {Q E : Value → Shared → Prop}
   (B : Below A₀ base outer h₀) (F : Fr h₀ L s.heap m) (X : (Mine.hd.heap_1 w.params).In h₀) (N : News h₀ L s.heap news) (T : Top p loose mean mg mb h₀) (hk : cs.kind = .function)
include B F X N T hk

local macro_rules | `(tactic| walk_at "callWith ref") => `(tactic| (k_here; k_dflt (refine' callWith_F ?x ?_; (case x => exact FnAt.of (by k_asm) (by assumption)))))
local macro_rules | `(tactic| k_mem) => `(tactic| with_reducible assumption)
local macro_rules | `(tactic| walk_at "call builtin:len") => `(tactic| (k_here; k_dflt (refine' len_lst ?kN ?km ?kz ?_); (case kN => k_asm); (case km => assumption); (case kz => decide); intro t9 tk9; (try dsimp only)))
set_option hygiene false in
local macro_rules | `(tactic| walk_at "call ref") => `(tactic| (k_here; (with_reducible show wpAny _ _ (call (Value.ref f) [Value.int _ _]) _ _ _); (first | (k_dflt (refine' hkey (k := 0) ?kB ?kF ?kX ?kN ?kT ?kk ?kd ?ku (by decide) ?_)) | (k_dflt (refine' hkey (k := 1) ?kB ?kF ?kX ?kN ?kT ?kk ?kd ?ku (by decide) ?_)) | (k_dflt (refine' hkey (k := 2) ?kB ?kF ?kX ?kN ?kT ?kk ?kd ?ku (by decide) ?_))); (case kB => k_asm); (case kF => k_asm); (case kX => k_asm); (case kN => k_asm); (case kT => k_asm); (case kk => exact rfl); (case kd => ktr_room); (case ku => ktr_units); (intro h9 tk9 F9 N9; (try dsimp only); (try rw [hg0]); (try rw [hg1]); (try rw [hg2]); (try k_fold))))
set_option hygiene false in
local macro_rules | `(tactic| walk_at "subscriptTail") => `(tactic| (k_here; first | refine sub_lst (k := 1) (by with_reducible assumption) hl' (by decide) (by decide) rfl ?_ | refine sub_lst (k := 2) (by with_reducible assumption) hl' (by decide) (by decide) rfl ?_ | refine sub_lst (k := 0) (by with_reducible assumption) hl' (by decide) (by decide) rfl ?_))
local macro_rules | `(tactic| k_room) => `(tactic| ktr_room)
local macro_rules | `(tactic| k_units) => `(tactic| ktr_units)
set_option hygiene false in
theorem bisl_k (hd : dp + 8 < recursionLimit) (hu : un + 48 < cLine) {l f : Addr} {t0 t1 t2 : Tok} {n : Nat} {g : Nat → Bool} {fd : FuncData}
   (hl : (l, lstO [.int 0 t0, .int 1 t1, .int 2 t2] n) ∈ news) (hf : (f, (⟨.type "function", none, .func fd, #[]⟩ : Obj)) ∈ news) (hkey : KeyFnB w p loose mean mg mb f news g 6 36)
   (hret : ∀ t h' tk', Fr h₀ L h' m → News h₀ L h' news → Q (.int (firstAt g : Nat) t) { s with heap := h', toks := tk' }) :
   wpAny (model PySem.Challenge.rw_wf0029_01.row.prog w) (ktrTop dp un gd cn cs L a ccd cl outer) (call (.ref 41) [.ref l, .bool true] [(Str.ofString "key", .ref f)]) Q E s := by
  revert X; k_fill; intro X
  have hl' := hl
  cases hg1 : g 1
  · cases hg2 : g 2
    · have e : firstAt g = 3 := by simp [firstAt, hg1, hg2]
      rw [e] at hret
      have hg0 := hg1
      refine wpAny_noRaise ?_
      refine wpAny_call ?_
      k_dflt (refine' code_def ?k1 ?k2 ?k3 ?k4 ?k5 ?kA ?kF ?kK ?k6 ?k7 ?k8 ?k9 ?kB ?_ ?c2 ?c3 ?c4 ?c5; (case kA => exact rfl); (case kF => exact rfl); (case kK => exact hk); (case k1 => k_asm); (case k2 => k_asm); (case k3 => k_asm); (case k4 => k_asm); (case k5 => k_asm); (case k6 => k_is); (case k7 => k_is); (case k8 => ktr_room); (case k9 => (refine' kp_binds ?kx ?ke; (case kx => k_in); (case ke => exact fun _ => rfl))); (case c5 => decide); (case kB => exact locs rfl); (case c2 => exact rfl); (case c3 => exact rfl); (case c4 => exact rfl); k_whole; intro g' L' h' FG' F' N' B' X' T'; (try dsimp only); (try k_lift B'); (try k_fold))
      (with_reducible rename Fr _ _ _ _ => FE)
      refine letF FE ?_
      clear FE
      intro mE FE
      k_steps
      exact hret _ _ _ (by with_reducible assumption) (by with_reducible assumption)
    · have e : firstAt g = 2 := by simp [firstAt, hg1, hg2]
      rw [e] at hret
      have hg0 := hg1
      refine wpAny_noRaise ?_
      refine wpAny_call ?_
      k_dflt (refine' code_def ?k1 ?k2 ?k3 ?k4 ?k5 ?kA ?kF ?kK ?k6 ?k7 ?k8 ?k9 ?kB ?_ ?c2 ?c3 ?c4 ?c5; (case kA => exact rfl); (case kF => exact rfl); (case kK => exact hk); (case k1 => k_asm); (case k2 => k_asm); (case k3 => k_asm); (case k4 => k_asm); (case k5 => k_asm); (case k6 => k_is); (case k7 => k_is); (case k8 => ktr_room); (case k9 => (refine' kp_binds ?kx ?ke; (case kx => k_in); (case ke => exact fun _ => rfl))); (case c5 => decide); (case kB => exact locs rfl); (case c2 => exact rfl); (case c3 => exact rfl); (case c4 => exact rfl); k_whole; intro g' L' h' FG' F' N' B' X' T'; (try dsimp only); (try k_lift B'); (try k_fold))
      (with_reducible rename Fr _ _ _ _ => FE)
      refine letF FE ?_
      clear FE
      intro mE FE
      k_steps
      exact hret _ _ _ (by with_reducible assumption) (by with_reducible assumption)
  · cases hg0 : g 0
    · have e : firstAt g = 1 := by simp [firstAt, hg1, hg0]
      rw [e] at hret
      have hg2 := hg1
      refine wpAny_noRaise ?_
      refine wpAny_call ?_
      k_dflt (refine' code_def ?k1 ?k2 ?k3 ?k4 ?k5 ?kA ?kF ?kK ?k6 ?k7 ?k8 ?k9 ?kB ?_ ?c2 ?c3 ?c4 ?c5; (case kA => exact rfl); (case kF => exact rfl); (case kK => exact hk); (case k1 => k_asm); (case k2 => k_asm); (case k3 => k_asm); (case k4 => k_asm); (case k5 => k_asm); (case k6 => k_is); (case k7 => k_is); (case k8 => ktr_room); (case k9 => (refine' kp_binds ?kx ?ke; (case kx => k_in); (case ke => exact fun _ => rfl))); (case c5 => decide); (case kB => exact locs rfl); (case c2 => exact rfl); (case c3 => exact rfl); (case c4 => exact rfl); k_whole; intro g' L' h' FG' F' N' B' X' T'; (try dsimp only); (try k_lift B'); (try k_fold))
      (with_reducible rename Fr _ _ _ _ => FE)
      refine letF FE ?_
      clear FE
      intro mE FE
      k_steps
      exact hret _ _ _ (by with_reducible assumption) (by with_reducible assumption)
    · have e : firstAt g = 0 := by simp [firstAt, hg1, hg0]
      rw [e] at hret
      have hg2 := hg1
      refine wpAny_noRaise ?_
      refine wpAny_call ?_
      k_dflt (refine' code_def ?k1 ?k2 ?k3 ?k4 ?k5 ?kA ?kF ?kK ?k6 ?k7 ?k8 ?k9 ?kB ?_ ?c2 ?c3 ?c4 ?c5; (case kA => exact rfl); (case kF => exact rfl); (case kK => exact hk); (case k1 => k_asm); (case k2 => k_asm); (case k3 => k_asm); (case k4 => k_asm); (case k5 => k_asm); (case k6 => k_is); (case k7 => k_is); (case k8 => ktr_room); (case k9 => (refine' kp_binds ?kx ?ke; (case kx => k_in); (case ke => exact fun _ => rfl))); (case c5 => decide); (case kB => exact locs rfl); (case c2 => exact rfl); (case c3 => exact rfl); (case c4 => exact rfl); k_whole; intro g' L' h' FG' F' N' B' X' T'; (try dsimp only); (try k_lift B'); (try k_fold))
      (with_reducible rename Fr _ _ _ _ => FE)
      refine letF FE ?_
      clear FE
      intro mE FE
      k_steps
      exact hret _ _ _ (by with_reducible assumption) (by with_reducible assumption)
end
end Mine

-- Cbyo
open PySem PySem.W PyProof.Rows PySem.Spec PySem.Calls
set_option maxRecDepth 100000
set_option maxHeartbeats 8000000
namespace Mine
theorem fresh_Cbyo : True := by
  w_top off
  exact trivial
noncomputable def byo1 (ks : List (Int × Int)) (P : List RowM) (lv : Nat → RowD) : RowD :=
  let f := firstAt fun k => decide (0 ≤ cmp ks (lv (k + 1)) (P.getD k ⟨⟨0, 0, 0⟩, 0⟩).1)
  pick ks 1 (lv f) (lv f :: ((P.drop f).take 1).map (·.1))
noncomputable def layL (ks : List (Int × Int)) (M : List RowD) (r : RowD) : List RowD := insL (fun q => cmp ks q r) M r M r
noncomputable def byo2 (ks : List (Int × Int)) (P : List RowM) (lv : Nat → RowD) : RowD :=
  ((P.map (·.1) ++ [lv 0, lv 1, lv 2, lv 3]).foldl (layL ks) []).getD 3 ⟨0, 0, 0⟩
theorem slice_take {prog : Program} {w : World} {A : Around} {E : Value → Shared → Prop} {s : Shared} {h₀ : Heap} {L l : Addr} {m : Str → Option Value} {news : List (Addr × Obj)} {value slice : PySem.Expr} {vs : List Value} {n k : Nat} {u : Tok} {Q : Value → Shared → Prop}
    (F : Fr h₀ L s.heap m) (N : News h₀ L s.heap news) (hm : (l, lstO vs n) ∈ news) (hz : vs.length ≤ 1000)
    (h : ∀ D h', Fr h₀ L h' m → News h₀ L h' ((D, lstO (vs.take k) 0) :: news) → (∀ p ∈ news, p.1 < D) → Q (.ref D) { s with heap := h' })
    (hs : subscripted slice false (.ref l) (.ref s.heap.objs.size) = operate [.ref s.heap.objs.size, .ref l] (getItem (.ref l) (.ref s.heap.objs.size)) := by with_unfolding_all rfl) (ht : ∀ r, letTemporaryGo value (.ref l) r = pure () := by intro _; with_unfolding_all rfl) :
    wpAny (model prog w) A (subscriptTail value slice (.ref l) (.ref s.heap.objs.size)) Q E { s with heap := s.heap.push { cls := .type "slice", data := .fields #[.none, .int (k : Int) u, .none] } } := by
  refine kms_slice_lit (its := vs.toArray) (zs := vs.take k) F N ⟨_, (N _ hm).1, rfl, _, rfl⟩ IsPart.none (IsPart.int _ _) ?_ h hs ht (by rw [sizeLine_eq]; simp; omega)
  unfold kms_pick kms_lo kms_hi
  simp only [List.drop_zero, Nat.sub_zero]
  rw [if_neg (by omega), Int.toNat_natCast]
  exact kmk_take_min _ _
theorem ints_snoc {vs : List Value} {ns : List Int} (h : IntsAre vs ns) (x : Int) (t : Tok) : IntsAre (vs ++ [.int x t]) (ns ++ [x]) := h.append (.cons _ _ .nil)
theorem allLt_le {d d' : Nat} (h : d ≤ d') : ∀ {l : List (Addr × Obj)}, AllLt d l → AllLt d' l
  | [], _ => trivial
  | _ :: _, x => ⟨Nat.lt_of_lt_of_le x.1 h, allLt_le h x.2⟩
theorem sub11 {g h : Heap} {L : Addr} {x1 x2 x3 x4 x5 x6 x7 x8 x9 x10 x11 : Addr × Obj} {news : List (Addr × Obj)} (_N : News g L h (x1 :: x2 :: x3 :: x4 :: x5 :: x6 :: x7 :: x8 :: x9 :: x10 :: x11 :: news)) : ∀ q ∈ news, q ∈ x1 :: x2 :: x3 :: x4 :: x5 :: x6 :: x7 :: x8 :: x9 :: x10 :: x11 :: news :=
  fun q hq => List.mem_cons_of_mem _ (List.mem_cons_of_mem _ (List.mem_cons_of_mem _ (List.mem_cons_of_mem _ (List.mem_cons_of_mem _ (List.mem_cons_of_mem _ (List.mem_cons_of_mem _ (List.mem_cons_of_mem _ (List.mem_cons_of_mem _ (List.mem_cons_of_mem _ (List.mem_cons_of_mem _ hq))))))))))
theorem keyfnB_cut {w : World} {p : Program} {loose : List Str} {mean : ExcName → Option Value} {mg mb : Str → Option Value} {f : Addr} {led : List (Addr × Obj)} {g : Nat → Bool} {k1 k2 : Nat} {g₀ h : Heap} {L : Addr} {P : Prop}
    (_N : News g₀ L h led) (hk : KeyFnB w p loose mean mg mb f led g k1 k2) (h : KeyFnB w p loose mean mg mb f led g k1 k2 → P) : P := h hk
theorem mem_n4 {g h : Heap} {L : Addr} {x1 x2 x3 x4 : Addr × Obj} {news : List (Addr × Obj)} (_N : News g L h (x1 :: x2 :: x3 :: x4 :: news)) : x4 ∈ x1 :: x2 :: x3 :: x4 :: news := by simp
theorem ne_cons {d : Addr} {p : Addr × Obj} {l : List (Addr × Obj)} (h : p.1 ≠ d) (t : ∀ q ∈ l, q.1 ≠ d) : ∀ q ∈ p :: l, q.1 ≠ d := fun q hq => by
  rcases List.mem_cons.mp hq with rfl | hq
  · exact h
  · exact t q hq
theorem each_append {α : Type} {R : Value → α → Prop} {vs ws : List Value} {ds es : List α} (h : Each R vs ds) (g : Each R ws es) : Each R (vs ++ ws) (ds ++ es) := by
  refine ⟨by simp [h.1, g.1], fun i v d a b => ?_⟩
  by_cases c : i < vs.length
  · rw [List.getElem?_append_left c] at a
    rw [List.getElem?_append_left (h.1 ▸ c)] at b
    exact h.2 i v d a b
  · rw [List.getElem?_append_right (by omega)] at a
    rw [List.getElem?_append_right (by have := h.1; omega), ← h.1] at b
    exact g.2 _ v d a b
theorem add_lsts {prog : Program} {w : World} {A : Around} {E : Value → Shared → Prop} {s : Shared} {h₀ : Heap} {L a b : Addr} {m : Str → Option Value} {news : List (Addr × Obj)} {vs ws : List Value} {n k : Nat} {Q : Value → Shared → Prop}
    (F : Fr h₀ L s.heap m) (N : News h₀ L s.heap news) (hl : (a, lstO vs n) ∈ news) (hb : (b, lstO ws k) ∈ news) (hz : vs.length + ws.length ≤ 1000)
    (h : ∀ D h', (∀ p ∈ news, p.1 < D) → Fr h₀ L h' m → News h₀ L h' ((D, lstO (vs ++ ws) 0) :: news) → Q (.ref D) { s with heap := h' }) : wpAny (model prog w) A (binaryOp .Add (.ref a) (.ref b)) Q E s := by
  refine add_lists F N ⟨_, (N _ hl).1, rfl, _, rfl⟩ ⟨_, (N _ hb).1, rfl, _, rfl⟩ ?_ (by rw [sizeLine_eq]; omega)
  exact fun h' F' N' => h _ h' (fun p hp => Heap.lt_size (N p hp).1) F' N'
theorem perm_byo {g h : Heap} {L : Addr} {xS x1 x2 x3 x4 xl a4 a3 a2 a1 y117 y131 : Addr × Obj} {news : List (Addr × Obj)} (N : News g L h (xS :: x1 :: x2 :: x3 :: x4 :: xl :: a4 :: a3 :: a2 :: a1 :: y117 :: y131 :: news))
    (hl : ∀ q ∈ xS :: x1 :: x2 :: x3 :: x4 :: a4 :: a3 :: a2 :: a1 :: y131 :: news, q.1 ≠ xl.1) (hy : ∀ q ∈ xS :: x1 :: x2 :: x3 :: x4 :: a4 :: a3 :: a2 :: a1 :: y131 :: news, q.1 ≠ y117.1) {P : Prop}
    (hP : ∀ base, xS ∈ base → x4 ∈ base → a4 ∈ base → a3 ∈ base → a1 ∈ base → y131 ∈ base → (∀ p ∈ news, p ∈ base) → (∀ q ∈ base, q.1 ≠ xl.1 ∧ q.1 ≠ y117.1) → News g L h (xl :: y117 :: base) → P) : P := by
  refine hP (xS :: x1 :: x2 :: x3 :: x4 :: a4 :: a3 :: a2 :: a1 :: y131 :: news) (by simp) (by simp) (by simp) (by simp) (by simp) (by simp) (fun p hp => by simp [hp]) (fun q hq => ⟨hl q hq, hy q hq⟩) fun q hq => N q ?_
  simp only [List.mem_cons] at hq ⊢
  rcases hq with h | h | h | h | h | h | h | h | h | h | h | h | h <;> simp [h]
theorem mem_n3 {g h : Heap} {L : Addr} {x1 x2 x3 : Addr × Obj} {news : List (Addr × Obj)} (_N : News g L h (x1 :: x2 :: x3 :: news)) : x3 ∈ x1 :: x2 :: x3 :: news := by simp
theorem firstAt_le (g : Nat → Bool) : firstAt g ≤ 3 := by
  unfold firstAt
  split <;> split <;> omega
theorem N_turn2 {g h : Heap} {L : Addr} {a b : Addr × Obj} {e2 own ex : List (Addr × Obj)} (N : News g L h (a :: b :: (e2 ++ (own ++ ex)))) : News g L h (own ++ a :: b :: (e2 ++ ex)) := fun q hq => N q (by
  simp only [List.mem_cons, List.mem_append] at hq ⊢
  rcases hq with h | h | h | h | h <;> simp [h])
theorem junk_row1 {x r : Str} {v v1 : Option Value} {u m₀ : Str → Option Value} (h : m₀ r = v) : Junk [x] m₀ (fun z => if z = r then v else if z = x then v1 else if [x].contains z = true then u z else m₀ z) := Junk.intro (by
  intro z hz
  simp at hz
  by_cases e : z = r
  · simp [e, h]
  · simp [e, hz])
theorem foldl_snoc {α β : Type} {f : β → α → β} {l : List α} {i : Nat} {x : α} {b : β} (h : l[i]? = some x) : (l.take (i + 1)).foldl f b = f ((l.take i).foldl f b) x := by
  rw [List.take_add_one, h, List.foldl_append]
  rfl
theorem layAll_len {ks : List (Int × Int)} : ∀ (l : List RowD) (M : List RowD), (l.foldl (layL ks) M).length = M.length + l.length
  | [], M => rfl
  | r :: l, M => by
    rw [List.foldl_cons, layAll_len l, layL, insL_len, List.length_cons]
    omega
theorem slice_one {prog : Program} {w : World} {A : Around} {E : Value → Shared → Prop} {s : Shared} {h₀ : Heap} {L l : Addr} {m : Str → Option Value} {news : List (Addr × Obj)} {value slice : PySem.Expr} {vs : List Value} {n k : Nat} {x y : Int} {u u2 : Tok} {Q : Value → Shared → Prop}
    (F : Fr h₀ L s.heap m) (N : News h₀ L s.heap news) (hm : (l, lstO vs n) ∈ news) (hz : vs.length ≤ 1000) (hx : x = (k : Int)) (hy : y = (k : Int) + 1)
    (h : ∀ D h', Fr h₀ L h' m → News h₀ L h' ((D, lstO ((vs.drop k).take 1) 0) :: news) → (∀ p ∈ news, p.1 < D) → Q (.ref D) { s with heap := h' })
    (hs : subscripted slice false (.ref l) (.ref s.heap.objs.size) = operate [.ref s.heap.objs.size, .ref l] (getItem (.ref l) (.ref s.heap.objs.size)) := by with_unfolding_all rfl) (ht : ∀ r, letTemporaryGo value (.ref l) r = pure () := by intro _; with_unfolding_all rfl) :
    wpAny (model prog w) A (subscriptTail value slice (.ref l) (.ref s.heap.objs.size)) Q E { s with heap := s.heap.push { cls := .type "slice", data := .fields #[.int x u, .int y u2, .none] } } := by
  subst hx hy
  refine kms_slice_lit (its := vs.toArray) (zs := (vs.drop k).take 1) F N ⟨_, (N _ hm).1, rfl, _, rfl⟩ (IsPart.int _ _) (IsPart.int _ _) ?_ h hs ht (by rw [sizeLine_eq]; simp; omega)
  unfold kms_pick kms_lo kms_hi
  simp only []
  rw [if_neg (by omega), if_neg (by omega)]
  have e1 : (((k : Int) + 1)).toNat = k + 1 := rfl
  rw [e1, Int.toNat_natCast]
  show ((vs.drop (min k vs.length)).take _) = _
  rw [kmk_drop_min]
  by_cases c : k < vs.length
  · rw [Nat.min_eq_left (Nat.succ_le_of_lt c), Nat.min_eq_left (Nat.le_of_lt c)]
    show List.take (k + 1 - k) _ = _
    rw [Nat.add_sub_cancel_left]
  · rw [List.drop_of_length_le (by omega)]; simp
theorem each_take {α : Type} {R : Value → α → Prop} {vs : List Value} {ds : List α} (h : Each R vs ds) (k : Nat) : Each R (vs.take k) (ds.take k) := by
  refine ⟨by simp [h.1], fun i v d a b => ?_⟩
  rw [List.getElem?_take] at a b
  by_cases c : i < k
  · rw [if_pos c] at a b; exact h.2 i v d a b
  · rw [if_neg c] at a; cases a
theorem each_drop {α : Type} {R : Value → α → Prop} {vs : List Value} {ds : List α} (h : Each R vs ds) (k : Nat) : Each R (vs.drop k) (ds.drop k) := by
  refine ⟨by simp [h.1], fun i v d a b => ?_⟩
  rw [List.getElem?_drop] at a b
  exact h.2 _ v d a b
theorem each_rows {news : List (Addr × Obj)} {vs : List Value} {P : List RowM} (h : Each (IsRowM news) vs P) : Each (IsRow news) vs (P.map (·.1)) := each_fst h

section
variable {w : World} {p : Program} {loose : List Str} {mean : ExcName → Option Value} {mg mb : Str → Option Value}
   {dp un : Nat} {gd : Option (List Code)} {cn : Str} {cs : Scope} {a : Addr} {ccd : Value} {cl : List (Str × Addr)} {outer : List Env} {A₀ : Around} {base h₀ : Heap} {L : Addr} {m : Str → Option Value} {news : List (Addr × Obj)} {ps : Array Value} {s : Shared} {Q E : Value → Shared → Prop}
   (B : Below A₀ base outer h₀) (F : Fr h₀ L s.heap m) (X : (Mine.hd.heap_1 w.params).In h₀) (N : News h₀ L s.heap ((117, tabObj ps) :: (131, tabObj #[]) :: news)) (C : CodeHd h₀ 121 117) (C2 : CodeHd h₀ 133 131) (T : Top p loose mean mg mb h₀) (hk : cs.kind = .function)
include B F X N T hk C C2

local macro_rules | `(tactic| k_room) => `(tactic| ktr_room)
local macro_rules | `(tactic| k_units) => `(tactic| ktr_units)
local macro_rules | `(tactic| k_mem) => `(tactic| first | with_reducible assumption | assumption)
local macro_rules | `(tactic| k_all) => `(tactic| first | with_reducible assumption | exact allLt_ne (by first | assumption | exact And.right (by assumption)))
set_option hygiene false in
theorem byorder_k (hd : dp + 24 < recursionLimit) (hu : un + 120 < cLine) {hl wtd : Addr} {hvs : List Value} {nh : Nat} {jv : Value} {ks : List (Int × Int)} {P : List RowM} {ts : List Str} {wt : Str → RowD} {fs : Nat → Nat}
   (hl3 : ∀ q ∈ news, q.1 ≠ 117) (hl4 : ∀ q ∈ news, q.1 ≠ 131) (hps : TabSt ps news)
   (hj : IsJudge news jv ks) (hks : okKeys ks) (hh : (hl, lstO hvs nh) ∈ news) (he : Each (IsRowM news) hvs P) (hlen : P.length = 3)
   (hS : IsDct PySem.Challenge.rw_wf0029_01.row.prog w news wtd ts (fun v t => IsRow news v (wt t)))
   (hfs : ∀ k, k < 4 → ((P.take k).map (·.2)).sum = (fs k : Int) ∧ fs k < 4096 ∧ flagT (fs k) ∈ ts)
   (hret : ∀ D v1 v2 n ex h' tk', (∀ p ∈ news, p ∈ ex) → (∃ qs, (117, tabObj qs) ∈ ex) → (∃ qs, (131, tabObj qs) ∈ ex) → IsRow ex v1 (byo1 ks P (fun k => wt (flagT (fs k)))) → IsRow ex v2 (byo2 ks P (fun k => wt (flagT (fs k)))) → Fr h₀ L h' m → News h₀ L h' ((D, lstO [v1, v2] n) :: ex) → Q (.ref D) { s with heap := h', toks := tk' }) :
   wpAny (model PySem.Challenge.rw_wf0029_01.row.prog w) (ktrTop dp un gd cn cs L a ccd cl outer) (call (.ref 134) [.ref hl, .ref wtd, jv]) Q E s := by
  revert X; k_fill; intro X
  have hj' := hj
  refine hideG ?_
  intro G hG
  obtain ⟨j, dx, hsh, tok, kv, n1, rfl, hj1, hj2, hj3⟩ := hj
  refine hG ?_
  clear hG G
  refine wpAny_noRaise ?_
  refine wpAny_call ?_
  k_dflt (refine' code_defC ?k1 ?k2 ?k3 ?k4 ?k5 ?kA ?kF ?kK ?k6 ?k7 ?k8 ?k9 ?kB ?kD ?_ ?c2 ?c3 ?c4; (case kA => exact rfl); (case kF => exact rfl); (case kK => assumption); (case k1 => k_asm); (case k2 => k_asm); (case k3 => k_asm); (case k4 => k_asm); (case k5 => k_asm); (case k6 => k_is); (case k7 => k_is); (case k8 => ktr_room); (case k9 => first | exact BindsTo.of_eq rfl | exact binds_K (by k_in) rfl (by k_is) rfl rfl rfl); (case kB => exact rfl); (case kD => decide +kernel); (case c2 => exact rfl); (case c3 => exact rfl); (case c4 => exact rfl); k_whole; intro g' L' h' tk' cells' FG' F' N' Y' B' X' T' l1; (try k_lt l1); k_cells Y'; (try simp only [List.cons_append, List.nil_append] at N'); (try dsimp only); (try k_lift B'); (try k_fold))
  (with_reducible rename Fr _ _ _ _ => FE)
  refine letF FE ?_
  clear FE
  intro mE FE
  have C' := C.keeps FG'.keep
  have C2' := C2.keeps FG'.keep
  iterate 8 walk1
  rename_i oL oJ oW oH e1 e2 e3 e4 lm h4 l2 h5 F5 N5
  have e1 : oL.data = .cell none := e1
  have e2 : oJ.data = .cell (some (.ref j)) := e2
  have e3 : oW.data = .cell (some (.ref wtd)) := e3
  have e4 : oH.data = .cell (some (.ref hl)) := e4
  revert F5
  suffices key : ∀ M : Str → Option Value, M "middle" = some (.ref lm) → Fr g' L' h5 M → _ from key _ rfl
  intro M hM1 F5
  iterate 1 walk1
  refine wpQ ?_
  intro Qh1 hQh1
  refine eval_list (by with_unfolding_all rfl) rfl (by decide) ?_
  iterate 7 walk1
  rename_i h6 tk6 t6 u6 v6 hR F6 N6 k6
  refine src_range (n := 4) rfl F6 N6 hR rfl rfl fun I St s₂ hs₂ X7 => ?_
  refine hideG ?_
  intro G hG
  obtain ⟨h7, rfl⟩ := hs₂
  refine hG ?_
  clear hG G
  refine' after_list (X7 _ _) ?sz
    (fun i ys nw => nw = (lm, lstO [] 0) :: (L' + 1 + 1 + 1 + 1, oL) :: (L' + 1 + 1 + 1, oJ) :: (L' + 1 + 1, oW) :: (L' + 1, oH) :: (117, tabObj ps) :: (131, tabObj #[]) :: news ∧ Each (IsRow news) ys ((List.range i).map fun k => wt (flagT (fs k))))
    ?hS (fun i m₂ => ∃ t, m₂ "k" = some (.int (i : Int) t)) ?c1 rfl ?asg ⟨rfl, .nil⟩ ?_ ?_
  case sz => rw [sizeLine_eq]; omega
  case hS => intro _ _ _ _; trivial
  case c1 => decide
  case asg =>
    refine asg_name ?_ ?_ ?_
    · rfl
    · rfl
    · intro i v m₂ hP hm
      refine hideG ?_
      intro G hG
      obtain ⟨t, rfl⟩ := hP
      refine hG ?_
      clear hG G
      exact ⟨t, by rw [hm, Int.zero_add]⟩
  · intro i2 C D2 oC m₂ ys0 nw own2 h10 tk10 E' hi2 hBt hJt hoC F10 N10 hown2 hoff2 hCw hDw hCD
    refine wpAny_tests_nil ?_
    refine ite_yes rfl ?_
    refine wpQ ?_
    intro Qt1 hQt1
    obtain ⟨tt2, hm2⟩ := hBt
    obtain ⟨hnw, hys⟩ := hJt
    subst hnw
    have sub10 : ∀ p ∈ news, p ∈ own2 ++ (lm, lstO [] 0) :: (L' + 1 + 1 + 1 + 1, oL) :: (L' + 1 + 1 + 1, oJ) :: (L' + 1 + 1, oW) :: (L' + 1, oH) :: (117, tabObj ps) :: (131, tabObj #[]) :: news := fun p hp => List.mem_append_right _ (by simp [hp])
    have hW10 : (L' + 1 + 1, oW) ∈ own2 ++ (lm, lstO [] 0) :: (L' + 1 + 1 + 1 + 1, oL) :: (L' + 1 + 1 + 1, oJ) :: (L' + 1 + 1, oW) :: (L' + 1, oH) :: (117, tabObj ps) :: (131, tabObj #[]) :: news := List.mem_append_right _ (by simp)
    have hH10 : (L' + 1, oH) ∈ own2 ++ (lm, lstO [] 0) :: (L' + 1 + 1 + 1 + 1, oL) :: (L' + 1 + 1 + 1, oJ) :: (L' + 1 + 1, oW) :: (L' + 1, oH) :: (117, tabObj ps) :: (131, tabObj #[]) :: news := List.mem_append_right _ (by simp)
    revert N10 sub10 hW10 hH10
    generalize hled : own2 ++ (lm, lstO [] 0) :: (L' + 1 + 1 + 1 + 1, oL) :: (L' + 1 + 1 + 1, oJ) :: (L' + 1 + 1, oW) :: (L' + 1, oH) :: (117, tabObj ps) :: (131, tabObj #[]) :: news = led
    revert led
    refine hold ?_
    intro led hled N10 sub10 hW10 hH10
    iterate 11 walk1
    refine wpQ ?_
    intro Qh2 hQh2
    refine eval_list (by with_unfolding_all rfl) rfl (by decide) ?_
    iterate 7 walk1
    refine slice_take F10 N10 (List.mem_cons_of_mem _ (List.mem_cons_of_mem _ (sub10 _ hh))) (by rw [he.1]; omega) ?_
    intro D11 h11 F11 N11 l11
    refine src_list rfl F11 N11 (.inr ⟨_, List.mem_cons_self, rfl, _, rfl⟩) fun I3 St3 s₂ hs₂ X11 => ?_
    refine hideG ?_
    intro G hG
    obtain ⟨h12, rfl⟩ := hs₂
    refine hG ?_
    clear hG G
    refine' after_list (X11 _ _) ?sz2
      (fun i ys nw => nw = (D11, lstO (hvs.take i2) 0) :: (C, oC) :: (D2, LCg.lst ys0) :: led ∧ IntsAre ys (((P.take i2).take i).map (·.2)))
      ?hS2 (fun i m₂ => ∃ v, hvs[i]? = some v ∧ i < i2 ∧ m₂ "row" = some v) ?c12 rfl ?asg2 ⟨rfl, .nil⟩ ?_ ?_
    case sz2 => rw [sizeLine_eq, List.size_toArray, List.length_take]; omega
    case hS2 => intro i ys nw hJ; rw [hJ.1]; exact .inr ⟨_, List.mem_cons_self, rfl, _, rfl⟩
    case c12 => decide
    case asg2 =>
      refine asg_name ?_ ?_ ?_
      · rfl
      · rfl
      · intro i v m₂ hP hm
        have hP : (hvs.take i2)[i]? = some v := by simpa using hP
        rw [List.getElem?_take] at hP
        by_cases c : i < i2
        · rw [if_pos c] at hP
          exact ⟨v, hP, c, hm⟩
        · rw [if_neg c] at hP; cases hP
    · intro i5 C5 D5 oC5 m₅ ys5 nw own5 h17 tk17 E5 hi5 hBt hJt hoC5 F17 N17 hown5 hoff5 hCw5 hDw5 hCD5
      refine wpAny_tests_nil ?_
      refine ite_yes rfl ?_
      refine wpQ ?_
      intro Qt2 hQt2
      obtain ⟨v5, hv5, hlt5, hm5⟩ := hBt
      obtain ⟨hnw, hys5⟩ := hJt
      subst hnw
      have sub17 : ∀ p ∈ led, p ∈ own5 ++ (D11, lstO (hvs.take i2) 0) :: (C, oC) :: (D2, LCg.lst ys0) :: led := fun p hp => List.mem_append_right _ (by simp [hp])
      revert N17 sub17
      generalize hled5 : own5 ++ (D11, lstO (hvs.take i2) 0) :: (C, oC) :: (D2, LCg.lst ys0) :: led = led5
      revert led5
      refine hold ?_
      intro led5 hled5 N17 sub17
      iterate 3 walk1
      have h5P : i5 < P.length := by rw [← he.1]; exact (List.getElem?_eq_some_iff.mp hv5).1
      refine hideG ?_
      intro G hG
      obtain ⟨t5, hr5⟩ := he.2 i5 v5 P[i5] hv5 (List.getElem?_eq_getElem h5P)
      refine hG ?_
      clear hG G
      refine hideG ?_
      intro G hG
      obtain ⟨hb5, a5, u50, u51, u52, n5, rfl, hm5'⟩ := hr5
      refine hG ?_
      clear hG G
      refine sub_tup N17 (List.mem_cons_of_mem _ (List.mem_cons_of_mem _ (sub17 _ (sub10 _ hm5')))) (k := 3) rfl (by decide) rfl ?_
      refine hQt2 _ _ ?_
      refine cend_mk F17 N17 _ (fun p hp => hled5 ▸ hp) hoff5 ⟨rfl, ?_⟩
      have e5 : (P.take i2)[i5]? = some P[i5] := by rw [List.getElem?_take, if_pos hlt5]; exact List.getElem?_eq_getElem h5P
      rw [List.take_add_one, e5, List.map_append]
      exact ints_snoc hys5 _ _
    · intro D6 h18 tk18 ys6 nw F18 N18 hoff6 hJr
      obtain ⟨hnw, hys6⟩ := hJr
      subst hnw
      rw [List.size_toArray, List.take_of_length_le (by rw [List.length_take, List.length_take, he.1]; omega)] at hys6
      refine hQh2 _ _ ?_
      clear hQh2 Qh2
      (try dsimp only)
      refine hideG ?_
      intro G hG
      obtain ⟨hs1, hs2, hs3⟩ := hfs i2 hi2
      refine hG ?_
      clear hG G
      iterate 2 walk1
      rename_i h19 tk19 t19 F19 N19
      rw [hs1]
      iterate 2 walk1
      refine' flags_k (f := fs i2) ?kB ?kF ?kX ?kN ?kT ?kk ?kd ?ku hs2 ?_
      case kB => k_asm
      case kF => k_asm
      case kX => k_asm
      case kN => k_asm
      case kT => k_asm
      case kk => exact rfl
      case kd => ktr_room
      case ku => ktr_units
      intro t20 h20 tk20 F20 N20
      dsimp only
      refine dct_item2 N20 hS (fun p hp => List.mem_cons_of_mem _ (List.mem_cons_of_mem _ (List.mem_cons_of_mem _ (List.mem_cons_of_mem _ (sub10 _ hp))))) hs3 ?_
      intro v21 tk21 hv21
      refine hQt1 _ _ ?_
      refine cend_mk F20 N20 _ (fun p hp => ?_) hoff2 ⟨rfl, ?_⟩
      · rw [hled] at hp
        exact List.mem_cons_of_mem _ (List.mem_cons_of_mem _ hp)
      · rw [List.range_succ, List.map_append]
        exact each_snoc hys hv21
  · intro D7 h8 tk8 ys nw F8 N8 hoff8 hJr
    obtain ⟨hnw, hys⟩ := hJr
    subst hnw
    have q9 : L' + 1 + 1 + 1 + 1 ≠ D7 := neN (hoff8 (L' + 1 + 1 + 1 + 1, oL) (by simp))
    have q8 := neN (Ne.symm q9)
    have z117 := ltN l1.1
    have z131 := ltN l1.2.1
    have hAll4 : ∀ p ∈ (L' + 1 + 1 + 1, oJ) :: (L' + 1 + 1, oW) :: (L' + 1, oH) :: (117, tabObj ps) :: (131, tabObj #[]) :: news, p.1 ≠ L' + 1 + 1 + 1 + 1 :=
      allLt_ne ⟨Nat.lt_succ_self _, Nat.lt_succ_of_lt (Nat.lt_succ_self _), Nat.lt_succ_of_lt (Nat.lt_succ_of_lt (Nat.lt_succ_self _)), Nat.lt_of_lt_of_le z117 (by omega), Nat.lt_of_lt_of_le z131 (by omega), allLt_le (by omega) l1.2.2⟩
    refine hQh1 _ _ ?_
    clear hQh1 Qh1
    (try dsimp only)
    refine storeX_C F8 N8 rfl (UpdF.tail q8 (UpdF.tail (Nat.ne_of_gt l2.1) (UpdF.head hAll4))) e1 ?_ rfl rfl
    intro h9 oL9 F9 N9 d9
    iterate 5 walk1
    k_dflt (refine' callWith_KW ?k1 ?k2 ?k3 ?_; (case k1 => k_asm); (case k2 => k_is); (case k3 => exact rfl); k_whole)
    iterate 14 walk1
    have q131 : D7 ≠ 131 := neN (Ne.symm (hoff8 (131, tabObj #[]) (by simp)))
    walk1
    rename_i lb hb Fb Nb lb1 f1 c1 oc1 vs1 tq1 ct1 h12 tk12 F12 N12 d1 d2 l5 l6
    iterate 2 walk1
    have sub12 := sub11 N12
    have mL12 := N12
    have hj12 := hj'.mono sub12
    have hj1' := sub12 _ hj1
    have hmH12 := sub12 _ hh
    have hmD12 := mem_n4 N12
    have hj2' := sub12 _ hj2
    refine keyfnB_cut N12 (f := f1) (g := fun k => decide (0 ≤ cmp ks (wt (flagT (fs (k + 1)))) (P.getD k ⟨⟨0, 0, 0⟩, 0⟩).1)) (w := w) (p := p) (loose := loose) (mean := mean) (mg := mg) (mb := mb) (k1 := 6) (k2 := 36) ?_ fun hkey => ?_
    · clear hret B F X N T hk B' X' T' F12 N12 mL12
      intro dp un gd cn cs a ccd cl outer A₀ base h₀ L m s Q E B F X N T hk hd hu k tk9 hk3 hret
      have hyl : ys.length = 4 := by rw [hys.1]; simp
      have hvl : hvs.length = 3 := by rw [he.1, hlen]
      have hy1 : ys[k + 1]? = some ys[k + 1] := List.getElem?_eq_getElem (by omega)
      have hv1 : hvs[k]? = some hvs[k] := List.getElem?_eq_getElem (by omega)
      have hP1 : P[k]? = some (P.getD k ⟨⟨0, 0, 0⟩, 0⟩) := by rw [List.getD_eq_getElem?_getD, List.getElem?_eq_getElem (by omega)]; rfl
      have hyr := (hys.2 (k + 1) ys[k + 1] (wt (flagT (fs (k + 1)))) hy1 (by rw [List.getElem?_map, List.getElem?_range (by omega)]; rfl)).mono sub12
      have hvr0 : IsRow news hvs[k] (P.getD k ⟨⟨0, 0, 0⟩, 0⟩).1 := by obtain ⟨t, h⟩ := he.2 k _ _ hv1 hP1; exact ⟨_, h⟩
      have hvr := hvr0.mono sub12
      refine wpAny_noRaise ?_
      refine wpAny_call ?_
      k_dflt (refine' kla_code ?k1 ?k2 ?k3 ?k4 ?k5 ?kA ?kF ?kK ?k6 ?k7 ?k8 ?k9 ?kB ?_ ?c2 ?c3 ?c4 ?c5; (case kA => exact rfl); (case kF => exact rfl); (case kK => exact hk); (case k1 => exact B); (case k2 => exact F); (case k3 => exact X); (case k4 => exact N); (case k5 => exact T); (case k6 => k_mem); (case k7 => exact codeRec_news N (by k_mem) (by assumption) (by assumption)); (case k8 => ktr_room); (case k9 => exact rfl); (case c5 => decide); (case kB => exact locs rfl); (case c2 => exact rfl); (case c3 => exact rfl); (case c4 => exact rfl); k_whole; intro g' L' h' FG' F' N' B' X' T'; (try dsimp only); (try k_lift B'); (try k_fold))
      (with_reducible rename Fr _ _ _ _ => FE)
      refine letF FE ?_
      clear FE
      intro mE FE
      iterate 12 walk1
      refine sub_lst (by with_reducible assumption) hmD12 (k := k + 1) (by omega) (by omega) hy1 ?_
      iterate 4 walk1
      refine sub_lst (by with_reducible assumption) hmH12 (k := k) (by omega) (by omega) hv1 ?_
      iterate 2 walk1
      k_dflt (refine' cmp_k ?kB ?kF ?kX ?kN ?kT ?kk ?kd ?ku ?kj ?kx ?ky ?ks ?_; (case kB => k_asm); (case kF => k_asm); (case kX => k_asm); (case kN => k_asm); (case kT => k_asm); (case kk => exact rfl); (case kd => ktr_room); (case ku => ktr_units); (case kj => exact hj12); (case kx => exact hyr); (case ky => exact hvr); (case ks => exact hks))
      intro t9 h9 tk9 F9 N9
      (try dsimp only)
      k_steps
      exact hret _ _ (by with_reducible assumption) (by with_reducible assumption)
    · have hmlb := mem_n3 N12
      refine' bisl_k (l := lb) (f := f1) ?kB ?kF ?kX ?kN ?kT ?kk ?kd ?ku hmlb List.mem_cons_self hkey ?_
      case kB => k_asm
      case kF => k_asm
      case kX => k_asm
      case kN => k_asm
      case kT => k_asm
      case kk => exact rfl
      case kd => ktr_room
      case ku => ktr_units
      intro t13 h13 tk13 F13 N13
      dsimp only
      iterate 3 walk1
      refine wpAny_noRaise (wpAny_For ?_ ?hs)
      case hs => intro _; rfl
      iterate 3 walk1
      rename_i hA FA NA
      have hl117 : lm ≠ 117 := Nat.ne_of_gt l2.2.2.2.2.1
      refine add_lsts FA NA hmH12 hmD12 (by rw [he.1, hys.1, hlen]; simp) ?_
      intro S h14 lS F14 N14
      have hlS := lS (lm, lstO [] 0) (by simp)
      have h7S := lS (117, tabObj ps) (by simp)
      have hlD7 : lm ≠ D7 := hoff8 (lm, lstO [] 0) (by simp)
      have h7D7 : 117 ≠ D7 := hoff8 (117, tabObj ps) (by simp)
      refine perm_byo N14 ?_ ?_ fun base mS mD mL mJ mH mY subb offb N15 => ?_
      · exact ne_cons (Nat.ne_of_gt hlS) (ne_cons (Nat.ne_of_gt (Nat.lt_trans l5.2.2.1 l6)) (ne_cons (Nat.ne_of_gt l5.2.2.1) (ne_cons (Nat.ne_of_gt lb1.2.1) (ne_cons (Ne.symm hlD7)
          (ne_cons (Nat.ne_of_lt l2.1) (ne_cons (Nat.ne_of_lt l2.2.1) (ne_cons (Nat.ne_of_lt l2.2.2.1) (ne_cons (Nat.ne_of_lt l2.2.2.2.1) (ne_cons (Nat.ne_of_lt l2.2.2.2.2.2.1) (allLt_ne l2.2.2.2.2.2.2))))))))))
      · refine ne_cons (Nat.ne_of_gt h7S) (ne_cons ?_ (ne_cons ?_ (ne_cons ?_ (ne_cons (Ne.symm h7D7) (ne_cons ?_ (ne_cons ?_ (ne_cons ?_ (ne_cons ?_ (ne_cons (show (131 : Nat) ≠ 117 by decide) hl3)))))))))
        · exact Nat.ne_of_gt (Nat.lt_trans l5.2.2.2.2.2.2.2.1 l6)
        · exact Nat.ne_of_gt l5.2.2.2.2.2.2.2.1
        · exact Nat.ne_of_gt lb1.2.2.2.2.2.2.1
        · exact Nat.ne_of_gt (Nat.lt_of_lt_of_le z117 (Nat.le_add_right L' 4))
        · exact Nat.ne_of_gt (Nat.lt_of_lt_of_le z117 (Nat.le_add_right L' 3))
        · exact Nat.ne_of_gt (Nat.lt_of_lt_of_le z117 (Nat.le_add_right L' 2))
        · exact Nat.ne_of_gt (Nat.lt_of_lt_of_le z117 (Nat.le_add_right L' 1))
      have hfl := firstAt_le (fun k => decide (0 ≤ cmp ks (wt (flagT (fs (k + 1)))) (P.getD k ⟨⟨0, 0, 0⟩, 0⟩).1))
      have hb1 : byo1 ks P (fun k => wt (flagT (fs k))) = pick ks 1 (wt (flagT (fs (firstAt (fun k => decide (0 ≤ cmp ks (wt (flagT (fs (k + 1)))) (P.getD k ⟨⟨0, 0, 0⟩, 0⟩).1)))))) (wt (flagT (fs (firstAt (fun k => decide (0 ≤ cmp ks (wt (flagT (fs (k + 1)))) (P.getD k ⟨⟨0, 0, 0⟩, 0⟩).1))))) :: ((P.drop (firstAt (fun k => decide (0 ≤ cmp ks (wt (flagT (fs (k + 1)))) (P.getD k ⟨⟨0, 0, 0⟩, 0⟩).1)))).take 1).map (·.1)) := rfl
      rw [hb1] at hret
      clear hb1
      revert F14 hret hfl
      generalize firstAt (fun k => decide (0 ≤ cmp ks (wt (flagT (fs (k + 1)))) (P.getD k ⟨⟨0, 0, 0⟩, 0⟩).1)) = fi
      revert fi
      refine hold ?_
      intro fi hret F14 hfl
      revert F14
      suffices key : ∀ M : Str → Option Value, M "middle" = some (.ref lm) → M "first" = some (.int (fi : Int) t13) → Fr g' L' h14 M → _ from key _ (by first | rfl | exact hM1) rfl
      intro M hM1 hM2 F14
      refine src_list rfl F14 N15 (.inr ⟨_, List.mem_cons_of_mem _ (List.mem_cons_of_mem _ mS), rfl, _, rfl⟩) fun I St s₂ hs₂ X15 => ?_
      refine hideG ?_
      intro G hG
      obtain ⟨h16, rfl⟩ := hs₂
      refine hG ?_
      clear hG G
      have X16 := X15 "row" ⟨0, 0, 0, 0⟩
      have hall : Each (IsRow news) (hvs ++ ys) (P.map (·.1) ++ [wt (flagT (fs 0)), wt (flagT (fs 1)), wt (flagT (fs 2)), wt (flagT (fs 3))]) := each_append (each_rows he) hys
      have hall7 : (hvs ++ ys).length = 7 := by rw [hall.1]; simp [hlen]
      revert hall
      generalize hrows : P.map (·.1) ++ [wt (flagT (fs 0)), wt (flagT (fs 1)), wt (flagT (fs 2)), wt (flagT (fs 3))] = rows
      revert rows
      refine hold ?_
      intro rows hrows hall
      refine for_gen2 (X15 _ _).W X16.keep X16.live (fun i m1 nw => ∃ vs n ps' ex, nw = (lm, lstO vs n) :: (117, tabObj ps') :: ex ∧ (∀ p ∈ base, p ∈ ex) ∧ (∀ q ∈ ex, q.1 ≠ lm ∧ q.1 ≠ 117) ∧ TabSt ps' ex ∧ Each (IsRow ex) vs ((rows.take i).foldl (layL ks) []) ∧
        Junk ["row"] (fun z => if z = "middle" then some (.ref lm) else if z = "first" then some (.int (fi : Int) t13) else M z) m1)
        (fun i m1 nw hJ => by obtain ⟨_, _, _, _, rfl, hs, _⟩ := hJ; exact .inr ⟨_, List.mem_cons_of_mem _ (List.mem_cons_of_mem _ (hs _ mS)), rfl, _, rfl⟩) X16.Lw X16.w0 X16.off X16.st X16.F X16.N ?_ ?_ ?_
      · refine ⟨[], 0, ps, base, rfl, fun p hp => hp, offb, hps.mono subb, .nil, Junk.intro fun z _ => ?_⟩
        (repeat' split) <;> (try rfl) <;> (rename_i h; subst h; first | exact hM1 | exact hM2)
      · intro i v m1 nw own h17 tk17 hi hvi hB F17 N17 hown hlive hoff
        refine wpQ ?_
        intro Qa hQa
        obtain ⟨vs, n, ps', ex, rfl, hsub, hofe, hps', hvs5, u, rfl⟩ := hB
        refine letF F17 ?_
        clear F17
        intro mF F17
        have N17 := news_in2 N17
        have hvi : (hvs ++ ys)[i]? = some v := by simpa using hvi
        have hi7 : i < rows.length := by rw [← hall.1]; exact (List.getElem?_eq_some_iff.mp hvi).1
        have hri : rows[i]? = some rows[i] := List.getElem?_eq_getElem hi7
        have hrow := hall.2 i v _ hvi hri
        have offl : ∀ p ∈ own ++ ex, p.1 ≠ lm := by
          intro p hp
          rcases List.mem_append.mp hp with hp | hp
          · exact fun e => (hoff (lm, lstO vs n) List.mem_cons_self) (e ▸ hown p hp)
          · exact (hofe p hp).1
        have off7 : ∀ p ∈ own ++ ex, p.1 ≠ 117 := by
          intro p hp
          rcases List.mem_append.mp hp with hp | hp
          · exact fun e => (hoff (117, tabObj ps') (List.mem_cons_of_mem _ List.mem_cons_self)) (e ▸ hown p hp)
          · exact (hofe p hp).2
        have hsub8 : ∀ p ∈ base, p ∈ own ++ ex := fun p hp => List.mem_append_right _ (hsub p hp)
        have hsube : ∀ p ∈ ex, p ∈ own ++ ex := fun p hp => List.mem_append_right _ hp
        have mJ8 := hsub8 _ mJ
        revert N17 offl off7 hsub8 hsube mJ8
        generalize hrest : own ++ ex = rest
        revert rest
        refine hold ?_
        intro rest hrest N17 offl off7 hsub8 hsube mJ8
        iterate 2 walk1
        refine hQa _ _ ?_
        clear hQa Qa
        dsimp only
        refine wpQ ?_
        intro Qt hQt
        iterate 14 walk1
        rename_i h18 F18 N18
        have hlen5 : vs.length ≤ 1000 := by rw [hvs5.1, layAll_len, List.length_take, ← hall.1, hall7, List.length_nil]; omega
        refine' laid_k (vs := vs) (nl := n) (ps := ps') (rs := (rows.take i).foldl (layL ks) []) (r := rows[i]) ?kB ?kF ?kX N18 ?kC ?kT ?kk ?kd ?ku hlen5 ?k1 ?k2 ?k3 ?kb hps' ?ke ?kr ?kj hks ?_
        case kB => k_asm
        case kF => k_asm
        case kX => k_asm
        case kT => k_asm
        case kk => exact rfl
        case kC => exact C'
        case kd => ktr_room
        case ku => ktr_units
        case k1 => exact hl117
        case k2 => exact offl
        case k3 => exact off7
        case kb => exact hsube
        case ke => exact hvs5.mono fun v d h => h.mono hsube
        case kr => exact hrow.mono fun p hp => hsub8 _ (subb _ hp)
        case kj => exact hj'.mono fun p hp => hsub8 _ (subb _ hp)
        intro ps2 ex2 h20 tk20 hps2 hex2 F20 N20
        k_steps
        rename_i h21 F21 N21
        subst hrest
        have hfr : ∀ q ∈ ex2, q.1 ∉ [I] := by
          intro q hq hm
          refine hideG ?_
          intro G hG
          obtain ⟨o, ho⟩ := hlive q.1 hm
          refine hG ?_
          clear hG G
          exact Nat.lt_irrefl _ (allLt_mem (hex2 q hq).2.2 (q.1, o) (List.mem_append_left _ ho))
        refine hQt _ _ ?_
        refine ⟨_, _, _, _, rfl, F21, N_turn2 N21, ?_, _, _, ps2, _, rfl, ?_, ?_, ?_, ?_, junk_row1 rfl⟩
        · intro p hp
          rcases List.mem_cons.mp hp with rfl | hp
          · exact hoff (lm, lstO vs n) List.mem_cons_self
          · rcases List.mem_cons.mp hp with rfl | hp
            · exact hoff (117, tabObj ps') (List.mem_cons_of_mem _ List.mem_cons_self)
            · rcases List.mem_append.mp hp with hp | hp
              · exact hfr p hp
              · exact hoff p (List.mem_cons_of_mem _ (List.mem_cons_of_mem _ hp))
        · exact fun p hp => List.mem_append_right _ (hsub p hp)
        · intro q hq
          rcases List.mem_append.mp hq with hq | hq
          · exact ⟨Nat.ne_of_gt (hex2 q hq).1, Nat.ne_of_gt (hex2 q hq).2.1⟩
          · exact hofe q hq
        · exact hps2
        · rw [foldl_snoc hri]
          refine each_insL (Each.mono hvs5 fun v d h => h.mono fun p hp => List.mem_append_right _ hp) ?_
          exact hrow.mono fun p hp => List.mem_append_right _ (hsub _ (subb _ hp))
      · rintro m1 nw h17 tk17 ⟨vs, n, ps', ex, rfl, hsub, hofe, hps', hvs5, u, rfl⟩ F17 N17
        refine letF F17 ?_
        clear F17
        intro mF F17
        have hn7 : (hvs ++ ys).toArray.size = 7 := by simpa using hall7
        have hr7 : rows.length = 7 := by rw [← hall.1]; exact hall7
        rw [hn7, List.take_of_length_le (by omega)] at hvs5
        have mJ8 := hsub _ mJ
        have mL8 := hsub _ mL
        have mH8 := hsub _ mH
        have mD8 := hsub _ mD
        have hyl : ys.length = 4 := by rw [hys.1]; simp
        have hvl : hvs.length = 3 := by rw [he.1, hlen]
        have hy1 : ys[fi]? = some ys[fi] := List.getElem?_eq_getElem (by omega)
        have hyr := (hys.2 fi ys[fi] (wt (flagT (fs fi))) hy1 (by rw [List.getElem?_map, List.getElem?_range (by omega)]; rfl))
        iterate 15 walk1
        refine sub_lst (by with_reducible assumption) (List.mem_cons_of_mem _ (List.mem_cons_of_mem _ mD8)) (k := fi) rfl (by omega) hy1 ?_
        iterate 3 walk1
        rename_i lA h22 F22 N22 lA1
        iterate 10 walk1
        have mH22 : (hl, lstO hvs nh) ∈ (lA, W.listOf #[ys[fi]] 0) :: (lm, lstO vs n) :: (117, tabObj ps') :: ex := List.mem_cons_of_mem _ (List.mem_cons_of_mem _ (List.mem_cons_of_mem _ (hsub _ (subb _ hh))))
        refine slice_one F22 N22 mH22 (by omega) (k := fi) rfl rfl ?_
        intro S2 h23 F23 N23 l23
        refine add_lsts (vs := [ys[fi]]) F23 N23 (List.mem_cons_of_mem _ List.mem_cons_self) List.mem_cons_self (by simp; omega) ?_
        intro S3 h24 l24 F24 N24
        iterate 6 walk1
        have sub24 : ∀ p ∈ news, p ∈ (S3, lstO ([ys[fi]] ++ List.take 1 (List.drop fi hvs)) 0) :: (S2, lstO (List.take 1 (List.drop fi hvs)) 0) :: (lA, W.listOf #[ys[fi]] 0) :: (lm, lstO vs n) :: (117, tabObj ps') :: ex := fun p hp => List.mem_cons_of_mem _ (List.mem_cons_of_mem _ (List.mem_cons_of_mem _ (List.mem_cons_of_mem _ (List.mem_cons_of_mem _ (hsub _ (subb _ hp))))))
        k_dflt (refine' best_k (R := fun v r => IsRow news v r) (r0 := wt (flagT (fs fi))) (rs := ((P.drop fi).take 1).map (·.1)) (vs := [ys[fi]] ++ (hvs.drop fi).take 1) (n := 0) ?kB ?kF ?kX N24 ?kT ?kk ?kd ?ku ?kR ?kl ?ke (hj'.mono sub24) hks ?_; (case kB => k_asm); (case kF => k_asm); (case kX => k_asm); (case kT => k_asm); (case kk => exact rfl); (case kd => ktr_room); (case ku => ktr_units); (case kl => exact List.mem_cons_self); (case kR => exact fun v r h => h.mono sub24); (case ke => exact each_cons (each_rows (each_take (each_drop he fi) 1)) hyr))
        intro v25 h25 tk25 hv25 F25 N25
        have hvsl : vs.length = 7 := by rw [hvs5.1, layAll_len, hr7]; rfl
        have hv3 : vs[3]? = some vs[3] := List.getElem?_eq_getElem (by omega)
        have hrl : (rows.foldl (layL ks) []).length = 7 := by rw [layAll_len, hr7]; rfl
        have hr3 : (rows.foldl (layL ks) [])[3]? = some ((rows.foldl (layL ks) []).getD 3 ⟨0, 0, 0⟩) := by rw [List.getD_eq_getElem?_getD, List.getElem?_eq_getElem (by omega)]; rfl
        have hb2 : byo2 ks P (fun k => wt (flagT (fs k))) = (rows.foldl (layL ks) []).getD 3 ⟨0, 0, 0⟩ := by rw [← hrows]; rfl
        have hvr3 := hvs5.2 3 vs[3] _ hv3 hr3
        iterate 4 walk1
        refine sub_lst (by with_reducible assumption) (List.mem_cons_of_mem _ (List.mem_cons_of_mem _ (List.mem_cons_of_mem _ List.mem_cons_self))) (k := 3) rfl (by decide) hv3 ?_
        k_steps
        rename_i kF kN Tc kX
        refine hret _ v25 vs[3] _ _ _ _ sub24 ⟨ps', by simp⟩ ⟨_, List.mem_cons_of_mem _ (List.mem_cons_of_mem _ (List.mem_cons_of_mem _ (List.mem_cons_of_mem _ (List.mem_cons_of_mem _ (hsub _ mY)))))⟩ (hv25.mono sub24) ?_ kF kN
        rw [hb2]
        exact hvr3.mono fun p hp => List.mem_cons_of_mem _ (List.mem_cons_of_mem _ (List.mem_cons_of_mem _ (List.mem_cons_of_mem _ (List.mem_cons_of_mem _ hp))))

end
end Mine

-- L9
open PySem PySem.W PyProof.Rows PySem.Spec PySem.Calls
set_option maxRecDepth 100000
namespace Mine
section
variable {prog : Program} {w : World} {A : Around} {E : Value → Shared → Prop} {s : Shared}
/-- the block's frame where one name of its own is a cell -/
theorem nfe_cell {M : Model} {scope : Scope} {globals : Addr} {cl : List (Str × Addr)} {qual : Str} {outer : Env} {x : Str} {Q : Env → Shared → Prop}
    (hc : ∀ n acc, cellsFrom n scope.names acc = (x, n) :: acc) (hp : ∀ h, pushCells h scope.names = h.push { cls := .type "cell", data := .cell none })
    (hQ : Q (newEnv scope s.heap.objs.size globals ((x, s.heap.objs.size + 1) :: cl) qual none .none (some outer) builtinsNs)
      { s with heap := (s.heap.push { cls := .type "dict", data := .dict #[] }).push { cls := .type "cell", data := .cell none } }) :
    wpAny M A (newFunctionEnv scope globals cl [] qual none .none (some outer)) Q E s := by
  simp only [newFunctionEnv, Option.isSome_some, if_true]
  refine wpAny_bind (wpAny_alloc ?_)
  refine wpAny_bind (wpAny_layCells _ (fun name kind cells => by cases hkc : kind == NameKind.cell <;> simp [hkc]) _ _ _ _ ?_)
  rw [hc, hp]
  refine wpAny_bind ?_
  rw [List.forIn_nil]
  refine wpAny_pure (wpAny_pure ?_)
  rw [show (s.heap.push { cls := .type "dict", data := .dict #[] }).objs.size = s.heap.objs.size + 1 from Heap.size_push ..]
  exact hQ
end
section
variable {prog : Program} {w : World} {A : Around} {E : Value → Shared → Prop} {s : Shared} {h₀ : Heap} {L : Addr} {m : Str → Option Value} {env : Env}
noncomputable def TurnlistC (prog : Program) (w : World) (A : Around) (h₀ : Heap) (L : Addr) (m : Str → Option Value) (env : Env) (elt : PySem.Expr) (ifs : List PySem.Expr) (scope : Scope) (cl : List (Str × Addr)) (x : Str) (s₂ : Shared) (wr : List Addr) (n : Nat) (P : Nat → Value → Prop) (J : Nat → List Value → List (Addr × Obj) → Prop) : Prop :=
  ∀ i v C D K oC oK ys news₁ own h tk (E' : Value → Shared → Prop), i < n → P i v → J i ys news₁ → oK.data = .cell (some v) → Fr h₀ L h m → News h₀ L h ((C, oC) :: (D, (LCg.lst ys)) :: (K, oK) :: (own ++ news₁)) →
      (∀ p ∈ own, p.1 ∈ wr) → (∀ p ∈ news₁, p.1 ∉ wr ∧ p.1 ≠ C ∧ p.1 ≠ D ∧ p.1 ≠ K) → C ∉ wr → D ∉ wr → K ∉ wr → C ≠ D → K ≠ C → K ≠ D →
      wpAny (model prog w) A (forIn ifs true fun c r => if r = true then do let ok ← isTrue c (compEnvC scope ((x, K) :: cl) C env) (eval c (compEnvC scope ((x, K) :: cl) C env)); pure (ForInStep.yield ok) else pure (ForInStep.yield r)) (fun ok s₃ =>
        if ok = true then wpAny (model prog w) A (eval elt (compEnvC scope ((x, K) :: cl) C env)) (fun y s₄ => CEndC h₀ L m s₂ wr own C oC D (LCg.lst ys) K oK (J (i + 1) (ys ++ [y])) s₄) E' s₃
        else CEndC h₀ L m s₂ wr own C oC D (LCg.lst ys) K oK (J (i + 1) ys) s₃) E' { s₂ with heap := h, toks := tk }
where CEndC (h₀ : Heap) (L : Addr) (m : Str → Option Value) (s : Shared) (wr : List Addr) (own : List (Addr × Obj)) (C : Addr) (oC : Obj) (D : Addr) (oD : Obj) (K : Addr) (oK : Obj) (Jn : List (Addr × Obj) → Prop) (s₂ : Shared) : Prop :=
  ∃ h tk news', s₂ = { s with heap := h, toks := tk } ∧ Fr h₀ L h m ∧ News h₀ L h ((C, oC) :: (D, oD) :: (K, oK) :: (own ++ news')) ∧ (∀ p ∈ news', p.1 ∉ wr ∧ p.1 ≠ C ∧ p.1 ≠ D ∧ p.1 ≠ K) ∧ Jn news'
theorem cendC_mk {s : Shared} {wr : List Addr} {own : List (Addr × Obj)} {C D K : Addr} {oC oD oK : Obj} {Jn : List (Addr × Obj) → Prop} {h : Heap} {tk : Nat} {all : List (Addr × Obj)} (F : Fr h₀ L h m) (N : News h₀ L h all) (news' : List (Addr × Obj)) (hsub : ∀ p ∈ (C, oC) :: (D, oD) :: (K, oK) :: (own ++ news'), p ∈ all)
    (off : ∀ p ∈ news', p.1 ∉ wr ∧ p.1 ≠ C ∧ p.1 ≠ D ∧ p.1 ≠ K) (hJ : Jn news') : TurnlistC.CEndC h₀ L m s wr own C oC D oD K oK Jn { s with heap := h, toks := tk } := ⟨h, tk, news', rfl, F, fun p hp => N p (hsub p hp), off, hJ⟩

theorem comp_listC {elt iter : PySem.Expr} {ifs : List PySem.Expr} {scope : Scope} {cl : List (Str × Addr)} {pos px : Pos} {s₂ : Shared} {I : Addr} {wr : List Addr} {n : Nat} {x : Str} {P : Nat → Value → Prop} {St : Nat → Heap → Prop} {S : List (Addr × Obj) → Prop} {news : List (Addr × Obj)}
    {RR : Value → Addr → Result → Shared → Prop} (W : GWalk prog w A (.Name x px) I wr n (fun i v _ => P i v) St) (hsz : n ≤ sizeLine)
    (hSt : ∀ i h h' nw, St i h → (∀ b ∈ wr, ∀ o, h.get? b = some o → h'.get? b = some o) → (∀ b o, h₀.get? b = some o → h'.get? b = some o) → News h₀ L h' nw → S nw → St i h')
    (J : Nat → List Value → List (Addr × Obj) → Prop) (hS : ∀ i ys nw, J i ys nw → S nw)
    (hc : ∀ n acc, cellsFrom n scope.names acc = (x, n) :: acc) (hp : ∀ h, pushCells h scope.names = h.push { cls := .type "cell", data := .cell none }) (hkind : scope.kind = .function)
    (hx : ∀ C K, (compEnvC scope ((x, K) :: cl) C env).kindOf x = some .cell)
    (hst : St 0 s₂.heap) (hwlt : ∀ b ∈ wr, b < s₂.heap.objs.size) (hLw : L ∉ wr) (hw0 : ∀ b ∈ wr, h₀.get? b = none) (off : ∀ p ∈ news, p.1 ∉ wr)
    (F : Fr h₀ L s₂.heap m) (N : News h₀ L s₂.heap news) (h0 : J 0 [] news)
    (turn : TurnlistC prog w A h₀ L m env elt ifs scope cl x s₂ wr n P J)
    (hRR : ∀ D C h tk m' ys news', Fr h₀ L h m → News h₀ L h ((D, (LCg.lst ys)) :: news') → (∀ p ∈ news', p.1 ≠ D) → h.Ns C m' → h₀.get? C = none → h₀.get? D = none → C ≠ L → D ≠ L → C ≠ D → (∀ p ∈ news', p.1 ≠ C) → J n ys news' → RR (.ref D) C (.ok .next) { s₂ with heap := h, toks := tk }) :
    wpAny (model prog w) A (newList []) (fun acc s₃ => wpAny (model prog w) A (newFunctionEnv scope env.globals cl [] env.qual none .none (some env)) (fun cenv s₄ =>
      codeAny (model prog w) A (.compStart (.ListComp elt [⟨.Name x px, iter, ifs, 0⟩] scope pos) 0 (.ref I) acc { cenv with scope := relabel scope env }) (RR acc cenv.locals) s₄) E s₃) E s₂ := by
  refine wpAny_newObj_type (nfe_cell hc hp ?_)
  dsimp only [newEnv]
  generalize hH2 : s₂.heap.push { cls := .type "list", dict := none, data := .seq ([] : List Value).toArray } = H2
  have hC : H2.objs.size = s₂.heap.objs.size + 1 := by rw [← hH2, Heap.size_push]
  have hH3s : (H2.push { cls := .type "dict", data := .dict #[] }).objs.size = H2.objs.size + 1 := Heap.size_push ..
  have hns0 : (H2.push { cls := .type "dict", data := .dict #[] }).Ns H2.objs.size (fun _ => none) := Heap.Ns.new H2 (.type "dict")
  generalize hH3 : H2.push { cls := .type "dict", data := .dict #[] } = H3 at hH3s hns0 ⊢
  generalize hH4 : H3.push { cls := .type "cell", data := .cell none } = H4
  rw [← hH3s]
  have hK : H3.objs.size = s₂.heap.objs.size + 2 := by rw [hH3s, hC]
  have hDC : s₂.heap.objs.size ≠ H2.objs.size := by rw [hC]; exact Nat.ne_of_lt (Nat.lt_succ_self _)
  have hKC : H3.objs.size ≠ H2.objs.size := by rw [hH3s]; exact Nat.ne_of_gt (Nat.lt_succ_self _)
  have hKD : H3.objs.size ≠ s₂.heap.objs.size := by rw [hK]; exact Nat.ne_of_gt (Nat.lt_succ_of_lt (Nat.lt_succ_self _))
  have below : ∀ b, b < s₂.heap.objs.size → b ≠ H2.objs.size ∧ b ≠ s₂.heap.objs.size ∧ b ≠ H3.objs.size := fun b hb => ⟨by rw [hC]; exact Nat.ne_of_lt (Nat.lt_succ_of_lt hb), Nat.ne_of_lt hb, by rw [hK]; exact Nat.ne_of_lt (Nat.lt_succ_of_lt (Nat.lt_succ_of_lt hb))⟩
  have hDw : s₂.heap.objs.size ∉ wr := fun hm => Nat.lt_irrefl _ (hwlt _ hm)
  have hCw : H2.objs.size ∉ wr := fun hm => by have := hwlt _ hm; rw [hC] at this; exact Nat.lt_irrefl _ (Nat.lt_of_succ_lt this)
  have hKw : H3.objs.size ∉ wr := fun hm => by have := hwlt _ hm; rw [hK] at this; exact Nat.lt_irrefl _ (Nat.lt_of_succ_lt (Nat.lt_of_succ_lt this))
  have up2 : ∀ b o, s₂.heap.get? b = some o → H2.get? b = some o := fun b o e => hH2 ▸ Heap.get?_push_of_some _ e
  have up4 : ∀ b o, H2.get? b = some o → H4.get? b = some o := fun b o e => hH4 ▸ Heap.get?_push_of_some _ (hH3 ▸ Heap.get?_push_of_some _ e)
  have old : ∀ b o, s₂.heap.get? b = some o → H4.get? b = some o := fun b o e => up4 b o (up2 b o e)
  have hacc : H4.get? s₂.heap.objs.size = some (LCg.lst []) := up4 _ _ (hH2 ▸ Heap.get?_push_size _ rfl)
  have hcel : H4.get? H3.objs.size = some { cls := .type "cell", data := .cell none } := hH4 ▸ Heap.get?_push_size _ rfl
  have hns₁ : H4.Ns H2.objs.size (fun _ => none) := hns0.at' fun o e => hH4 ▸ Heap.get?_push_of_some _ e
  have fresh : ∀ a, s₂.heap.objs.size ≤ a → s₂.heap.get? a = none := fun a ha => by
    cases e : s₂.heap.get? a with
    | none => rfl
    | some o' => exact absurd (Heap.lt_size e) (Nat.not_lt.mpr ha)
  have fresh₀ : ∀ a, s₂.heap.objs.size ≤ a → h₀.get? a = none := fun a ha => by
    cases e : h₀.get? a with
    | none => rfl
    | some o' => have := F.keep a o' e; rw [fresh a ha] at this; cases this
  have hD₀ : h₀.get? s₂.heap.objs.size = none := fresh₀ _ (Nat.le_refl _)
  have hC₀ : h₀.get? H2.objs.size = none := fresh₀ _ (by rw [hC]; exact Nat.le_succ _)
  have hK₀ : h₀.get? H3.objs.size = none := fresh₀ _ (by rw [hK]; exact Nat.le_add_right _ 2)
  have hLlt : L < s₂.heap.objs.size := F.ns.lt
  have hDL : s₂.heap.objs.size ≠ L := Ne.symm (below L hLlt).2.1
  have hCL : H2.objs.size ≠ L := Ne.symm (below L hLlt).1
  have hKL : H3.objs.size ≠ L := Ne.symm (below L hLlt).2.2
  have off₀ : ∀ p ∈ news, p.1 ∉ wr ∧ p.1 ≠ H2.objs.size ∧ p.1 ≠ s₂.heap.objs.size ∧ p.1 ≠ H3.objs.size := fun p hp => have z := below _ (Heap.lt_size (N p hp).1); ⟨off p hp, z.1, z.2.1, z.2.2⟩
  have N1 : News h₀ L H4 news := fun p hp => ⟨old _ _ (N p hp).1, (N p hp).2⟩
  have F1 : Fr h₀ L H4 m := F.keeps old
  have hst₁ : St 0 H4 := hSt _ _ _ news hst (fun b _ o e => old b o e) F1.keep N1 (hS _ _ _ h0)
  have loop : ∀ s₃ : Shared, s₃ = { s₂ with heap := H4 } →
      codeAny (model prog w) A (.compLoop (.ListComp elt [⟨.Name x px, iter, ifs, 0⟩] scope pos) 0 (.ref I) (.ref s₂.heap.objs.size) (compEnvC scope ((x, H3.objs.size) :: cl) H2.objs.size env))
        (RR (.ref s₂.heap.objs.size) H2.objs.size) s₃ := by
    rintro s₃ rfl
    refine comp_loop_list
      (fun k s' => ∃ h' tk i ys m' news' oK c, s' = { s₂ with heap := h', toks := tk } ∧ i ≤ n ∧ k = n + 1 - i ∧ ys.length ≤ i ∧ St i h' ∧ Fr h₀ L h' m ∧ h'.Ns H2.objs.size m' ∧ oK.data = .cell c ∧ News h₀ L h' ((s₂.heap.objs.size, (LCg.lst ys)) :: (H3.objs.size, oK) :: news') ∧
        (∀ p ∈ news', p.1 ∉ wr ∧ p.1 ≠ H2.objs.size ∧ p.1 ≠ s₂.heap.objs.size ∧ p.1 ≠ H3.objs.size) ∧ J i ys news') ?_ (n + 1)
      ⟨H4, _, 0, [], _, news, { cls := .type "cell", data := .cell none }, none, rfl, Nat.zero_le _, rfl, Nat.le_refl _, hst₁, F1, hns₁, rfl, ?_, off₀, h0⟩
    · rintro k s' ⟨h', tk, i, ys, m', news', oK, c, rfl, hi, rfl, hyl, hst', F', hn', hoK, N', off', hJ⟩
      have offD : ∀ p ∈ (s₂.heap.objs.size, (LCg.lst ys)) :: (H3.objs.size, oK) :: news', p.1 ∉ wr := fun p hp => by
        rcases List.mem_cons.mp hp with rfl | hp
        · exact hDw
        · rcases List.mem_cons.mp hp with rfl | hp
          · exact hKw
          · exact (off' p hp).1
      by_cases hlt : i < n
      · refine wpAny_mono (W.item i { s₂ with heap := h', toks := tk } (fun v s₁ => ∃ h₁ tk₁, s₁ = { s₂ with heap := h₁, toks := tk₁ } ∧ P i v ∧ St (i + 1) h₁ ∧ (∀ b o, b ∉ wr → h'.get? b = some o → h₁.get? b = some o)) _ (fun _ _ => False) hlt hst'
          (fun v h' tk' hP hst' hk => ⟨h', tk', rfl, hP, hst', hk⟩)) (fun r s₁ hr => ?_) fun _ _ x => x
        refine hideG ?_
        intro G hG
        obtain ⟨v, rfl, hgo⟩ := hr
        refine hG ?_
        clear hG G
        refine wpAny_mono hgo (fun _ s₂' h₂ => ?_) fun _ _ x => x.elim
        refine hideG ?_
        intro G hG
        obtain ⟨h₂, tk₂, rfl, hP, hst₂, hk₂⟩ := h₂
        refine hG ?_
        clear hG G
        have F₂ := old_kept F' hLw hw0 hk₂
        have N₂ := off_kept N' offD hk₂
        have hn₂ : h₂.Ns H2.objs.size m' := hn'.at' fun o e => hk₂ _ o hCw e
        refine wpAny_assign_Name (wpAny_storeName_cell (c := H3.objs.size) (by simp [compEnvC, relabel, hkind]) (hx _ _) (by simp [compEnvC]) ⟨oK, (N₂ _ (List.mem_cons_of_mem _ List.mem_cons_self)).1, hoK⟩ fun h₃ hv₃ hs₃ => ?_)
        refine hideG ?_
        intro G hG
        obtain ⟨oK₃, hgK₃, hoK₃⟩ := hv₃
        refine hG ?_
        clear hG G
        have F₃ : Fr h₀ L h₃ m := F₂.change hs₃ hKL hK₀
        have keep₃ : ∀ p ∈ news', h₃.get? p.1 = some p.2 := fun p hp => hs₃.extBut _ _ (off' p hp).2.2.2 (N₂ p (List.mem_cons_of_mem _ (List.mem_cons_of_mem _ hp))).1
        have N₃ : News h₀ L h₃ news' := fun p hp => ⟨keep₃ p hp, (N₂ p (List.mem_cons_of_mem _ (List.mem_cons_of_mem _ hp))).2⟩
        have hn₃ : h₃.Ns H2.objs.size m' := hn₂.sameBut hs₃ (Ne.symm hKC)
        have hgD₃ : h₃.get? s₂.heap.objs.size = some (LCg.lst ys) := hs₃.extBut _ _ (Ne.symm hKD) (N₂ _ List.mem_cons_self).1
        have hst₃ : St (i + 1) h₃ := hSt _ _ _ _ hst₂ (fun b hb o e => hs₃.extBut b o (fun q => hKw (q ▸ hb)) e) F₃.keep N₃ (hS _ _ _ hJ)
        refine hideG ?_
        intro G hG
        obtain ⟨oC, heC, hoC⟩ := LCg.ns_obj hn₃
        refine hG ?_
        clear hG G
        have N₄ : News h₀ L h₃ ((H2.objs.size, oC) :: (s₂.heap.objs.size, (LCg.lst ys)) :: (H3.objs.size, oK₃) :: (ownOf h₀ wr h₃ ++ news')) := by
          intro p hp
          rcases List.mem_cons.mp hp with rfl | hp
          · exact ⟨heC, hCL, hC₀⟩
          · rcases List.mem_cons.mp hp with rfl | hp
            · exact ⟨hgD₃, hDL, hD₀⟩
            · rcases List.mem_cons.mp hp with rfl | hp
              · exact ⟨hgK₃, hKL, hK₀⟩
              · exact ((news_ownOf hLw).append N₃) p hp
        have fin : ∀ s₅ ys', TurnlistC.CEndC h₀ L m s₂ wr (ownOf h₀ wr h₃) H2.objs.size oC s₂.heap.objs.size (LCg.lst ys) H3.objs.size oK₃ (J (i + 1) ys') s₅ → ∃ h₄ tk₄ news₄, s₅ = { s₂ with heap := h₄, toks := tk₄ } ∧ St (i + 1) h₄ ∧ Fr h₀ L h₄ m ∧ h₄.Ns H2.objs.size m' ∧
            News h₀ L h₄ ((s₂.heap.objs.size, (LCg.lst ys)) :: (H3.objs.size, oK₃) :: news₄) ∧ (∀ p ∈ news₄, p.1 ∉ wr ∧ p.1 ≠ H2.objs.size ∧ p.1 ≠ s₂.heap.objs.size ∧ p.1 ≠ H3.objs.size) ∧ J (i + 1) ys' news₄ := by
          rintro s₅ ys' ⟨h₄, tk₄, news₄, rfl, F₄, N₄, off₄, hJ₄⟩
          have N₅ := N_tail (N_tail (N_tail N₄))
          refine ⟨h₄, tk₄, news₄, rfl, hSt _ _ _ _ hst₃ (own_kept hw0 N₅) F₄.keep N₅.right (hS _ _ _ hJ₄), F₄, hoC.ns (N₄ _ List.mem_cons_self).1, fun p hp => ?_, off₄, hJ₄⟩
          rcases List.mem_cons.mp hp with rfl | hp
          · exact N₄ _ (List.mem_cons_of_mem _ List.mem_cons_self)
          · rcases List.mem_cons.mp hp with rfl | hp
            · exact N₄ _ (List.mem_cons_of_mem _ (List.mem_cons_of_mem _ List.mem_cons_self))
            · exact N₅.right p hp
        refine wpAny_mono (turn i v H2.objs.size s₂.heap.objs.size H3.objs.size oC oK₃ ys news' _ h₃ _ _ hlt hP hJ hoK₃ F₃ N₄ ownOf_sub off' hCw hDw hKw (Ne.symm hDC) hKC hKD) (fun ok s₄ h₄ => ?_) fun _ _ e => e
        cases ok with
        | false =>
          refine hideG ?_
          intro G hG
          obtain ⟨h₅, tk₅, news₅, rfl, hst₅, F₅, hn₅, N₅, off₅, hJ₅⟩ := fin _ _ h₄
          refine hG ?_
          clear hG G
          exact ⟨n + 1 - (i + 1), sub_dec hlt, h₅, tk₅, i + 1, ys, _, news₅, oK₃, _, rfl, hlt, rfl, Nat.le_succ_of_le hyl, hst₅, F₅, hn₅, hoK₃, N₅, off₅, hJ₅⟩
        | true =>
          have h₄' := h₄
          simp only [if_true] at h₄' ⊢
          refine wpAny_mono h₄' (fun y s₅ h₅ => ?_) fun _ _ e => e
          refine hideG ?_
          intro G hG
          obtain ⟨h₅, tk₅, news₅, rfl, hst₅, F₅, hn₅, N₅, off₅, hJ₅⟩ := fin _ _ h₅
          refine hG ?_
          clear hG G
          have zD := (N₅ _ List.mem_cons_self).1
          refine append_at (hsz := by show ys.toArray.size ≤ sizeLine; rw [List.size_toArray]; exact Nat.le_trans (Nat.le_trans hyl hi) hsz) zD fun h₆ hs₆ hD₆ => ?_
          have F₆ := F₅.change hs₆ hDL hD₀
          have N₆ : News h₀ L h₆ news₅ := fun p hp => ⟨hs₆.extBut _ _ (off₅ p hp).2.2.1 (N₅ p (List.mem_cons_of_mem _ (List.mem_cons_of_mem _ hp))).1, (N₅ p (List.mem_cons_of_mem _ (List.mem_cons_of_mem _ hp))).2⟩
          have hK₆ : h₆.get? H3.objs.size = some oK₃ := hs₆.extBut _ _ hKD (N₅ _ (List.mem_cons_of_mem _ List.mem_cons_self)).1
          refine ⟨n + 1 - (i + 1), sub_dec hlt, h₆, tk₅, i + 1, ys ++ [y], _, news₅, oK₃, _, rfl, hlt, rfl, by rw [List.length_append, List.length_singleton]; exact Nat.succ_le_succ hyl, hSt _ _ _ _ hst₅ (fun b hb o e => hs₆.extBut b o (fun q => hDw (q ▸ hb)) e) F₆.keep N₆ (hS _ _ _ hJ₅), F₆,
            hn₅.sameBut hs₆ (Ne.symm hDC), hoK₃, fun p hp => ?_, off₅, hJ₅⟩
          rcases List.mem_cons.mp hp with rfl | hp
          · exact ⟨hD₆.trans (congrArg some (LCg.lst_snoc ys y)), hDL, hD₀⟩
          · rcases List.mem_cons.mp hp with rfl | hp
            · exact ⟨hK₆, hKL, hK₀⟩
            · exact N₆ p hp
      · obtain rfl : i = n := Nat.le_antisymm hi (Nat.not_lt.mp hlt)
        refine W.done _ _ _ hst' fun h₂ tk₂ hk₂ => ?_
        have N₂ := off_kept N' offD hk₂
        refine hRR _ _ h₂ tk₂ _ ys news' (old_kept F' hLw hw0 hk₂) (fun p hp => ?_) (fun p hp => (off' p hp).2.2.1) (hn'.at' fun o e => hk₂ _ o hCw e) hC₀ hD₀ hCL hDL (Ne.symm hDC) (fun p hp => (off' p hp).2.1) hJ
        rcases List.mem_cons.mp hp with rfl | hp
        · exact N₂ _ List.mem_cons_self
        · exact N₂ p (List.mem_cons_of_mem _ (List.mem_cons_of_mem _ hp))
    · intro p hp
      rcases List.mem_cons.mp hp with rfl | hp
      · exact ⟨hacc, hDL, hD₀⟩
      · rcases List.mem_cons.mp hp with rfl | hp
        · exact ⟨hcel, hKL, hK₀⟩
        · exact N1 p hp
  exact codeAny_compStart_list (loop _ rfl) (W.self 0 _ _ _ hst₁ (loop _ rfl))
theorem after_list_asC {elt iter : PySem.Expr} {ifs : List PySem.Expr} {scope : Scope} {cl : List (Str × Addr)} {pos px : Pos} {s₂ : Shared} {I : Addr} {wr : List Addr} {n : Nat} {x : Str} {P : Nat → Value → Prop} {St : Nat → Heap → Prop} {S : List (Addr × Obj) → Prop} {news : List (Addr × Obj)}
    {y : Str} {py : Pos} {Q : Value → Shared → Prop} (hLe : env.locals = L) (X : Src prog w A h₀ L m news (.Name x px) I wr n (fun i v _ => P i v) St S s₂) (hsz : n ≤ sizeLine)
    (hy : env.kindOf y = some .local) (hpp : (env.scope.kind == .class || (env.scope.kind == .module && env.locals != env.globals)) = false)
    (J : Nat → List Value → List (Addr × Obj) → Prop) (hS : ∀ i ys nw, J i ys nw → S nw)
    (hc : ∀ n acc, cellsFrom n scope.names acc = (x, n) :: acc) (hp : ∀ h, pushCells h scope.names = h.push { cls := .type "cell", data := .cell none }) (hkind : scope.kind = .function)
    (hx : ∀ C K, (compEnvC scope ((x, K) :: cl) C env).kindOf x = some .cell)
    (h0 : J 0 [] news) (turn : TurnlistC prog w A h₀ L m env elt ifs scope cl x s₂ wr n P J)
    (done : ∀ D h tk ys news', Fr h₀ L h (fun z => if z = y then some (.ref D) else m z) → News h₀ L h ((D, (LCg.lst ys)) :: news') → (∀ p ∈ news', p.1 ≠ D) → J n ys news' → Q .none { s₂ with heap := h, toks := tk }) :
    Afterlist prog w A E (some (assign (.Name y py) env)) Q elt (.Name x px) iter ifs scope cl pos env (.ref I) s₂ := by
  subst hLe
  refine comp_listC (RR := fun acc C => compPost (model prog w) A E (some (assign (.Name y py) env)) Q acc C) X.W hsz X.keep J hS hc hp hkind hx X.st X.lt X.Lw X.w0 X.off X.F X.N h0 turn ?_
  intro D C h' tk m' ys news' F' N' o1 hn hC₀ hD₀ hCL hDL hCD offC fin
  show wpAny _ A (assign (.Name y py) env (.ref D)) _ _ _
  refine wpAny_assign_Name (wpAny_storeName_local hy F'.ns (fun h₂ hn₂ hs₂ => ?_) hpp)
  have hL₀ : h₀.get? env.locals = none := Heap.get?_none_of_le F'.above
  have F₂ : Fr h₀ env.locals h₂ (fun z => if z = y then some (.ref D) else m z) := ⟨hn₂, fun b o e => hs₂.extBut b o (fun q => by rw [q, hL₀] at e; cases e) (F'.keep b o e), F'.above⟩
  refine ⟨m', hn.sameBut hs₂ hCL, fun h'' hs'' => done D h'' _ ys news' (F₂.change hs'' hCL hC₀) (fun p hp => ?_) o1 fin⟩
  have z : h₂.get? p.1 = some p.2 := hs₂.extBut _ _ (N' p hp).2.1 (N' p hp).1
  refine ⟨hs''.extBut _ _ ?_ z, (N' p hp).2⟩
  rcases List.mem_cons.mp hp with rfl | hp
  · exact Ne.symm hCD
  · exact offC p hp
end
section
variable {prog : Program} {w : World} {A : Around} {E : Value → Shared → Prop} {s : Shared} {h₀ : Heap} {L : Addr} {m : Str → Option Value} {news : List (Addr × Obj)} {env : Env}
theorem GWalk.more {target : PySem.Expr} {I : Addr} {wr wr' : List Addr} {n : Nat} {P : Nat → Value → Heap → Prop} {St : Nat → Heap → Prop} (W : GWalk prog w A target I wr n P St) (hs : ∀ b ∈ wr, b ∈ wr') : GWalk prog w A target I wr' n P St where
  item := fun i s Q E E' hi st hQ => W.item i s Q E E' hi st fun v h' tk hP st' hk => hQ v h' tk hP st' fun b o hb e => hk b o (fun hm => hb (hs b hm)) e
  done := fun s Q E st hQ => W.done s Q E st fun h' tk hk => hQ h' tk fun b o hb e => hk b o (fun hm => hb (hs b hm)) e
  self := W.self
theorem src_enum_list {R' : Value → Shared → Prop} {l : Addr} {vs : List Value} {k : Nat} (hh : A.handled = none) (F : Fr h₀ L s.heap m) (N : News h₀ L s.heap news) (hm : (l, lstO vs k) ∈ news)
    (h : ∀ e it St s₂, (∃ h', s₂ = { s with heap := h' }) → (∀ elts k' pos, Src prog w A h₀ L m news (.Tuple elts k' pos) e [e, it] vs.length
      (fun i v h => ∃ T t x, v = .ref T ∧ vs[i]? = some x ∧ h.IsTuple T #[.int i t, x]) St (fun nw => (l, lstO vs k) ∈ nw) s₂) → R' (.ref e) s₂) :
    wpAny (model prog w) A (call (.type "enumerate") [.ref l]) (fun xv s₁ => wpAny (model prog w) A (pyIter xv) R' E s₁) E s := by
  have hlt : l < s.heap.objs.size := Heap.lt_size (N _ hm).1
  have hls : s.heap.IsList l vs.toArray := ⟨_, (N _ hm).1, rfl, _, rfl⟩
  refine call_enumerate_list hls fun h' he hit hsz hk => ?_
  refine wpAny_pyIter_enum he ?_
  refine h _ s.heap.objs.size (fun i h => (∃ old, IsEnum h (s.heap.objs.size + 1) s.heap.objs.size i old) ∧ h.IsListIter s.heap.objs.size l i ∧ h.IsList l vs.toArray) _ ⟨h', rfl⟩ fun elts k' pos => ?_
  have W := GWalk.tuple (elts := elts) (k := k') (pos := pos) (WalksT.enumerate (prog := prog) (w := w) (A := A) hh (s.heap.objs.size + 1) s.heap.objs.size l (Nat.ne_of_gt (Nat.lt_succ_self _)) (Nat.ne_of_lt (Nat.lt_succ_of_lt hlt)) (Nat.ne_of_lt hlt) vs.toArray)
  have two : ∀ b ∈ [s.heap.objs.size + 1, s.heap.objs.size], b = s.heap.objs.size + 1 ∨ b = s.heap.objs.size := fun b hb => by simpa using hb
  have new0 : ∀ b, s.heap.objs.size ≤ b → h₀.get? b = none := fun b hb => by
    cases e : h₀.get? b with
    | none => rfl
    | some o' => exact absurd (Heap.lt_size (F.keep b o' e)) (Nat.not_lt.mpr hb)
  exact {
    W := {
      item := fun i s Q E E' hi st hQ => W.item i s Q E E' (by simpa using hi) st fun v h' tk hP => hQ v h' tk (by
        refine hideG ?_
        intro G hG
        obtain ⟨T, vals, rfl, ⟨t, x, hx, rfl⟩, hT⟩ := hP
        refine hG ?_
        clear hG G
        exact ⟨T, t, x, rfl, by simpa using hx, hT⟩)
      done := fun s Q E st => W.done s Q E (by simpa using st)
      self := W.self }
    keep := fun i h h' nw st e k N' S => ⟨st.1.imp fun old q => e _ (by simp) _ q, st.2.1.at fun o q => e _ (by simp) o q, ⟨_, (N' _ S).1, rfl, _, rfl⟩⟩
    live := fun i h st b hb => by
      rcases two b hb with rfl | rfl
      · exact let ⟨_, q⟩ := st.1; ⟨_, q⟩
      · exact let ⟨o, e, _⟩ := st.2.1; ⟨o, e⟩
    st := ⟨⟨_, he⟩, hit, hls.at fun o e => hk _ o e⟩
    lt := fun b hb => by
      show b < h'.objs.size
      rw [hsz]
      rcases two b hb with rfl | rfl
      · exact Nat.lt_succ_self _
      · exact Nat.lt_succ_of_lt (Nat.lt_succ_self _)
    Lw := fun hb => by
      have := F.ns.lt
      rcases two _ hb with q | q
      · exact Nat.ne_of_lt (Nat.lt_succ_of_lt this) q
      · exact Nat.ne_of_lt this q
    w0 := fun b hb => by
      rcases two b hb with rfl | rfl
      · exact new0 _ (Nat.le_succ _)
      · exact new0 _ (Nat.le_refl _)
    off := fun p hp' hb => by
      have := Heap.lt_size (N p hp').1
      rcases two _ hb with q | q
      · exact Nat.ne_of_lt (Nat.lt_succ_of_lt this) q
      · exact Nat.ne_of_lt this q
    above := fun p hp' b hb => by
      have := Heap.lt_size (N p hp').1
      rcases two b hb with rfl | rfl
      · exact Nat.lt_succ_of_lt this
      · exact this
    F := F.keeps hk
    N := N.grown hk }
theorem src_zip_lists {R' : Value → Shared → Prop} {l1 l2 : Addr} {vs us : List Value} {k1 k2 : Nat} (hh : A.handled = none) (F : Fr h₀ L s.heap m) (N : News h₀ L s.heap news) (hm1 : (l1, lstO vs k1) ∈ news) (hm2 : (l2, lstO us k2) ∈ news)
    (h : ∀ z wr St s₂, (∃ h', s₂ = { s with heap := h' }) → (∀ elts k' pos, Src prog w A h₀ L m news (.Tuple elts k' pos) z wr (min vs.length us.length)
      (fun i v h => ∃ T x y, v = .ref T ∧ vs[i]? = some x ∧ us[i]? = some y ∧ h.IsTuple T #[x, y]) St (fun nw => (l1, lstO vs k1) ∈ nw ∧ (l2, lstO us k2) ∈ nw) s₂) → R' (.ref z) s₂) :
    wpAny (model prog w) A (call (.type "zip") [.ref l1, .ref l2]) (fun xv s₁ => wpAny (model prog w) A (pyIter xv) R' E s₁) E s := by
  have hlt1 : l1 < s.heap.objs.size := Heap.lt_size (N _ hm1).1
  have hlt2 : l2 < s.heap.objs.size := Heap.lt_size (N _ hm2).1
  have hls1 : s.heap.IsList l1 vs.toArray := ⟨_, (N _ hm1).1, rfl, _, rfl⟩
  have hls2 : s.heap.IsList l2 us.toArray := ⟨_, (N _ hm2).1, rfl, _, rfl⟩
  refine call_zip_2 hls1 hls2 fun h' hz hTI hTO hi1 hi2 hsz hk => ?_
  refine wpAny_pyIter_zip hz ?_
  generalize hn : s.heap.objs.size = n at *
  refine h _ [n + 4, n + 3, n, n + 1, n + 2] (fun i h => IsZip h (n + 4) (n + 2) (n + 3) .none ∧ IsPair h (n + 2) (.ref n) (.ref (n + 1)) ∧ (∃ a b, IsPair h (n + 3) a b) ∧ h.IsListIter n l1 i ∧ h.IsListIter (n + 1) l2 i ∧ h.IsList l1 vs.toArray ∧ h.IsList l2 us.toArray) _ ⟨h', rfl⟩ fun elts k' pos => ?_
  have up : ∀ {i j : Nat}, i < j → n + i ≠ n + j := fun h => Nat.ne_of_lt (Nat.add_lt_add_left h n)
  have dn : ∀ {i j : Nat}, j < i → n + i ≠ n + j := fun h => Nat.ne_of_gt (Nat.add_lt_add_left h n)
  have b1 : ∀ i : Nat, l1 ≠ n + i := fun i => Nat.ne_of_lt (Nat.lt_of_lt_of_le hlt1 (Nat.le_add_right n i))
  have b2 : ∀ i : Nat, l2 ≠ n + i := fun i => Nat.ne_of_lt (Nat.lt_of_lt_of_le hlt2 (Nat.le_add_right n i))
  have D : ZipApart (n + 4) (n + 2) (n + 3) n (n + 1) l1 l2 :=
    ⟨up (by decide), up (by decide), up (i := 0) (by decide), up (by decide), up (by decide), dn (j := 0) (by decide), dn (by decide), dn (j := 0) (by decide), dn (by decide), up (i := 0) (by decide), b1 4, b1 3, b1 0, b1 1, b2 4, b2 3, b2 0, b2 1⟩
  have W := (GWalk.tuple (elts := elts) (k := k') (pos := pos) (WalksT.zip2 (prog := prog) (w := w) (A := A) hh (n + 4) (n + 2) (n + 3) n (n + 1) l1 l2 D vs.toArray us.toArray)).more (wr' := [n + 4, n + 3, n, n + 1, n + 2]) (fun b hb => by
    simp only [List.mem_cons, List.not_mem_nil, or_false] at hb ⊢
    rcases hb with h | h | h | h <;> simp [h])
  have five : ∀ b ∈ [n + 4, n + 3, n, n + 1, n + 2], n ≤ b ∧ b < n + 5 := fun b hb => by
    simp only [List.mem_cons, List.not_mem_nil, or_false] at hb
    rcases hb with rfl | rfl | rfl | rfl | rfl
    · exact ⟨Nat.le_add_right _ _, Nat.add_lt_add_left (by decide) n⟩
    · exact ⟨Nat.le_add_right _ _, Nat.add_lt_add_left (by decide) n⟩
    · exact ⟨Nat.le_refl _, Nat.lt_add_of_pos_right (by decide)⟩
    · exact ⟨Nat.le_add_right _ _, Nat.add_lt_add_left (by decide) n⟩
    · exact ⟨Nat.le_add_right _ _, Nat.add_lt_add_left (by decide) n⟩
  have new0 : ∀ b, n ≤ b → h₀.get? b = none := fun b hb => by
    cases e : h₀.get? b with
    | none => rfl
    | some o' => exact absurd (Heap.lt_size (F.keep b o' e)) (Nat.not_lt.mpr (hn ▸ hb))
  have low : ∀ p ∈ news, p.1 < n := fun p hp => hn ▸ Heap.lt_size (N p hp).1
  exact {
    W := {
      item := fun i s Q E E' hi st hQ => W.item i s Q E E' (by simpa using hi) st fun v h' tk hP => hQ v h' tk (by
        refine hideG ?_
        intro G hG
        obtain ⟨T, vals, rfl, ⟨x, y, hx, hy, rfl⟩, hT⟩ := hP
        refine hG ?_
        clear hG G
        exact ⟨T, x, y, rfl, by simpa using hx, by simpa using hy, hT⟩)
      done := fun s Q E st => W.done s Q E (by simpa using st)
      self := W.self }
    keep := fun i h h' nw st e k N' S => ⟨e _ (by simp) _ st.1, e _ (by simp) _ st.2.1, (let ⟨a, b, q⟩ := st.2.2.1; ⟨a, b, e _ (by simp) _ q⟩), st.2.2.2.1.at fun o q => e _ (by simp) o q, st.2.2.2.2.1.at fun o q => e _ (by simp) o q, ⟨_, (N' _ S.1).1, rfl, _, rfl⟩, ⟨_, (N' _ S.2).1, rfl, _, rfl⟩⟩
    live := fun i h st b hb => by
      simp only [List.mem_cons, List.not_mem_nil, or_false] at hb
      rcases hb with rfl | rfl | rfl | rfl | rfl
      · exact ⟨_, st.1⟩
      · exact let ⟨_, _, q⟩ := st.2.2.1; ⟨_, q⟩
      · exact let ⟨o, e, _⟩ := st.2.2.2.1; ⟨o, e⟩
      · exact let ⟨o, e, _⟩ := st.2.2.2.2.1; ⟨o, e⟩
      · exact ⟨_, st.2.1⟩
    st := ⟨hz, hTI, ⟨_, _, hTO⟩, hi1, hi2, hls1.at fun o e => hk _ o e, hls2.at fun o e => hk _ o e⟩
    lt := fun b hb => by
      show b < h'.objs.size
      rw [hsz]
      exact (five b hb).2
    Lw := fun hb => by
      exact Nat.lt_irrefl _ (Nat.lt_of_lt_of_le (hn ▸ F.ns.lt) (five _ hb).1)
    w0 := fun b hb => new0 _ (five b hb).1
    off := fun p hp hb => by
      exact Nat.lt_irrefl _ (Nat.lt_of_lt_of_le (low p hp) (five _ hb).1)
    above := fun p hp b hb => Nat.lt_of_lt_of_le (low p hp) (five b hb).1
    F := F.keeps hk
    N := N.grown hk }
end
end Mine

-- Cdue
open PySem PySem.W PyProof.Rows PySem.Spec PySem.Calls
set_option maxRecDepth 100000
set_option maxHeartbeats 8000000
namespace Mine
theorem fresh_Cdue : True := by
  w_top off
  exact trivial
noncomputable def maxI (l : List Int) : Int := l.foldl max (l.headD 0)
noncomputable def minI (l : List Int) : Int := l.foldl min (l.headD 0)
theorem foldl_max_ge : ∀ (l : List Int) (b : Int), b ≤ l.foldl max b ∧ ∀ a ∈ l, a ≤ l.foldl max b
  | [], b => ⟨Int.le_refl _, fun _ h => nomatch h⟩
  | x :: l, b => by
    refine hideG ?_
    intro G hG
    obtain ⟨h1, h2⟩ := foldl_max_ge l (max b x)
    refine hG ?_
    clear hG G
    refine ⟨Int.le_trans (Int.le_max_left _ _) h1, fun a ha => ?_⟩
    rcases List.mem_cons.mp ha with rfl | ha
    · exact Int.le_trans (Int.le_max_right _ _) h1
    · exact h2 a ha
theorem foldl_max_mem : ∀ (l : List Int) (b : Int), l.foldl max b = b ∨ l.foldl max b ∈ l
  | [], b => .inl rfl
  | x :: l, b => by
    rw [List.foldl_cons]
    rcases foldl_max_mem l (max b x) with h | h
    · rw [h]
      rcases Int.le_total b x with c | c
      · right; rw [Int.max_eq_right c]; exact List.mem_cons_self
      · left; exact Int.max_eq_left c
    · right; exact List.mem_cons_of_mem _ h
theorem maxI_mem {l : List Int} (h : l ≠ []) : maxI l ∈ l := by
  cases l with
  | nil => exact absurd rfl h
  | cons x l =>
    unfold maxI
    rcases foldl_max_mem (x :: l) ((x :: l).headD 0) with e | e
    · rw [e]; exact List.mem_cons_self
    · exact e
theorem maxI_ge {l : List Int} {a : Int} (h : a ∈ l) : a ≤ maxI l := (foldl_max_ge l _).2 a h
theorem maxI_of {l : List Int} {M : Int} (h : M ∈ l) (g : ∀ a ∈ l, a ≤ M) : M = maxI l :=
  Int.le_antisymm (maxI_ge h) (g _ (maxI_mem (by rintro rfl; cases h)))
theorem minI_of {a b M : Int} (h : M ∈ [a, b]) (g : ∀ x ∈ [a, b], M ≤ x) : M = minI [a, b] := by
  have h1 := g a (by simp)
  have h2 := g b (by simp)
  simp only [List.mem_cons, List.not_mem_nil, or_false] at h
  show M = min (min a a) b
  rw [Int.min_self]
  rcases h with rfl | rfl
  · exact (Int.min_eq_left h2).symm
  · exact (Int.min_eq_right h1).symm
noncomputable def heavyD (ps : List Int) (mask : Nat) : Int := maxI (((List.range 8).filter fun one => decide (one &&& mask = one)).map (ps.getD · 0))
noncomputable def reachD (tall : List Int) (row : Int) : Nat := (((List.range 3).filter fun k => decide (row ≤ tall.getD k 0)).map (2 ^ ·)).sum
noncomputable def dueD (tall ps : List Int) : Int := maxI ((tall ++ (List.range 8).map (heavyD ps)).map fun row => minI [row, heavyD ps (reachD tall row)])
theorem band_iff {a b : Nat} : Builtin.bitAnd (a : Int) (b : Int) = (a : Int) ↔ a &&& b = a := by
  rw [bitAnd_pp (Int.natCast_nonneg _) (Int.natCast_nonneg _), Int.toNat_natCast, Int.toNat_natCast]
  omega
theorem ints_get {vs : List Value} {ns : List Int} (h : IntsAre vs ns) {i : Nat} (hi : i < ns.length) : ∃ t, vs[i]? = some (.int (ns.getD i 0) t) := by
  refine IntsAre.get h i _ ?_
  rw [List.getD_eq_getElem?_getD, List.getElem?_eq_getElem hi]
  rfl
theorem range_filter {f : Nat → Bool} {i : Nat} {α : Type} {g : Nat → α} : ((List.range (i + 1)).filter f).map g = ((List.range i).filter f).map g ++ (if f i = true then [g i] else []) := by
  rw [List.range_succ, List.filter_append, List.map_append]
  congr 1
  rw [List.filter_cons, List.filter_nil]
  split <;> simp_all
theorem perm_due {g h : Heap} {L : Addr} {xS xl x7 a3 a2 a1 : Addr × Obj} {news : List (Addr × Obj)} (N : News g L h (xS :: xl :: x7 :: a3 :: a2 :: a1 :: news))
    (hl : ∀ q ∈ xS :: x7 :: a2 :: a1 :: news, q.1 ≠ xl.1) (hy : ∀ q ∈ xS :: x7 :: a2 :: a1 :: news, q.1 ≠ a3.1) {P : Prop}
    (hP : ∀ base, xS ∈ base → x7 ∈ base → a2 ∈ base → a1 ∈ base → (∀ p ∈ news, p ∈ base) → (∀ q ∈ base, q.1 ≠ xl.1 ∧ q.1 ≠ a3.1) → News g L h (xl :: a3 :: base) → P) : P := by
  refine hP (xS :: x7 :: a2 :: a1 :: news) (by simp) (by simp) (by simp) (by simp) (fun p hp => by simp [hp]) (fun q hq => ⟨hl q hq, hy q hq⟩) fun q hq => N q ?_
  simp only [List.mem_cons] at hq ⊢
  rcases hq with h | h | h | h | h | h | h <;> simp [h]
theorem sum_cast {f : Nat → Nat} : ∀ l : List Nat, (l.map fun k => ((f k : Nat) : Int)).sum = (((l.map f).sum : Nat) : Int)
  | [] => rfl
  | x :: l => by
    rw [List.map_cons, List.map_cons, List.sum_cons, List.sum_cons, sum_cast l]
    omega
theorem reachD_lt (tall : List Int) (x : Int) : reachD tall x < 8 := by
  unfold reachD
  have e : List.range 3 = [0, 1, 2] := rfl
  rw [e]
  simp only [List.filter_cons, List.filter_nil]
  split <;> split <;> split <;> decide

theorem N_of_base {g h : Heap} {L : Addr} {x1 x2 : Addr × Obj} {base news : List (Addr × Obj)} (N : News g L h (x1 :: x2 :: base)) (hs : ∀ p ∈ news, p ∈ base) : News g L h news := fun p hp => N p (List.mem_cons_of_mem _ (List.mem_cons_of_mem _ (hs p hp)))

section
variable {w : World} {p : Program} {loose : List Str} {mean : ExcName → Option Value} {mg mb : Str → Option Value}
   {dp un : Nat} {gd : Option (List Code)} {cn : Str} {cs : Scope} {a : Addr} {ccd : Value} {cl : List (Str × Addr)} {outer : List Env} {A₀ : Around} {base h₀ : Heap} {L : Addr} {m : Str → Option Value} {news : List (Addr × Obj)} {s : Shared} {Q E : Value → Shared → Prop}
   (B : Below A₀ base outer h₀) (F : Fr h₀ L s.heap m) (X : (Mine.hd.heap_1 w.params).In h₀) (N : News h₀ L s.heap news) (T : Top p loose mean mg mb h₀) (hk : cs.kind = .function)
include B F X N T hk

local macro_rules | `(tactic| k_room) => `(tactic| ktr_room)
local macro_rules | `(tactic| k_units) => `(tactic| ktr_units)
local macro_rules | `(tactic| k_mem) => `(tactic| first | with_reducible assumption | assumption)
local macro_rules | `(tactic| k_all) => `(tactic| first | with_reducible assumption | exact allLt_ne (by first | assumption | exact And.right (by assumption)))
set_option hygiene false in
theorem due_k (hd : dp + 8 < recursionLimit) (hu : un + 48 < cLine) {la lp : Addr} {tvs pvs : List Value} {nt np : Nat} {tall parts : List Int}
   (ht : (la, lstO tvs nt) ∈ news) (hp : (lp, lstO pvs np) ∈ news) (hti : IntsAre tvs tall) (hpi : IntsAre pvs parts) (ht3 : tall.length = 3) (hp8 : parts.length = 8)
   (hret : ∀ t h' tk', Fr h₀ L h' m → News h₀ L h' news → Q (.int (dueD tall parts) t) { s with heap := h', toks := tk' }) :
   wpAny (model PySem.Challenge.rw_wf0029_01.row.prog w) (ktrTop dp un gd cn cs L a ccd cl outer) (call (.ref 139) [.ref la, .ref lp]) Q E s := by
  revert X; k_fill; intro X
  refine wpAny_noRaise ?_
  refine wpAny_call ?_
  k_dflt (refine' code_defC ?k1 ?k2 ?k3 ?k4 ?k5 ?kA ?kF ?kK ?k6 ?k7 ?k8 ?k9 ?kB ?kD ?_ ?c2 ?c3 ?c4; (case kA => exact rfl); (case kF => exact rfl); (case kK => assumption); (case k1 => k_asm); (case k2 => k_asm); (case k3 => k_asm); (case k4 => k_asm); (case k5 => k_asm); (case k6 => k_is); (case k7 => k_is); (case k8 => ktr_room); (case k9 => first | exact BindsTo.of_eq rfl | exact binds_K (by k_in) rfl (by k_is) rfl rfl rfl); (case kB => exact rfl); (case kD => decide +kernel); (case c2 => exact rfl); (case c3 => exact rfl); (case c4 => exact rfl); k_whole; intro g' L' h' tk' cells' FG' F' N' Y' B' X' T' l1; (try k_lt l1); k_cells Y'; (try simp only [List.cons_append, List.nil_append] at N'); (try dsimp only); (try k_lift B'); (try k_fold))
  (with_reducible rename Fr _ _ _ _ => FE)
  refine letF FE ?_
  clear FE
  intro mE FE
  iterate 1 walk1
  rename_i oR oP oT e1 e2 e3
  have e1 : oR.data = .cell none := e1
  have e2 : oP.data = .cell (some (.ref lp)) := e2
  have e3 : oT.data = .cell (some (.ref la)) := e3
  refine wpQ ?_
  intro Qh1 hQh1
  refine exec_list (by with_unfolding_all rfl) (by with_unfolding_all rfl) rfl (by decide) ?_
  iterate 7 walk1
  rename_i h6 tk6 t6 u6 v6 hR F6 N6 k6
  revert F6
  suffices key : ∀ M : Str → Option Value, Fr g' L' h6 M → _ from key _
  intro M F6
  refine src_range (n := 8) rfl F6 N6 hR rfl rfl fun I St s₂ hs₂ X7 => ?_
  refine hideG ?_
  intro G hG
  obtain ⟨h7, rfl⟩ := hs₂
  refine hG ?_
  clear hG G
  refine' after_list_asC rfl (X7 _ _) ?sz rfl rfl
    (fun i ys nw => nw = (L' + 1 + 1 + 1, oR) :: (L' + 1 + 1, oP) :: (L' + 1, oT) :: news ∧ IntsAre ys ((List.range i).map (heavyD parts)))
    ?hS (fun _ _ => rfl) (fun _ => rfl) rfl (fun _ _ => rfl) ⟨rfl, .nil⟩ ?_ ?_
  case sz => rw [sizeLine_eq]; omega
  case hS => intro _ _ _ _; trivial
  · intro i2 v2 C D2 K oC oK ys0 nw own2 h10 tk10 E' hi2 hBt hJt hoK F10 N10 hown2 hoff2 hCw hDw hKw hCD hKC hKD
    refine wpAny_tests_nil ?_
    refine ite_yes rfl ?_
    refine wpQ ?_
    intro Qt1 hQt1
    obtain ⟨tt2, hv2⟩ := hBt
    obtain ⟨hnw, hys⟩ := hJt
    subst hnw
    have hv2 : v2 = .int (i2 : Int) tt2 := by rw [hv2, Int.zero_add]
    subst hv2
    have sub10 : ∀ p ∈ news, p ∈ own2 ++ (L' + 1 + 1 + 1, oR) :: (L' + 1 + 1, oP) :: (L' + 1, oT) :: news := fun p hp => List.mem_append_right _ (by simp [hp])
    have hP10 : (L' + 1 + 1, oP) ∈ own2 ++ (L' + 1 + 1 + 1, oR) :: (L' + 1 + 1, oP) :: (L' + 1, oT) :: news := List.mem_append_right _ (by simp)
    revert N10 sub10 hP10
    generalize hled : own2 ++ (L' + 1 + 1 + 1, oR) :: (L' + 1 + 1, oP) :: (L' + 1, oT) :: news = led
    revert led
    refine hold ?_
    intro led hled N10 sub10 hP10
    iterate 4 walk1
    refine wpQ ?_
    intro Qh2 hQh2
    refine eval_list (by with_unfolding_all rfl) rfl (by decide) ?_
    iterate 7 walk1
    rename_i h12 tk12 t12 u12 v12 hR12 F12 N12 k12
    refine src_range (n := 8) rfl F12 N12 hR12 rfl rfl fun I3 St3 s₂ hs₂ X11 => ?_
    refine hideG ?_
    intro G hG
    obtain ⟨h13, rfl⟩ := hs₂
    refine hG ?_
    clear hG G
    refine' after_list (X11 _ _) ?sz2
      (fun i ys nw => nw = (C, oC) :: (D2, LCg.lst ys0) :: (K, oK) :: led ∧ IntsAre ys (((List.range i).filter fun one => decide (one &&& i2 = one)).map (parts.getD · 0)))
      ?hS2 (fun i m₂ => ∃ t, m₂ "one" = some (.int (i : Int) t)) ?c12 rfl ?asg2 ⟨rfl, .nil⟩ ?_ ?_
    case sz2 => rw [sizeLine_eq]; omega
    case hS2 => intro _ _ _ _; trivial
    case c12 => decide
    case asg2 =>
      refine asg_name ?_ ?_ ?_
      · rfl
      · rfl
      · intro i v m₂ hP hm
        refine hideG ?_
        intro G hG
        obtain ⟨t, rfl⟩ := hP
        refine hG ?_
        clear hG G
        exact ⟨t, by rw [hm, Int.zero_add]⟩
    · intro i5 C5 D5 oC5 m₅ ys5 nw own5 h17 tk17 E5 hi5 hBt hJt hoC5 F17 N17 hown5 hoff5 hCw5 hDw5 hCD5
      obtain ⟨t5, hm5⟩ := hBt
      obtain ⟨hnw, hys5⟩ := hJt
      subst hnw
      have sub17 : ∀ p ∈ led, p ∈ own5 ++ (C, oC) :: (D2, LCg.lst ys0) :: (K, oK) :: led := fun p hp => List.mem_append_right _ (by simp [hp])
      have hK17 : (K, oK) ∈ own5 ++ (C, oC) :: (D2, LCg.lst ys0) :: (K, oK) :: led := List.mem_append_right _ (by simp)
      revert N17 sub17 hK17
      generalize hled5 : own5 ++ (C, oC) :: (D2, LCg.lst ys0) :: (K, oK) :: led = led5
      revert led5
      refine hold ?_
      intro led5 hled5 N17 sub17 hK17
      have hP17 := sub17 _ hP10
      refine wpAny_tests_one ?_
      iterate 9 walk1
      · rename_i hb
        have hb' : i5 &&& i2 = i5 := band_iff.mp hb
        iterate 3 walk1
        refine hideG ?_
        intro G hG
        obtain ⟨tq, hq⟩ := ints_get hpi (i := i5) (by omega)
        refine hG ?_
        clear hG G
        refine sub_lst (by with_reducible assumption) (List.mem_cons_of_mem _ (List.mem_cons_of_mem _ (sub17 _ (sub10 _ hp)))) (k := i5) rfl (by omega) hq ?_
        refine cend_mk F17 N17 _ (fun p hp => hled5 ▸ hp) hoff5 ⟨rfl, ?_⟩
        rw [range_filter, if_pos (by simpa using hb')]
        exact ints_snoc hys5 _ _
      · rename_i hb
        have hb' : ¬ (i5 &&& i2 = i5) := fun e => hb (band_iff.mpr e)
        refine cend_mk F17 N17 _ (fun p hp => hled5 ▸ hp) hoff5 ⟨rfl, ?_⟩
        rw [range_filter, if_neg (by simpa using hb'), List.append_nil]
        exact hys5
    · intro D6 h18 tk18 ys6 nw F18 N18 hoff6 hJr
      obtain ⟨hnw, hys6⟩ := hJr
      subst hnw
      refine hQh2 _ _ ?_
      clear hQh2 Qh2
      (try dsimp only)
      iterate 1 walk1
      have hne6 : ((List.range 8).filter fun one => decide (one &&& i2 = one)).map (parts.getD · 0) ≠ [] := by
        intro e
        have : (parts.getD 0 0) ∈ ((List.range 8).filter fun one => decide (one &&& i2 = one)).map (parts.getD · 0) :=
          List.mem_map.mpr ⟨0, List.mem_filter.mpr ⟨by decide, by simp⟩, rfl⟩
        rw [e] at this
        cases this
      refine kso_max F18 N18 (⟨_, (N18 _ List.mem_cons_self).1, rfl, _, rfl⟩) hys6 (List.length_pos_iff.mpr hne6) rfl ?_
      intro h19 M19 t19 tk19 F19 N19 hm19 hg19
      have e19 : M19 = heavyD parts i2 := maxI_of hm19 hg19
      subst e19
      refine hQt1 _ _ ?_
      refine cendC_mk F19 N19 _ (fun p hp => ?_) hoff2 ⟨rfl, ?_⟩
      · rw [hled] at hp
        exact List.mem_cons_of_mem _ hp
      · rw [List.range_succ, List.map_append]
        exact ints_snoc hys _ _
  · intro D7 h8 tk8 ys nw F8 N8 hoff8 hJr
    obtain ⟨hnw, hys⟩ := hJr
    subst hnw
    refine hQh1 _ _ ?_
    clear hQh1 Qh1
    (try dsimp only)
    iterate 8 walk1
    refine wpAny_noRaise (wpAny_For ?_ ?hs)
    case hs => intro _; rfl
    iterate 3 walk1
    rename_i ll h9 F9x N9x l9 h10 F10 N10
    have hyl : ys.length = 8 := by rw [hys.length]; simp
    have htl : tvs.length = 3 := by rw [hti.length, ht3]
    refine add_lsts F10 N10 (List.mem_cons_of_mem _ (List.mem_cons_of_mem _ (List.mem_cons_of_mem _ (List.mem_cons_of_mem _ (List.mem_cons_of_mem _ ht))))) (List.mem_cons_of_mem _ List.mem_cons_self) (by omega) ?_
    intro S h14 lS F14 N14
    have hlS := lS (ll, lstO [] 0) (by simp)
    have hRS := lS (L' + 1 + 1 + 1, oR) (by simp)
    have hR7 : L' + 1 + 1 + 1 ≠ D7 := hoff8 (L' + 1 + 1 + 1, oR) (by simp)
    have hlR : ll ≠ L' + 1 + 1 + 1 := neN (Nat.ne_of_gt l9.2.1)
    refine perm_due N14 ?_ ?_ fun base mS mD mP mT subb offb N15 => ?_
    · exact ne_cons (Nat.ne_of_gt hlS) (ne_cons (Nat.ne_of_lt l9.1) (ne_cons (Nat.ne_of_lt l9.2.2.1) (ne_cons (Nat.ne_of_lt l9.2.2.2.1) (allLt_ne l9.2.2.2.2))))
    · exact ne_cons (Nat.ne_of_gt hRS) (ne_cons (Ne.symm hR7) (ne_cons (Nat.ne_of_lt (Nat.lt_succ_self _)) (ne_cons (Nat.ne_of_lt (Nat.lt_succ_of_lt (Nat.lt_succ_self _))) (fun q hq => Nat.ne_of_lt (Nat.lt_trans (l1 q hq) (Nat.lt_succ_of_lt (Nat.lt_succ_of_lt (Nat.lt_succ_self _))))))))
    revert F14
    suffices key : ∀ M : Str → Option Value, M "least" = some (.ref ll) → M "heavy" = some (.ref D7) → Fr g' L' h14 M → _ from key _ rfl rfl
    intro M hM1 hM2 F14
    refine src_list rfl F14 N15 (.inr ⟨_, List.mem_cons_of_mem _ (List.mem_cons_of_mem _ mS), rfl, _, rfl⟩) fun I St s₂ hs₂ X15 => ?_
    refine hideG ?_
    intro G hG
    obtain ⟨h16, rfl⟩ := hs₂
    refine hG ?_
    clear hG G
    have X16 := X15 "row" ⟨0, 0, 0, 0⟩
    have hall : IntsAre (tvs ++ ys) (tall ++ (List.range 8).map (heavyD parts)) := hti.append hys
    have hdue : dueD tall parts = maxI ((tall ++ (List.range 8).map (heavyD parts)).map fun row => minI [row, heavyD parts (reachD tall row)]) := rfl
    rw [hdue] at hret
    clear hdue
    have hall11 : (tall ++ (List.range 8).map (heavyD parts)).length = 11 := by simp [ht3]
    revert hall hret hall11
    generalize tall ++ (List.range 8).map (heavyD parts) = rows
    revert rows
    refine hold ?_
    intro rows hret hall hall11
    refine for_gen (X15 _ _).W X16.keep (fun i m1 nw => ∃ vs n oR' c, nw = (ll, lstO vs n) :: (L' + 1 + 1 + 1, oR') :: base ∧ oR'.data = .cell c ∧ IntsAre vs ((rows.take i).map fun row => minI [row, heavyD parts (reachD tall row)]) ∧
      Junk ["reached"] (fun z => if z = "least" then some (.ref ll) else if z = "heavy" then some (.ref D7) else M z) m1)
      (fun i m1 nw hJ => by obtain ⟨_, _, _, _, rfl, _⟩ := hJ; exact .inr ⟨_, List.mem_cons_of_mem _ (List.mem_cons_of_mem _ mS), rfl, _, rfl⟩) X16.Lw X16.w0 X16.off X16.st X16.F X16.N ?_ ?_ ?_
    · refine ⟨[], 0, oR, _, rfl, e1, .nil, Junk.intro fun z _ => ?_⟩
      (repeat' split) <;> (try rfl) <;> (rename_i h; subst h; first | exact hM1 | exact hM2)
    · intro i v m1 nw own h17 tk17 hi hvi hB F17 N17 hown hoff
      refine wpQ ?_
      intro Qa hQa
      obtain ⟨vs, n, oR', c, rfl, hoR, hvs5, u, rfl⟩ := hB
      refine letF F17 ?_
      clear F17
      intro mF F17
      have N17 := news_in2 N17
      have hvi : (tvs ++ ys)[i]? = some v := by simpa using hvi
      refine hideG ?_
      intro G hG
      obtain ⟨x, tx, rfl, hri⟩ := hall.at i v hvi
      refine hG ?_
      clear hG G
      have offl : ∀ p ∈ own ++ base, p.1 ≠ ll := by
        intro p hp
        rcases List.mem_append.mp hp with hp | hp
        · exact fun e => (hoff (ll, lstO vs n) List.mem_cons_self) (e ▸ hown p hp)
        · exact (offb p hp).1
      have offR : ∀ p ∈ own ++ base, p.1 ≠ L' + 1 + 1 + 1 := by
        intro p hp
        rcases List.mem_append.mp hp with hp | hp
        · exact fun e => (hoff (L' + 1 + 1 + 1, oR') (List.mem_cons_of_mem _ List.mem_cons_self)) (e ▸ hown p hp)
        · exact (offb p hp).2
      have hsub8 : ∀ p ∈ base, p ∈ own ++ base := fun p hp => List.mem_append_right _ hp
      have mT8 := hsub8 _ mT
      have mD8 := hsub8 _ mD
      have sub8 : ∀ p ∈ news, p ∈ own ++ base := fun p hp => hsub8 _ (subb p hp)
      revert N17 offl offR hsub8 mT8 mD8 sub8
      generalize hrest : own ++ base = rest
      revert rest
      refine hold ?_
      intro rest hrest N17 offl offR hsub8 mT8 mD8 sub8
      iterate 2 walk1
      refine hQa _ _ ?_
      clear hQa Qa
      dsimp only
      refine wpQ ?_
      intro Qt hQt
      iterate 6 walk1
      rename_i h18 oR2 F18 N18 d18
      refine wpQ ?_
      intro Qh3 hQh3
      refine eval_list (by with_unfolding_all rfl) rfl (by decide) ?_
      iterate 7 walk1
      rename_i h19 tk19 t19 u19 v19 hR19 F19 N19 k19
      refine src_range (n := 3) rfl F19 N19 hR19 rfl rfl fun I3 St3 s₂ hs₂ X19 => ?_
      refine hideG ?_
      intro G hG
      obtain ⟨h20, rfl⟩ := hs₂
      refine hG ?_
      clear hG G
      refine' after_list (X19 _ _) ?sz2
        (fun i ys nw => nw = (ll, lstO vs n) :: (L' + 1 + 1 + 1, oR2) :: rest ∧ IntsAre ys (((List.range i).filter fun k => decide (x ≤ tall.getD k 0)).map fun k => ((2 ^ k : Nat) : Int)))
        ?hS2 (fun i m₂ => ∃ t, m₂ "k" = some (.int (i : Int) t)) ?c12 rfl ?asg2 ⟨rfl, .nil⟩ ?_ ?_
      case sz2 => rw [sizeLine_eq]; omega
      case hS2 => intro _ _ _ _; trivial
      case c12 => decide
      case asg2 =>
        refine asg_name ?_ ?_ ?_
        · rfl
        · rfl
        · intro i v m₂ hP hm
          refine hideG ?_
          intro G hG
          obtain ⟨t, rfl⟩ := hP
          refine hG ?_
          clear hG G
          exact ⟨t, by rw [hm, Int.zero_add]⟩
      · intro i5 C5 D5 oC5 m₅ ys5 nw own5 h21 tk21 E5 hi5 hBt hJt hoC5 F21 N21 hown5 hoff5 hCw5 hDw5 hCD5
        obtain ⟨t5, hm5⟩ := hBt
        obtain ⟨hnw, hys5⟩ := hJt
        subst hnw
        have sub21 : ∀ p ∈ rest, p ∈ own5 ++ (ll, lstO vs n) :: (L' + 1 + 1 + 1, oR2) :: rest := fun p hp => List.mem_append_right _ (by simp [hp])
        have hR21 : (L' + 1 + 1 + 1, oR2) ∈ own5 ++ (ll, lstO vs n) :: (L' + 1 + 1 + 1, oR2) :: rest := List.mem_append_right _ (by simp)
        revert N21 sub21 hR21
        generalize hled5 : own5 ++ (ll, lstO vs n) :: (L' + 1 + 1 + 1, oR2) :: rest = led5
        revert led5
        refine hold ?_
        intro led5 hled5 N21 sub21 hR21
        have hT21 := sub21 _ mT8
        refine hideG ?_
        intro G hG
        obtain ⟨tq, hq⟩ := ints_get hti (i := i5) (by omega)
        refine hG ?_
        clear hG G
        refine wpAny_tests_one ?_
        iterate 4 walk1
        refine sub_lst (by with_reducible assumption) (List.mem_cons_of_mem _ (List.mem_cons_of_mem _ (sub21 _ (sub8 _ ht)))) (k := i5) rfl (by omega) hq ?_
        iterate 4 walk1
        · rename_i hb
          iterate 4 walk1
          refine cend_mk F21 N21 _ (fun p hp => hled5 ▸ hp) hoff5 ⟨rfl, ?_⟩
          rw [range_filter, if_pos (by simpa using hb)]
          exact ints_snoc hys5 _ _
        · rename_i hb
          refine cend_mk F21 N21 _ (fun p hp => hled5 ▸ hp) hoff5 ⟨rfl, ?_⟩
          rw [range_filter, if_neg (by simpa using hb), List.append_nil]
          exact hys5
      · intro D6 h22 tk22 ys6 nw F22 N22 hoff6 hJr
        obtain ⟨hnw, hys6⟩ := hJr
        subst hnw
        refine hQh3 _ _ ?_
        clear hQh3 Qh3
        (try dsimp only)
        iterate 2 walk1
        rename_i h23 tk23 t23 F23 N23
        have hre : (((List.range 3).filter fun k => decide (x ≤ tall.getD k 0)).map fun k => ((2 ^ k : Nat) : Int)).sum = ((reachD tall x : Nat) : Int) := sum_cast _
        rw [hre]
        have hr8 := reachD_lt tall x
        refine hideG ?_
        intro G hG
        obtain ⟨tq, hq⟩ := ints_get hys (i := reachD tall x) (by simpa using hr8)
        refine hG ?_
        clear hG G
        have hgD : ((List.range 8).map (heavyD parts)).getD (reachD tall x) 0 = heavyD parts (reachD tall x) := by
          rw [List.getD_eq_getElem?_getD, List.getElem?_map, List.getElem?_range hr8]; rfl
        rw [hgD] at hq
        have mD9 : (D7, LCg.lst ys) ∈ (D6, LCg.lst ys6) :: (ll, lstO vs n) :: (L' + 1 + 1 + 1, oR2) :: rest := List.mem_cons_of_mem _ (List.mem_cons_of_mem _ (List.mem_cons_of_mem _ mD8))
        iterate 20 walk1
        refine sub_lst (by with_reducible assumption) mD9 (k := reachD tall x) rfl (by omega) hq ?_
        iterate 3 walk1
        rename_i lA h24 F24 N24 lA1
        refine kso_min (ns := [x, heavyD parts (reachD tall x)]) F24 N24 ⟨_, (N24 _ List.mem_cons_self).1, rfl, _, rfl⟩ (.cons _ _ (.cons _ _ .nil)) (Nat.zero_lt_succ _) rfl ?_
        intro h25 M25 t25 tk25 F25 N25 hm25 hg25
        have e25 : M25 = minI [x, heavyD parts (reachD tall x)] := minI_of hm25 hg25
        subst e25
        iterate 1 walk1
        have q1 := neN (hoff6 (ll, lstO vs n) List.mem_cons_self)
        have q2 := neN (Ne.symm q1)
        have hvl : vs.length ≤ 1000 := by rw [hvs5.length, List.length_map, List.length_take]; omega
        refine' append_lst (xs := vs) (n := n) ?aF ?aN ?aU hvl ?_; (case aF => k_asm); (case aN => exact N25); (case aU => k_upd)
        intro h26 F26 N26
        k_steps
        subst hrest
        refine hQt _ _ ?_
        refine ⟨_, _, _, (ll, lstO (vs ++ [Value.int (minI [x, heavyD parts (reachD tall x)]) t25]) (n + 1)) :: (L' + 1 + 1 + 1, oR2) :: base, rfl, F26, news_out2 (N_tail (N_tail N26)), ?_, _, _, oR2, _, rfl, d18, ?_, junk_one⟩
        · intro p hp
          rcases List.mem_cons.mp hp with rfl | hp
          · exact hoff (ll, lstO vs n) List.mem_cons_self
          · rcases List.mem_cons.mp hp with rfl | hp
            · exact hoff (L' + 1 + 1 + 1, oR') (List.mem_cons_of_mem _ List.mem_cons_self)
            · exact hoff p (List.mem_cons_of_mem _ (List.mem_cons_of_mem _ hp))
        · rw [List.take_add_one, hri, List.map_append]
          exact ints_snoc hvs5 _ _
    · rintro m1 nw h17 tk17 ⟨vs, n, oR', c, rfl, hoR, hvs5, u, rfl⟩ F17 N17
      refine letF F17 ?_
      clear F17
      intro mF F17
      have hn11 : (tvs ++ ys).toArray.size = 11 := by simp; omega
      rw [hn11, List.take_of_length_le (by omega)] at hvs5
      have hvsl : vs.length ≤ 1000 := by rw [hvs5.length, List.length_map]; omega
      iterate 9 walk1
      refine kso_max (by k_asm) N17 ⟨_, (N17 _ List.mem_cons_self).1, rfl, _, rfl⟩ hvs5 (by rw [List.length_map]; omega) rfl ?_
      intro h18 M18 t18 tk18 F18 N18 hm18 hg18
      have e18 : M18 = maxI (rows.map fun row => minI [row, heavyD parts (reachD tall row)]) := maxI_of hm18 hg18
      subst e18
      k_steps
      rename_i kF kN Tc kX
      exact hret _ _ _ kF (N_of_base kN subb)

end
end Mine

-- L10
open PySem PySem.W PyProof.Rows PySem.Spec PySem.Calls
set_option maxRecDepth 100000
namespace Mine
section
variable {prog : Program} {w : World} {A : Around} {E : Value → Shared → Prop} {s : Shared} {h₀ : Heap} {L : Addr} {m : Str → Option Value} {env : Env}
theorem comp_list2 {elt target iter : PySem.Expr} {ifs : List PySem.Expr} {scope : Scope} {cl : List (Str × Addr)} {pos : Pos} {s₂ : Shared} {I : Addr} {wr : List Addr} {n : Nat} {P : Nat → Value → Heap → Prop} {St : Nat → Heap → Prop} {S : List (Addr × Obj) → Prop} {news : List (Addr × Obj)}
    {RR : Value → Addr → Result → Shared → Prop} (W : GWalk prog w A target I wr n P St) (hsz : n ≤ sizeLine)
    (hSt : ∀ i h h' nw, St i h → (∀ b ∈ wr, ∀ o, h.get? b = some o → h'.get? b = some o) → (∀ b o, h₀.get? b = some o → h'.get? b = some o) → News h₀ L h' nw → S nw → St i h')
    (J : Nat → List Value → List (Addr × Obj) → Prop) (hS : ∀ i ys nw, J i ys nw → S nw) (B : Nat → (Str → Option Value) → Prop)
    (hcell : ∀ y ∈ scope.names, y.2 ≠ .cell) (hkind : scope.kind = .function)
    (hasg : ∀ i v C m₁ (s' : Shared) (Q' : Unit → Shared → Prop) (E' : Value → Shared → Prop), P i v s'.heap → s'.heap.Ns C m₁ →
      (∀ h' tk m₂, B i m₂ → h'.Ns C m₂ → (∀ b o, b ≠ C → s'.heap.get? b = some o → h'.get? b = some o) → Q' () { s' with heap := h', toks := tk }) → wpAny (model prog w) A (assign target (compEnvC scope cl C env) v) Q' E' s')
    (hst : St 0 s₂.heap) (hwlt : ∀ b ∈ wr, b < s₂.heap.objs.size) (hLw : L ∉ wr) (hw0 : ∀ b ∈ wr, h₀.get? b = none) (off : ∀ p ∈ news, p.1 ∉ wr)
    (F : Fr h₀ L s₂.heap m) (N : News h₀ L s₂.heap news) (h0 : J 0 [] news)
    (turn : ∀ i C D oC m₂ ys news₁ own h tk (E' : Value → Shared → Prop), i < n → B i m₂ → J i ys news₁ → LCg.NsObj oC m₂ → Fr h₀ L h m → News h₀ L h ((C, oC) :: (D, (LCg.lst ys)) :: (own ++ news₁)) →
      (∀ p ∈ own, p.1 ∈ wr) → (∀ p ∈ news₁, p.1 ∉ wr ∧ p.1 ≠ C ∧ p.1 ≠ D) → C ∉ wr → D ∉ wr → C ≠ D → (∀ b ∈ wr, b < D) →
      wpAny (model prog w) A (forIn ifs true fun c r => if r = true then do let ok ← isTrue c (compEnvC scope cl C env) (eval c (compEnvC scope cl C env)); pure (ForInStep.yield ok) else pure (ForInStep.yield r)) (fun ok s₃ =>
        if ok = true then wpAny (model prog w) A (eval elt (compEnvC scope cl C env)) (fun y s₄ => CEnd h₀ L m s₂ wr own C oC D (LCg.lst ys) (J (i + 1) (ys ++ [y])) s₄) E' s₃
        else CEnd h₀ L m s₂ wr own C oC D (LCg.lst ys) (J (i + 1) ys) s₃) E' { s₂ with heap := h, toks := tk })
    (hRR : ∀ D C h tk m' ys news', (∀ p ∈ news, p.1 < D) → Fr h₀ L h m → News h₀ L h ((D, (LCg.lst ys)) :: news') → (∀ p ∈ news', p.1 ≠ D) → h.Ns C m' → h₀.get? C = none → h₀.get? D = none → C ≠ L → D ≠ L → C ≠ D → (∀ p ∈ news', p.1 ≠ C) → J n ys news' → RR (.ref D) C (.ok .next) { s₂ with heap := h, toks := tk }) :
    wpAny (model prog w) A (newList []) (fun acc s₃ => wpAny (model prog w) A (newFunctionEnv scope env.globals cl [] env.qual none .none (some env)) (fun cenv s₄ =>
      codeAny (model prog w) A (.compStart (.ListComp elt [⟨target, iter, ifs, 0⟩] scope pos) 0 (.ref I) acc { cenv with scope := relabel scope env }) (RR acc cenv.locals) s₄) E s₃) E s₂ := by
  refine wpAny_newObj_type (wpAny_newFunctionEnv hcell (by intro y hy; simp at hy) (fun h₁ hns₁ hsb₁ => ?_) hkind)
  dsimp only at hns₁ hsb₁ ⊢
  generalize hH2 : s₂.heap.push { cls := .type "list", dict := none, data := .seq ([] : List Value).toArray } = H2 at hns₁ hsb₁ ⊢
  have hC : H2.objs.size = s₂.heap.objs.size + 1 := by rw [← hH2, Heap.size_push]
  have hDC : s₂.heap.objs.size ≠ H2.objs.size := by rw [hC]; exact Nat.ne_of_lt (Nat.lt_succ_self _)
  have below : ∀ b, b < s₂.heap.objs.size → b ≠ H2.objs.size ∧ b ≠ s₂.heap.objs.size := fun b hb => ⟨by rw [hC]; exact Nat.ne_of_lt (Nat.lt_succ_of_lt hb), Nat.ne_of_lt hb⟩
  have hDw : s₂.heap.objs.size ∉ wr := fun hm => Nat.lt_irrefl _ (hwlt _ hm)
  have hCw : H2.objs.size ∉ wr := fun hm => by have := hwlt _ hm; rw [hC] at this; exact Nat.lt_irrefl _ (Nat.lt_of_succ_lt this)
  have old : ∀ b o, s₂.heap.get? b = some o → h₁.get? b = some o := fun b o e => hsb₁.extBut b o (below b (Heap.lt_size e)).1 (Heap.get?_push_of_some _ (hH2 ▸ Heap.get?_push_of_some _ e))
  have hacc : h₁.get? s₂.heap.objs.size = some (LCg.lst []) := hsb₁.extBut _ _ hDC (Heap.get?_push_of_some _ (hH2 ▸ Heap.get?_push_size _ rfl))
  have fresh : ∀ a, s₂.heap.objs.size ≤ a → s₂.heap.get? a = none := fun a ha => by
    cases e : s₂.heap.get? a with
    | none => rfl
    | some o' => exact absurd (Heap.lt_size e) (Nat.not_lt.mpr ha)
  have fresh₀ : ∀ a, s₂.heap.objs.size ≤ a → h₀.get? a = none := fun a ha => by
    cases e : h₀.get? a with
    | none => rfl
    | some o' => have := F.keep a o' e; rw [fresh a ha] at this; cases this
  have hD₀ : h₀.get? s₂.heap.objs.size = none := fresh₀ _ (Nat.le_refl _)
  have hC₀ : h₀.get? H2.objs.size = none := fresh₀ _ (by rw [hC]; exact Nat.le_succ _)
  have hLlt : L < s₂.heap.objs.size := F.ns.lt
  have hDL : s₂.heap.objs.size ≠ L := Ne.symm (below L hLlt).2
  have hCL : H2.objs.size ≠ L := Ne.symm (below L hLlt).1
  have off₀ : ∀ p ∈ news, p.1 ∉ wr ∧ p.1 ≠ H2.objs.size ∧ p.1 ≠ s₂.heap.objs.size := fun p hp => ⟨off p hp, (below _ (Heap.lt_size (N p hp).1)).1, (below _ (Heap.lt_size (N p hp).1)).2⟩
  have N1 : News h₀ L h₁ news := fun p hp => ⟨old _ _ (N p hp).1, (N p hp).2⟩
  have F1 : Fr h₀ L h₁ m := F.keeps old
  have hst₁ : St 0 h₁ := hSt _ _ _ news hst (fun b _ o e => old b o e) F1.keep N1 (hS _ _ _ h0)
  have loop : ∀ s₃ : Shared, s₃ = { s₂ with heap := h₁, toks := s₂.toks + ([] : List (Str × Value)).length } →
      codeAny (model prog w) A (.compLoop (.ListComp elt [⟨target, iter, ifs, 0⟩] scope pos) 0 (.ref I) (.ref s₂.heap.objs.size) (compEnvC scope cl H2.objs.size env))
        (RR (.ref s₂.heap.objs.size) H2.objs.size) s₃ := by
    rintro s₃ rfl
    refine comp_loop_list
      (fun k s' => ∃ h' tk i ys m' news', s' = { s₂ with heap := h', toks := tk } ∧ i ≤ n ∧ k = n + 1 - i ∧ ys.length ≤ i ∧ St i h' ∧ Fr h₀ L h' m ∧ h'.Ns H2.objs.size m' ∧ News h₀ L h' ((s₂.heap.objs.size, (LCg.lst ys)) :: news') ∧
        (∀ p ∈ news', p.1 ∉ wr ∧ p.1 ≠ H2.objs.size ∧ p.1 ≠ s₂.heap.objs.size) ∧ J i ys news') ?_ (n + 1)
      ⟨h₁, _, 0, [], _, news, rfl, Nat.zero_le _, rfl, Nat.le_refl _, hst₁, F1, hns₁, ?_, off₀, h0⟩
    · rintro k s' ⟨h', tk, i, ys, m', news', rfl, hi, rfl, hyl, hst', F', hn', N', off', hJ⟩
      have offD : ∀ p ∈ (s₂.heap.objs.size, (LCg.lst ys)) :: news', p.1 ∉ wr := fun p hp => by
        rcases List.mem_cons.mp hp with rfl | hp
        · exact hDw
        · exact (off' p hp).1
      by_cases hlt : i < n
      · refine wpAny_mono (W.item i { s₂ with heap := h', toks := tk } (fun v s₁ => ∃ h₁ tk₁, s₁ = { s₂ with heap := h₁, toks := tk₁ } ∧ P i v h₁ ∧ St (i + 1) h₁ ∧ (∀ b o, b ∉ wr → h'.get? b = some o → h₁.get? b = some o)) _ (fun _ _ => False) hlt hst'
          (fun v h' tk' hP hst' hk => ⟨h', tk', rfl, hP, hst', hk⟩)) (fun r s₁ hr => ?_) fun _ _ x => x
        refine hideG ?_
        intro G hG
        obtain ⟨v, rfl, hgo⟩ := hr
        refine hG ?_
        clear hG G
        refine wpAny_mono hgo (fun _ s₂' h₂ => ?_) fun _ _ x => x.elim
        refine hideG ?_
        intro G hG
        obtain ⟨h₂, tk₂, rfl, hP, hst₂, hk₂⟩ := h₂
        refine hG ?_
        clear hG G
        have F₂ := old_kept F' hLw hw0 hk₂
        have N₂ := off_kept N' offD hk₂
        refine hasg i v H2.objs.size m' _ _ _ hP (hn'.at' fun o e => hk₂ _ o hCw e) fun h₃ tk₃ m₂ hB hn₃ hk₃ => ?_
        have F₃ : Fr h₀ L h₃ m := ⟨F₂.ns.at' fun o e => hk₃ _ o (Ne.symm hCL) e, fun b o e => hk₃ b o (fun q => by rw [q, hC₀] at e; cases e) (F₂.keep b o e), F₂.above⟩
        have N₃ : News h₀ L h₃ ((s₂.heap.objs.size, (LCg.lst ys)) :: news') := fun p hp => by
          refine ⟨hk₃ _ _ ?_ (N₂ p hp).1, (N₂ p hp).2⟩
          rcases List.mem_cons.mp hp with rfl | hp
          · exact hDC
          · exact (off' p hp).2.1
        have hst₃ : St (i + 1) h₃ := hSt _ _ _ _ hst₂ (fun b hb o e => hk₃ b o (fun q => hCw (q ▸ hb)) e) F₃.keep (N_tail N₃) (hS _ _ _ hJ)
        refine hideG ?_
        intro G hG
        obtain ⟨oC, heC, hoC⟩ := LCg.ns_obj hn₃
        refine hG ?_
        clear hG G
        have N₄ : News h₀ L h₃ ((H2.objs.size, oC) :: (s₂.heap.objs.size, (LCg.lst ys)) :: (ownOf h₀ wr h₃ ++ news')) := by
          intro p hp
          rcases List.mem_cons.mp hp with rfl | hp
          · exact ⟨heC, hCL, hC₀⟩
          · rcases List.mem_cons.mp hp with rfl | hp
            · exact N₃ _ List.mem_cons_self
            · exact ((news_ownOf hLw).append (N_tail N₃)) p hp
        have fin : ∀ s₅ ys', CEnd h₀ L m s₂ wr (ownOf h₀ wr h₃) H2.objs.size oC s₂.heap.objs.size (LCg.lst ys) (J (i + 1) ys') s₅ → ∃ h₄ tk₄ news₄, s₅ = { s₂ with heap := h₄, toks := tk₄ } ∧ St (i + 1) h₄ ∧ Fr h₀ L h₄ m ∧ h₄.Ns H2.objs.size m₂ ∧
            News h₀ L h₄ ((s₂.heap.objs.size, (LCg.lst ys)) :: news₄) ∧ (∀ p ∈ news₄, p.1 ∉ wr ∧ p.1 ≠ H2.objs.size ∧ p.1 ≠ s₂.heap.objs.size) ∧ J (i + 1) ys' news₄ := by
          rintro s₅ ys' ⟨h₄, tk₄, news₄, rfl, F₄, N₄, off₄, hJ₄⟩
          have N₅ := N_tail (N_tail N₄)
          refine ⟨h₄, tk₄, news₄, rfl, hSt _ _ _ _ hst₃ (own_kept hw0 N₅) F₄.keep N₅.right (hS _ _ _ hJ₄), F₄, hoC.ns (N₄ _ List.mem_cons_self).1, fun p hp => ?_, off₄, hJ₄⟩
          rcases List.mem_cons.mp hp with rfl | hp
          · exact N₄ _ (List.mem_cons_of_mem _ List.mem_cons_self)
          · exact N₅.right p hp
        refine wpAny_mono (turn i H2.objs.size s₂.heap.objs.size oC m₂ ys news' _ h₃ _ _ hlt hB hJ hoC F₃ N₄ ownOf_sub off' hCw hDw (Ne.symm hDC) hwlt) (fun ok s₄ h₄ => ?_) fun _ _ e => e
        cases ok with
        | false =>
          refine hideG ?_
          intro G hG
          obtain ⟨h₅, tk₅, news₅, rfl, hst₅, F₅, hn₅, N₅, off₅, hJ₅⟩ := fin _ _ h₄
          refine hG ?_
          clear hG G
          exact ⟨n + 1 - (i + 1), sub_dec hlt, h₅, tk₅, i + 1, ys, _, news₅, rfl, hlt, rfl, Nat.le_succ_of_le hyl, hst₅, F₅, hn₅, N₅, off₅, hJ₅⟩
        | true =>
          have h₄' := h₄
          simp only [if_true] at h₄' ⊢
          refine wpAny_mono h₄' (fun y s₅ h₅ => ?_) fun _ _ e => e
          refine hideG ?_
          intro G hG
          obtain ⟨h₅, tk₅, news₅, rfl, hst₅, F₅, hn₅, N₅, off₅, hJ₅⟩ := fin _ _ h₅
          refine hG ?_
          clear hG G
          have zD := (N₅ _ List.mem_cons_self).1
          refine append_at (hsz := by show ys.toArray.size ≤ sizeLine; rw [List.size_toArray]; exact Nat.le_trans (Nat.le_trans hyl hi) hsz) zD fun h₆ hs₆ hD₆ => ?_
          have F₆ := F₅.change hs₆ hDL hD₀
          have N₆ : News h₀ L h₆ news₅ := fun p hp => ⟨hs₆.extBut _ _ (off₅ p hp).2.2 (N₅ p (List.mem_cons_of_mem _ hp)).1, (N₅ p (List.mem_cons_of_mem _ hp)).2⟩
          refine ⟨n + 1 - (i + 1), sub_dec hlt, h₆, tk₅, i + 1, ys ++ [y], _, news₅, rfl, hlt, rfl, by rw [List.length_append, List.length_singleton]; exact Nat.succ_le_succ hyl, hSt _ _ _ _ hst₅ (fun b hb o e => hs₆.extBut b o (fun q => hDw (q ▸ hb)) e) F₆.keep N₆ (hS _ _ _ hJ₅), F₆,
            hn₅.sameBut hs₆ (Ne.symm hDC), fun p hp => ?_, off₅, hJ₅⟩
          rcases List.mem_cons.mp hp with rfl | hp
          · exact ⟨hD₆.trans (congrArg some (LCg.lst_snoc ys y)), hDL, hD₀⟩
          · exact N₆ p hp
      · obtain rfl : i = n := Nat.le_antisymm hi (Nat.not_lt.mp hlt)
        refine W.done _ _ _ hst' fun h₂ tk₂ hk₂ => ?_
        exact hRR _ _ h₂ tk₂ _ ys news' (fun p hp => Heap.lt_size (N p hp).1) (old_kept F' hLw hw0 hk₂) (off_kept N' offD hk₂) (fun p hp => (off' p hp).2.2) (hn'.at' fun o e => hk₂ _ o hCw e) hC₀ hD₀ hCL hDL (Ne.symm hDC) (fun p hp => (off' p hp).2.1) hJ
    · intro p hp
      rcases List.mem_cons.mp hp with rfl | hp
      · exact ⟨hacc, hDL, hD₀⟩
      · exact N1 p hp
  exact codeAny_compStart_list (loop _ rfl) (W.self 0 _ _ _ hst₁ (loop _ rfl))
section
variable {elt target iter : PySem.Expr} {ifs : List PySem.Expr} {scope : Scope} {cl : List (Str × Addr)} {pos : Pos} {s₂ : Shared} {I : Addr} {wr : List Addr} {n : Nat} {P : Nat → Value → Heap → Prop} {St : Nat → Heap → Prop} {S : List (Addr × Obj) → Prop} {news : List (Addr × Obj)}
noncomputable def Turnlist2 (prog : Program) (w : World) (A : Around) (h₀ : Heap) (L : Addr) (m : Str → Option Value) (env : Env) (elt : PySem.Expr) (ifs : List PySem.Expr) (scope : Scope) (cl : List (Str × Addr)) (s₂ : Shared) (wr : List Addr) (n : Nat) (J : Nat → List Value → List (Addr × Obj) → Prop) (B : Nat → (Str → Option Value) → Prop) : Prop :=
  ∀ i C D oC m₂ ys news₁ own h tk (E' : Value → Shared → Prop), i < n → B i m₂ → J i ys news₁ → LCg.NsObj oC m₂ → Fr h₀ L h m → News h₀ L h ((C, oC) :: (D, (LCg.lst ys)) :: (own ++ news₁)) →
      (∀ p ∈ own, p.1 ∈ wr) → (∀ p ∈ news₁, p.1 ∉ wr ∧ p.1 ≠ C ∧ p.1 ≠ D) → C ∉ wr → D ∉ wr → C ≠ D → (∀ b ∈ wr, b < D) →
      wpAny (model prog w) A (forIn ifs true fun c r => if r = true then do let ok ← isTrue c (compEnvC scope cl C env) (eval c (compEnvC scope cl C env)); pure (ForInStep.yield ok) else pure (ForInStep.yield r)) (fun ok s₃ =>
        if ok = true then wpAny (model prog w) A (eval elt (compEnvC scope cl C env)) (fun y s₄ => CEnd h₀ L m s₂ wr own C oC D (LCg.lst ys) (J (i + 1) (ys ++ [y])) s₄) E' s₃
        else CEnd h₀ L m s₂ wr own C oC D (LCg.lst ys) (J (i + 1) ys) s₃) E' { s₂ with heap := h, toks := tk }
theorem after_list2 {Q : Value → Shared → Prop} (X : Src prog w A h₀ L m news target I wr n P St S s₂) (hsz : n ≤ sizeLine)
    (J : Nat → List Value → List (Addr × Obj) → Prop) (hS : ∀ i ys nw, J i ys nw → S nw) (B : Nat → (Str → Option Value) → Prop)
    (hcell : ∀ y ∈ scope.names, y.2 ≠ .cell) (hkind : scope.kind = .function)
    (hasg : ∀ i v C m₁ (s' : Shared) (Q' : Unit → Shared → Prop) (E' : Value → Shared → Prop), P i v s'.heap → s'.heap.Ns C m₁ →
      (∀ h' tk m₂, B i m₂ → h'.Ns C m₂ → (∀ b o, b ≠ C → s'.heap.get? b = some o → h'.get? b = some o) → Q' () { s' with heap := h', toks := tk }) → wpAny (model prog w) A (assign target (compEnvC scope cl C env) v) Q' E' s')
    (h0 : J 0 [] news) (turn : Turnlist2 prog w A h₀ L m env elt ifs scope cl s₂ wr n J B)
    (done : ∀ D h tk ys news', (∀ p ∈ news, p.1 < D) → Fr h₀ L h m → News h₀ L h ((D, (LCg.lst ys)) :: news') → (∀ p ∈ news', p.1 ≠ D) → J n ys news' → Q (.ref D) { s₂ with heap := h, toks := tk }) :
    Afterlist prog w A E none Q elt target iter ifs scope cl pos env (.ref I) s₂ := by
  refine comp_list2 (RR := fun acc C => compPost (model prog w) A E none Q acc C) X.W hsz X.keep J hS B hcell hkind hasg X.st X.lt X.Lw X.w0 X.off X.F X.N h0 turn ?_
  intro D C h tk m' ys news' hlD F' N' o1 hn hC₀ hD₀ hCL hDL hCD offC fin
  refine ⟨m', hn, fun h'' hs'' => done D h'' tk ys news' hlD (F'.change hs'' hCL hC₀) (fun p hp => ?_) o1 fin⟩
  refine ⟨hs''.extBut _ _ ?_ (N' p hp).1, (N' p hp).2⟩
  rcases List.mem_cons.mp hp with rfl | hp
  · exact Ne.symm hCD
  · exact offC p hp
end
end
section
variable {prog : Program} {w : World} {K : Type} [DecidableEq K] {knd : KeyKind prog w K} {A : Around} {E : Value → Shared → Prop} {s : Shared} {h₀ : Heap} {L : Addr} {m : Str → Option Value} {env : Env}
theorem comp_dict2 {kx vx target iter : PySem.Expr} {ifs : List PySem.Expr} {scope : Scope} {cl : List (Str × Addr)} {pos : Pos} {s₂ : Shared} {I : Addr} {wr : List Addr} {n : Nat} {P : Nat → Value → Heap → Prop} {St : Nat → Heap → Prop} {S : List (Addr × Obj) → Prop} {news : List (Addr × Obj)}
    {RR : Value → Addr → Result → Shared → Prop} (W : GWalk prog w A target I wr n P St) (hsz : n ≤ sizeLine)
    (hSt : ∀ i h h' nw, St i h → (∀ b ∈ wr, ∀ o, h.get? b = some o → h'.get? b = some o) → (∀ b o, h₀.get? b = some o → h'.get? b = some o) → News h₀ L h' nw → S nw → St i h')
    (J : Nat → List (K × Value) → List (Addr × Obj) → Prop) (hS : ∀ i ys nw, J i ys nw → S nw) (B : Nat → (Str → Option Value) → Prop)
    (hcell : ∀ y ∈ scope.names, y.2 ≠ .cell) (hkind : scope.kind = .function)
    (hasg : ∀ i v C m₁ (s' : Shared) (Q' : Unit → Shared → Prop) (E' : Value → Shared → Prop), P i v s'.heap → s'.heap.Ns C m₁ →
      (∀ h' tk m₂, B i m₂ → h'.Ns C m₂ → (∀ b o, b ≠ C → s'.heap.get? b = some o → h'.get? b = some o) → Q' () { s' with heap := h', toks := tk }) → wpAny (model prog w) A (assign target (compEnvC scope cl C env) v) Q' E' s')
    (hst : St 0 s₂.heap) (hwlt : ∀ b ∈ wr, b < s₂.heap.objs.size) (hLw : L ∉ wr) (hw0 : ∀ b ∈ wr, h₀.get? b = none) (off : ∀ p ∈ news, p.1 ∉ wr)
    (F : Fr h₀ L s₂.heap m) (N : News h₀ L s₂.heap news) (h0 : J 0 [] news)
    (turn : ∀ i C D oC oD m₂ ys news₁ own h tk (E' : Value → Shared → Prop), i < n → B i m₂ → J i ys news₁ → LCg.NsObj oC m₂ → oD.IsDictOf knd ys → Fr h₀ L h m → News h₀ L h ((C, oC) :: (D, oD) :: (own ++ news₁)) →
      (∀ p ∈ own, p.1 ∈ wr) → (∀ p ∈ news₁, p.1 ∉ wr ∧ p.1 ≠ C ∧ p.1 ≠ D) → C ∉ wr → D ∉ wr → C ≠ D → (∀ b ∈ wr, b < D) →
      wpAny (model prog w) A (forIn ifs true fun c r => if r = true then do let ok ← isTrue c (compEnvC scope cl C env) (eval c (compEnvC scope cl C env)); pure (ForInStep.yield ok) else pure (ForInStep.yield r)) (fun ok s₃ =>
        if ok = true then wpAny (model prog w) A (eval kx (compEnvC scope cl C env)) (fun kv s₄ => wpAny (model prog w) A (eval vx (compEnvC scope cl C env)) (fun vv s₅ => ∃ kk, knd.is kk kv = true ∧ CEnd h₀ L m s₂ wr own C oC D oD (J (i + 1) (stored ys kk vv)) s₅) E' s₄) E' s₃
        else CEnd h₀ L m s₂ wr own C oC D oD (J (i + 1) ys) s₃) E' { s₂ with heap := h, toks := tk })
    (hRR : ∀ D C h tk m' ys news' oD, L < D → Fr h₀ L h m → News h₀ L h ((D, oD) :: news') → oD.IsDictOf knd ys → (∀ p ∈ news', p.1 ≠ D) → h.Ns C m' → h₀.get? C = none → h₀.get? D = none → C ≠ L → D ≠ L → C ≠ D → (∀ p ∈ news', p.1 ≠ C) → J n ys news' → RR (.ref D) C (.ok .next) { s₂ with heap := h, toks := tk }) :
    wpAny (model prog w) A newDict (fun acc s₃ => wpAny (model prog w) A (newFunctionEnv scope env.globals cl [] env.qual none .none (some env)) (fun cenv s₄ =>
      codeAny (model prog w) A (.compStart (.DictComp kx vx [⟨target, iter, ifs, 0⟩] scope pos) 0 (.ref I) acc { cenv with scope := relabel scope env }) (RR acc cenv.locals) s₄) E s₃) E s₂ := by
  refine wpAny_newObj_type (wpAny_newFunctionEnv hcell (by intro y hy; simp at hy) (fun h₁ hns₁ hsb₁ => ?_) hkind)
  dsimp only at hns₁ hsb₁ ⊢
  have hnew : (s₂.heap.push { cls := .type "dict", dict := none, data := .dict #[] }).DictOf knd s₂.heap.objs.size [] := Heap.DictOf.new s₂.heap
  generalize hH2 : s₂.heap.push { cls := .type "dict", dict := none, data := .dict #[] } = H2 at hns₁ hsb₁ hnew ⊢
  have hC : H2.objs.size = s₂.heap.objs.size + 1 := by rw [← hH2, Heap.size_push]
  have hDC : s₂.heap.objs.size ≠ H2.objs.size := by rw [hC]; exact Nat.ne_of_lt (Nat.lt_succ_self _)
  have below : ∀ b, b < s₂.heap.objs.size → b ≠ H2.objs.size ∧ b ≠ s₂.heap.objs.size := fun b hb => ⟨by rw [hC]; exact Nat.ne_of_lt (Nat.lt_succ_of_lt hb), Nat.ne_of_lt hb⟩
  have hDw : s₂.heap.objs.size ∉ wr := fun hm => Nat.lt_irrefl _ (hwlt _ hm)
  have hCw : H2.objs.size ∉ wr := fun hm => by have := hwlt _ hm; rw [hC] at this; exact Nat.lt_irrefl _ (Nat.lt_of_succ_lt this)
  have old : ∀ b o, s₂.heap.get? b = some o → h₁.get? b = some o := fun b o e => hsb₁.extBut b o (below b (Heap.lt_size e)).1 (Heap.get?_push_of_some _ (hH2 ▸ Heap.get?_push_of_some _ e))
  have hacc0 : h₁.DictOf knd s₂.heap.objs.size [] := hnew.at fun o e => hsb₁.extBut _ _ hDC (Heap.get?_push_of_some _ e)
  refine hideG ?_
  intro G hG
  obtain ⟨oD, hacc, hoD⟩ := Heap.dictOf_iff.mp hacc0
  refine hG ?_
  clear hG G
  have fresh : ∀ a, s₂.heap.objs.size ≤ a → s₂.heap.get? a = none := fun a ha => by
    cases e : s₂.heap.get? a with
    | none => rfl
    | some o' => exact absurd (Heap.lt_size e) (Nat.not_lt.mpr ha)
  have fresh₀ : ∀ a, s₂.heap.objs.size ≤ a → h₀.get? a = none := fun a ha => by
    cases e : h₀.get? a with
    | none => rfl
    | some o' => have := F.keep a o' e; rw [fresh a ha] at this; cases this
  have hD₀ : h₀.get? s₂.heap.objs.size = none := fresh₀ _ (Nat.le_refl _)
  have hC₀ : h₀.get? H2.objs.size = none := fresh₀ _ (by rw [hC]; exact Nat.le_succ _)
  have hLlt : L < s₂.heap.objs.size := F.ns.lt
  have hDL : s₂.heap.objs.size ≠ L := Ne.symm (below L hLlt).2
  have hCL : H2.objs.size ≠ L := Ne.symm (below L hLlt).1
  have off₀ : ∀ p ∈ news, p.1 ∉ wr ∧ p.1 ≠ H2.objs.size ∧ p.1 ≠ s₂.heap.objs.size := fun p hp => ⟨off p hp, (below _ (Heap.lt_size (N p hp).1)).1, (below _ (Heap.lt_size (N p hp).1)).2⟩
  have N1 : News h₀ L h₁ news := fun p hp => ⟨old _ _ (N p hp).1, (N p hp).2⟩
  have F1 : Fr h₀ L h₁ m := F.keeps old
  have hst₁ : St 0 h₁ := hSt _ _ _ news hst (fun b _ o e => old b o e) F1.keep N1 (hS _ _ _ h0)
  have loop : ∀ s₃ : Shared, s₃ = { s₂ with heap := h₁, toks := s₂.toks + ([] : List (Str × Value)).length } →
      codeAny (model prog w) A (.compLoop (.DictComp kx vx [⟨target, iter, ifs, 0⟩] scope pos) 0 (.ref I) (.ref s₂.heap.objs.size) (compEnvC scope cl H2.objs.size env))
        (RR (.ref s₂.heap.objs.size) H2.objs.size) s₃ := by
    rintro s₃ rfl
    refine comp_loop_dict
      (fun k s' => ∃ h' tk i ys m' news' oD, s' = { s₂ with heap := h', toks := tk } ∧ i ≤ n ∧ k = n + 1 - i ∧ ys.length ≤ i ∧ St i h' ∧ Fr h₀ L h' m ∧ h'.Ns H2.objs.size m' ∧ News h₀ L h' ((s₂.heap.objs.size, oD) :: news') ∧ oD.IsDictOf knd ys ∧
        (∀ p ∈ news', p.1 ∉ wr ∧ p.1 ≠ H2.objs.size ∧ p.1 ≠ s₂.heap.objs.size) ∧ J i ys news') ?_ (n + 1)
      ⟨h₁, _, 0, [], _, news, oD, rfl, Nat.zero_le _, rfl, Nat.le_refl _, hst₁, F1, hns₁, ?_, hoD, off₀, h0⟩
    · rintro k s' ⟨h', tk, i, ys, m', news', oD, rfl, hi, rfl, hyl, hst', F', hn', N', hoD, off', hJ⟩
      have offD : ∀ p ∈ (s₂.heap.objs.size, oD) :: news', p.1 ∉ wr := fun p hp => by
        rcases List.mem_cons.mp hp with rfl | hp
        · exact hDw
        · exact (off' p hp).1
      by_cases hlt : i < n
      · refine wpAny_mono (W.item i { s₂ with heap := h', toks := tk } (fun v s₁ => ∃ h₁ tk₁, s₁ = { s₂ with heap := h₁, toks := tk₁ } ∧ P i v h₁ ∧ St (i + 1) h₁ ∧ (∀ b o, b ∉ wr → h'.get? b = some o → h₁.get? b = some o)) _ (fun _ _ => False) hlt hst'
          (fun v h' tk' hP hst' hk => ⟨h', tk', rfl, hP, hst', hk⟩)) (fun r s₁ hr => ?_) fun _ _ x => x
        refine hideG ?_
        intro G hG
        obtain ⟨v, rfl, hgo⟩ := hr
        refine hG ?_
        clear hG G
        refine wpAny_mono hgo (fun _ s₂' h₂ => ?_) fun _ _ x => x.elim
        refine hideG ?_
        intro G hG
        obtain ⟨h₂, tk₂, rfl, hP, hst₂, hk₂⟩ := h₂
        refine hG ?_
        clear hG G
        have F₂ := old_kept F' hLw hw0 hk₂
        have N₂ := off_kept N' offD hk₂
        refine hasg i v H2.objs.size m' _ _ _ hP (hn'.at' fun o e => hk₂ _ o hCw e) fun h₃ tk₃ m₂ hB hn₃ hk₃ => ?_
        have F₃ : Fr h₀ L h₃ m := ⟨F₂.ns.at' fun o e => hk₃ _ o (Ne.symm hCL) e, fun b o e => hk₃ b o (fun q => by rw [q, hC₀] at e; cases e) (F₂.keep b o e), F₂.above⟩
        have N₃ : News h₀ L h₃ ((s₂.heap.objs.size, oD) :: news') := fun p hp => by
          refine ⟨hk₃ _ _ ?_ (N₂ p hp).1, (N₂ p hp).2⟩
          rcases List.mem_cons.mp hp with rfl | hp
          · exact hDC
          · exact (off' p hp).2.1
        have hst₃ : St (i + 1) h₃ := hSt _ _ _ _ hst₂ (fun b hb o e => hk₃ b o (fun q => hCw (q ▸ hb)) e) F₃.keep (N_tail N₃) (hS _ _ _ hJ)
        refine hideG ?_
        intro G hG
        obtain ⟨oC, heC, hoC⟩ := LCg.ns_obj hn₃
        refine hG ?_
        clear hG G
        have N₄ : News h₀ L h₃ ((H2.objs.size, oC) :: (s₂.heap.objs.size, oD) :: (ownOf h₀ wr h₃ ++ news')) := by
          intro p hp
          rcases List.mem_cons.mp hp with rfl | hp
          · exact ⟨heC, hCL, hC₀⟩
          · rcases List.mem_cons.mp hp with rfl | hp
            · exact N₃ _ List.mem_cons_self
            · exact ((news_ownOf hLw).append (N_tail N₃)) p hp
        have fin : ∀ s₅ ys', CEnd h₀ L m s₂ wr (ownOf h₀ wr h₃) H2.objs.size oC s₂.heap.objs.size oD (J (i + 1) ys') s₅ → ∃ h₄ tk₄ news₄, s₅ = { s₂ with heap := h₄, toks := tk₄ } ∧ St (i + 1) h₄ ∧ Fr h₀ L h₄ m ∧ h₄.Ns H2.objs.size m₂ ∧
            News h₀ L h₄ ((s₂.heap.objs.size, oD) :: news₄) ∧ (∀ p ∈ news₄, p.1 ∉ wr ∧ p.1 ≠ H2.objs.size ∧ p.1 ≠ s₂.heap.objs.size) ∧ J (i + 1) ys' news₄ := by
          rintro s₅ ys' ⟨h₄, tk₄, news₄, rfl, F₄, N₄, off₄, hJ₄⟩
          have N₅ := N_tail (N_tail N₄)
          refine ⟨h₄, tk₄, news₄, rfl, hSt _ _ _ _ hst₃ (own_kept hw0 N₅) F₄.keep N₅.right (hS _ _ _ hJ₄), F₄, hoC.ns (N₄ _ List.mem_cons_self).1, fun p hp => ?_, off₄, hJ₄⟩
          rcases List.mem_cons.mp hp with rfl | hp
          · exact N₄ _ (List.mem_cons_of_mem _ List.mem_cons_self)
          · exact N₅.right p hp
        refine wpAny_mono (turn i H2.objs.size s₂.heap.objs.size oC oD m₂ ys news' _ h₃ _ _ hlt hB hJ hoC hoD F₃ N₄ ownOf_sub off' hCw hDw (Ne.symm hDC) hwlt) (fun ok s₄ h₄ => ?_) fun _ _ e => e
        cases ok with
        | false =>
          refine hideG ?_
          intro G hG
          obtain ⟨h₅, tk₅, news₅, rfl, hst₅, F₅, hn₅, N₅, off₅, hJ₅⟩ := fin _ _ h₄
          refine hG ?_
          clear hG G
          exact ⟨n + 1 - (i + 1), sub_dec hlt, h₅, tk₅, i + 1, ys, _, news₅, oD, rfl, hlt, rfl, Nat.le_succ_of_le hyl, hst₅, F₅, hn₅, N₅, hoD, off₅, hJ₅⟩
        | true =>
          have h₄' := h₄
          simp only [if_true] at h₄' ⊢
          refine wpAny_mono h₄' (fun kv s₅ h₅ => ?_) fun _ _ e => e
          refine wpAny_mono h₅ (fun vv s₆ h₆ => ?_) fun _ _ e => e
          refine hideG ?_
          intro G hG
          obtain ⟨kk, hkk, h₆⟩ := h₆
          refine hG ?_
          clear hG G
          refine hideG ?_
          intro G hG
          obtain ⟨h₅, tk₅, news₅, rfl, hst₅, F₅, hn₅, N₅, off₅, hJ₅⟩ := fin _ _ h₆
          refine hG ?_
          clear hG G
          have zD := (N₅ _ List.mem_cons_self).1
          refine wpAny_dictSet_pairs (hsz := Nat.le_trans (Nat.le_trans hyl hi) hsz) hkk (Heap.dictOf_iff.mpr ⟨_, zD, hoD⟩) fun h₆ hl₆ hs₆ => ?_
          refine hideG ?_
          intro G hG
          obtain ⟨oD', hD₆, hoD'⟩ := Heap.dictOf_iff.mp hl₆
          refine hG ?_
          clear hG G
          have F₆ := F₅.change hs₆ hDL hD₀
          have N₆ : News h₀ L h₆ news₅ := fun p hp => ⟨hs₆.extBut _ _ (off₅ p hp).2.2 (N₅ p (List.mem_cons_of_mem _ hp)).1, (N₅ p (List.mem_cons_of_mem _ hp)).2⟩
          refine ⟨n + 1 - (i + 1), sub_dec hlt, h₆, _, i + 1, stored ys kk vv, _, news₅, oD', rfl, hlt, rfl, Nat.le_trans (stored_length_le ys kk vv) (Nat.succ_le_succ hyl), hSt _ _ _ _ hst₅ (fun b hb o e => hs₆.extBut b o (fun q => hDw (q ▸ hb)) e) F₆.keep N₆ (hS _ _ _ hJ₅), F₆,
            hn₅.sameBut hs₆ (Ne.symm hDC), fun p hp => ?_, hoD', off₅, hJ₅⟩
          rcases List.mem_cons.mp hp with rfl | hp
          · exact ⟨hD₆, hDL, hD₀⟩
          · exact N₆ p hp
      · obtain rfl : i = n := Nat.le_antisymm hi (Nat.not_lt.mp hlt)
        refine W.done _ _ _ hst' fun h₂ tk₂ hk₂ => ?_
        exact hRR _ _ h₂ tk₂ _ ys news' oD hLlt (old_kept F' hLw hw0 hk₂) (off_kept N' offD hk₂) hoD (fun p hp => (off' p hp).2.2) (hn'.at' fun o e => hk₂ _ o hCw e) hC₀ hD₀ hCL hDL (Ne.symm hDC) (fun p hp => (off' p hp).2.1) hJ
    · intro p hp
      rcases List.mem_cons.mp hp with rfl | hp
      · exact ⟨hacc, hDL, hD₀⟩
      · exact N1 p hp
  exact codeAny_compStart_dict (loop _ rfl) (W.self 0 _ _ _ hst₁ (loop _ rfl))
section
variable {K : Type} [DecidableEq K] {knd : KeyKind prog w K} {kx vx target iter : PySem.Expr} {ifs : List PySem.Expr} {scope : Scope} {cl : List (Str × Addr)} {pos : Pos} {s₂ : Shared} {I : Addr} {wr : List Addr} {n : Nat} {P : Nat → Value → Heap → Prop} {St : Nat → Heap → Prop} {S : List (Addr × Obj) → Prop} {news : List (Addr × Obj)}
noncomputable def Turndict2 (prog : Program) (w : World) (A : Around) (h₀ : Heap) (L : Addr) (m : Str → Option Value) (env : Env) {K : Type} [DecidableEq K] (knd : KeyKind prog w K) (kx vx : PySem.Expr) (ifs : List PySem.Expr) (scope : Scope) (cl : List (Str × Addr)) (s₂ : Shared) (wr : List Addr) (n : Nat) (J : Nat → List (K × Value) → List (Addr × Obj) → Prop) (B : Nat → (Str → Option Value) → Prop) : Prop :=
  ∀ i C D oC oD m₂ ys news₁ own h tk (E' : Value → Shared → Prop), i < n → B i m₂ → J i ys news₁ → LCg.NsObj oC m₂ → oD.IsDictOf knd ys → Fr h₀ L h m → News h₀ L h ((C, oC) :: (D, oD) :: (own ++ news₁)) →
      (∀ p ∈ own, p.1 ∈ wr) → (∀ p ∈ news₁, p.1 ∉ wr ∧ p.1 ≠ C ∧ p.1 ≠ D) → C ∉ wr → D ∉ wr → C ≠ D → (∀ b ∈ wr, b < D) →
      wpAny (model prog w) A (forIn ifs true fun c r => if r = true then do let ok ← isTrue c (compEnvC scope cl C env) (eval c (compEnvC scope cl C env)); pure (ForInStep.yield ok) else pure (ForInStep.yield r)) (fun ok s₃ =>
        if ok = true then wpAny (model prog w) A (eval kx (compEnvC scope cl C env)) (fun kv s₄ => wpAny (model prog w) A (eval vx (compEnvC scope cl C env)) (fun vv s₅ => ∃ kk, knd.is kk kv = true ∧ CEnd h₀ L m s₂ wr own C oC D oD (J (i + 1) (stored ys kk vv)) s₅) E' s₄) E' s₃
        else CEnd h₀ L m s₂ wr own C oC D oD (J (i + 1) ys) s₃) E' { s₂ with heap := h, toks := tk }
theorem after_dict_as2 {y : Str} {py : Pos} {Q : Value → Shared → Prop} (hLe : env.locals = L) (X : Src prog w A h₀ L m news target I wr n P St S s₂) (hsz : n ≤ sizeLine)
    (hy : env.kindOf y = some .local) (hp : (env.scope.kind == .class || (env.scope.kind == .module && env.locals != env.globals)) = false)
    (J : Nat → List (K × Value) → List (Addr × Obj) → Prop) (hS : ∀ i ys nw, J i ys nw → S nw) (B : Nat → (Str → Option Value) → Prop)
    (hcell : ∀ y ∈ scope.names, y.2 ≠ .cell) (hkind : scope.kind = .function)
    (hasg : ∀ i v C m₁ (s' : Shared) (Q' : Unit → Shared → Prop) (E' : Value → Shared → Prop), P i v s'.heap → s'.heap.Ns C m₁ →
      (∀ h' tk m₂, B i m₂ → h'.Ns C m₂ → (∀ b o, b ≠ C → s'.heap.get? b = some o → h'.get? b = some o) → Q' () { s' with heap := h', toks := tk }) → wpAny (model prog w) A (assign target (compEnvC scope cl C env) v) Q' E' s')
    (h0 : J 0 [] news) (turn : Turndict2 prog w A h₀ L m env knd kx vx ifs scope cl s₂ wr n J B)
    (done : ∀ D h tk ys news' oD, L < D → Fr h₀ L h (fun z => if z = y then some (.ref D) else m z) → News h₀ L h ((D, oD) :: news') → oD.IsDictOf knd ys → (∀ p ∈ news', p.1 ≠ D) → J n ys news' → Q .none { s₂ with heap := h, toks := tk }) :
    Afterdict prog w A E (some (assign (.Name y py) env)) Q kx vx target iter ifs scope cl pos env (.ref I) s₂ := by
  subst hLe
  refine comp_dict2 (knd := knd) (RR := fun acc C => compPost (model prog w) A E (some (assign (.Name y py) env)) Q acc C) X.W hsz X.keep J hS B hcell hkind hasg X.st X.lt X.Lw X.w0 X.off X.F X.N h0 turn ?_
  intro D C h' tk m' ys news' oD hLD F' N' hoD o1 hn hC₀ hD₀ hCL hDL hCD offC fin
  show wpAny _ A (assign (.Name y py) env (.ref D)) _ _ _
  refine wpAny_assign_Name (wpAny_storeName_local hy F'.ns (fun h₂ hn₂ hs₂ => ?_) hp)
  have hL₀ : h₀.get? env.locals = none := Heap.get?_none_of_le F'.above
  have F₂ : Fr h₀ env.locals h₂ (fun z => if z = y then some (.ref D) else m z) := ⟨hn₂, fun b o e => hs₂.extBut b o (fun q => by rw [q, hL₀] at e; cases e) (F'.keep b o e), F'.above⟩
  refine ⟨m', hn.sameBut hs₂ hCL, fun h'' hs'' => done D h'' _ ys news' oD hLD (F₂.change hs'' hCL hC₀) (fun p hp => ?_) hoD o1 fin⟩
  have z : h₂.get? p.1 = some p.2 := hs₂.extBut _ _ (N' p hp).2.1 (N' p hp).1
  refine ⟨hs''.extBut _ _ ?_ z, (N' p hp).2⟩
  rcases List.mem_cons.mp hp with rfl | hp
  · exact Ne.symm hCD
  · exact offC p hp
end
end
end Mine

-- Csort
open PySem PySem.W PyProof.Rows PySem.Spec PySem.Calls
set_option maxRecDepth 100000
set_option maxHeartbeats 8000000
namespace Mine
theorem fresh_Csort : True := by
  w_top off
  exact trivial

theorem N_drop4 {g h : Heap} {L : Addr} {x a b c d : Addr × Obj} {news : List (Addr × Obj)} (N : News g L h (x :: a :: b :: c :: d :: news)) : News g L h (x :: news) := fun p hp => N p (by
  rcases List.mem_cons.mp hp with h | h
  · rw [h]; exact List.mem_cons_self
  · exact List.mem_cons_of_mem _ (List.mem_cons_of_mem _ (List.mem_cons_of_mem _ (List.mem_cons_of_mem _ (List.mem_cons_of_mem _ h)))))
noncomputable def srt3 (r0 r1 r2 : Int) : List Nat := if r1 < r0 then (if r2 < r1 then [2, 1, 0] else if r2 < r0 then [1, 2, 0] else [1, 0, 2]) else (if r2 < r0 then [2, 0, 1] else if r2 < r1 then [0, 2, 1] else [0, 1, 2])
theorem fin_s {h₀ h' : Heap} {L D a0 a1 a2 : Addr} {m : Str → Option Value} {news : List (Addr × Obj)} {r0 r1 r2 : Int} {s : Shared} {Q : Value → Shared → Prop} {p : List Nat} {c tk : Nat} {x1 x2 x3 x4 : Addr × Obj}
   (hret : ∀ D c h' tk', (∀ p ∈ news, p.1 < D) → Fr h₀ L h' m → News h₀ L h' ((D, lstO ((srt3 r0 r1 r2).map fun i => [Value.ref a0, .ref a1, .ref a2].getD i .none) c) :: news) → Q (.ref D) { s with heap := h', toks := tk' })
   (hs : srt3 r0 r1 r2 = p) (hl : AllLt D news) (F : Fr h₀ L h' m) (N : News h₀ L h' ((D, lstO (p.map fun i => [Value.ref a0, .ref a1, .ref a2].getD i .none) c) :: x1 :: x2 :: x3 :: x4 :: news)) : Q (.ref D) { s with heap := h', toks := tk } :=
  hret D c h' tk (allLt_mem hl) F (hs ▸ N_drop4 N)

section
variable {w : World} {p : Program} {loose : List Str} {mean : ExcName → Option Value} {mg mb : Str → Option Value}
   {dp un : Nat} {gd : Option (List Code)} {cn : Str} {cs : Scope} {a : Addr} {ccd : Value} {cl : List (Str × Addr)} {outer : List Env} {A₀ : Around} {base h₀ : Heap} {L : Addr} {m : Str → Option Value} {l a0 a1 a2 : Addr} {n n0 n1 n2 : Nat} {r0 r1 r2 : Int} {t0 t1 t2 u0 u1 u2 : Tok} {news : List (Addr × Obj)} {s : Shared} {Q E : Value → Shared → Prop}
   (B : Below A₀ base outer h₀) (F : Fr h₀ L s.heap m) (X : (Mine.hd.heap_1 w.params).In h₀) (N : News h₀ L s.heap ((l, PySem.W.listOf #[.ref a0, .ref a1, .ref a2] n) :: (a0, tup [.int r0 t0, .int 0 u0] n0) :: (a1, tup [.int r1 t1, .int 1 u1] n1) :: (a2, tup [.int r2 t2, .int 2 u2] n2) :: news)) (T : Top p loose mean mg mb h₀) (hk : cs.kind = .function)
include B F X N T hk

local macro_rules | `(tactic| k_room) => `(tactic| ktr_room)
local macro_rules | `(tactic| k_units) => `(tactic| ktr_units)
local macro_rules | `(tactic| k_mem) => `(tactic| first | with_reducible assumption | assumption)
set_option hygiene false in
theorem sort_k
   (hret : ∀ D c h' tk', (∀ p ∈ news, p.1 < D) → Fr h₀ L h' m → News h₀ L h' ((D, lstO ((srt3 r0 r1 r2).map fun i => [Value.ref a0, .ref a1, .ref a2].getD i .none) c) :: news) → Q (.ref D) { s with heap := h', toks := tk' }) :
   wpAny (model PySem.Challenge.rw_wf0029_01.row.prog w) (ktrTop dp un gd cn cs L a ccd cl outer) (call (.builtin "sorted") [.ref l]) Q E s := by
  revert X; k_fill; intro X
  (with_unfolding_all refine' kat_sorted ?k1 ?k2 ?k3 ?k4 ?k5 ?_)
  case k1 => k_asm
  case k2 => k_asm
  case k3 => kso_list
  case k4 => exact Nat.le_of_ble_eq_true rfl
  case k5 => exact Nat.le_of_ble_eq_true rfl
  intro D' e' h' F' N' l1

  (try k_lt l1)
  (try k_sweep)
  kat_kinds
  k_steps
  all_goals first
    | omega
    | (refine fin_s (p := [0, 1, 2]) hret ?_ l1.2.2.2.2 (by with_reducible assumption) (by assumption); unfold srt3; (repeat' split) <;> first | rfl | omega)
    | (refine fin_s (p := [0, 2, 1]) hret ?_ l1.2.2.2.2 (by with_reducible assumption) (by assumption); unfold srt3; (repeat' split) <;> first | rfl | omega)
    | (refine fin_s (p := [1, 0, 2]) hret ?_ l1.2.2.2.2 (by with_reducible assumption) (by assumption); unfold srt3; (repeat' split) <;> first | rfl | omega)
    | (refine fin_s (p := [1, 2, 0]) hret ?_ l1.2.2.2.2 (by with_reducible assumption) (by assumption); unfold srt3; (repeat' split) <;> first | rfl | omega)
    | (refine fin_s (p := [2, 0, 1]) hret ?_ l1.2.2.2.2 (by with_reducible assumption) (by assumption); unfold srt3; (repeat' split) <;> first | rfl | omega)
    | (refine fin_s (p := [2, 1, 0]) hret ?_ l1.2.2.2.2 (by with_reducible assumption) (by assumption); unfold srt3; (repeat' split) <;> first | rfl | omega)
end
end Mine

-- Lpre
open PySem PySem.W PyProof.Rows PySem.Spec PySem.Calls
set_option maxRecDepth 100000
namespace Mine
theorem fr_put {g h : Heap} {L : Addr} {M : Str → Option Value} {x : Str} {v : Option Value} (F : Fr g L h M) (hx : M x = v) : Fr g L h (fun z => if z = x then v else M z) := by
  have e : (fun z => if z = x then v else M z) = M := by
    funext z
    by_cases c : z = x
    · rw [if_pos c, c, hx]
    · rw [if_neg c]
  exact Eq.mpr (congrArg (Fr g L h) e) F
theorem slice_takeG {prog : Program} {w : World} {A : Around} {E : Value → Shared → Prop} {s : Shared} {h₀ : Heap} {L l : Addr} {m : Str → Option Value} {news : List (Addr × Obj)} {value slice : PySem.Expr} {vs : List Value} {k : Nat} {x : Int} {u : Tok} {Q : Value → Shared → Prop}
    (F : Fr h₀ L s.heap m) (N : News h₀ L s.heap news) (hm : h₀.IsList l vs.toArray) (hz : vs.length ≤ 1000) (hx : x = (k : Int))
    (h : ∀ D h', Fr h₀ L h' m → News h₀ L h' ((D, lstO (vs.take k) 0) :: news) → (∀ p ∈ news, p.1 < D) → Q (.ref D) { s with heap := h' })
    (hs : subscripted slice false (.ref l) (.ref s.heap.objs.size) = operate [.ref s.heap.objs.size, .ref l] (getItem (.ref l) (.ref s.heap.objs.size)) := by with_unfolding_all rfl) (ht : ∀ r, letTemporaryGo value (.ref l) r = pure () := by intro _; with_unfolding_all rfl) :
    wpAny (model prog w) A (subscriptTail value slice (.ref l) (.ref s.heap.objs.size)) Q E { s with heap := s.heap.push { cls := .type "slice", data := .fields #[.none, .int x u, .none] } } := by
  subst hx
  refine kms_slice_lit (its := vs.toArray) (zs := vs.take k) F N (hm.at fun o e => F.keep _ _ e) IsPart.none (IsPart.int _ _) ?_ h hs ht (by rw [sizeLine_eq]; simp; omega)
  unfold kms_pick kms_lo kms_hi
  simp only [List.drop_zero, Nat.sub_zero]
  rw [if_neg (by omega), Int.toNat_natCast]
  exact kmk_take_min _ _
theorem fmodb (n : Int) : 0 ≤ Int.fmod n 1000000 ∧ Int.fmod n 1000000 < 1000000 := by
  rw [Int.fmod_eq_emod_of_nonneg _ (by decide)]
  omega
/-- no address of the ledger is one of these -/
noncomputable def OffA (as : List Addr) (led : List (Addr × Obj)) : Prop := ∀ q ∈ led, q.1 ∉ as
theorem OffA.nil {as : List Addr} : OffA as [] := fun _ h => nomatch h
theorem OffA.cons {as : List Addr} {q : Addr × Obj} {led : List (Addr × Obj)} (h : OffA as led) (n : q.1 ∉ as) : OffA as (q :: led) := fun p hp => by
  rcases List.mem_cons.mp hp with rfl | hp
  · exact n
  · exact h p hp
theorem OffA.at {as : List Addr} {led : List (Addr × Obj)} {a : Addr} (h : OffA as led) (ha : a ∈ as) : ∀ q ∈ led, q.1 ≠ a := fun q hq e => h q hq (e ▸ ha)
theorem OffA.less {as bs : List Addr} {led : List (Addr × Obj)} (h : OffA as led) (hs : ∀ a ∈ bs, a ∈ as) : OffA bs led := fun q hq hm => h q hq (hs _ hm)
theorem notin_nil {D : Addr} : D ∉ ([] : List Addr) := fun h => nomatch h
theorem notin_cons {D a : Addr} {as : List Addr} (h : D ≠ a) (t : D ∉ as) : D ∉ a :: as := fun hm => by
  rcases List.mem_cons.mp hm with e | e
  · exact h e
  · exact t e
theorem cell_ne {L i j : Nat} (h : i ≠ j) : L + i ≠ L + j := fun e => h (Nat.add_left_cancel e)

theorem offk1 {D : Addr} {c2 c3 c4 c5 c6 t2 t1 : Addr × Obj} {led : List (Addr × Obj)} (h : ∀ p ∈ c2 :: c3 :: c4 :: c5 :: c6 :: t2 :: t1 :: led, p.1 ≠ D) : D ∉ [t1.1, t2.1, c2.1, c3.1, c4.1, c5.1, c6.1] := by
  intro hm
  simp only [List.mem_cons, List.not_mem_nil, or_false] at hm
  rcases hm with e | e | e | e | e | e | e <;> exact h _ (by simp) e.symm
theorem moved1 {g h : Heap} {L : Addr} {c1 c2 c3 c4 c5 c6 t2 t1 : Addr × Obj} {led : List (Addr × Obj)} (N : News g L h (c1 :: c2 :: c3 :: c4 :: c5 :: c6 :: t2 :: t1 :: led)) : News g L h (c2 :: c3 :: c4 :: c5 :: c6 :: t2 :: t1 :: c1 :: led) := fun p hp => N p (by
  simp only [List.mem_cons] at hp ⊢
  rcases hp with h | h | h | h | h | h | h | h | h <;> simp [h])

theorem moved2 {g h : Heap} {L : Addr} {c2 c3 c4 c5 c6 t2 t1 : Addr × Obj} {led : List (Addr × Obj)} (N : News g L h (c2 :: c3 :: c4 :: c5 :: c6 :: t2 :: t1 :: led)) : News g L h (c3 :: c4 :: c5 :: c6 :: t2 :: t1 :: c2 :: led) := fun p hp => N p (by
  simp only [List.mem_cons] at hp ⊢
  rcases hp with h | h | h | h | h | h | h | h <;> simp [h])
theorem offk3 {D : Addr} {c4 c5 c6 t2 t1 : Addr × Obj} {led : List (Addr × Obj)} (h : ∀ p ∈ c4 :: c5 :: c6 :: t2 :: t1 :: led, p.1 ≠ D) : D ∉ [t1.1, t2.1, c4.1, c5.1, c6.1] := by
  intro hm
  simp only [List.mem_cons, List.not_mem_nil, or_false] at hm
  rcases hm with e | e | e | e | e <;> exact h _ (by simp) e.symm
theorem moved3 {g h : Heap} {L : Addr} {c3 c4 c5 c6 t2 t1 : Addr × Obj} {led : List (Addr × Obj)} (N : News g L h (c3 :: c4 :: c5 :: c6 :: t2 :: t1 :: led)) : News g L h (c4 :: c5 :: c6 :: t2 :: t1 :: c3 :: led) := fun p hp => N p (by
  simp only [List.mem_cons] at hp ⊢
  rcases hp with h | h | h | h | h | h | h <;> simp [h])
theorem offk4 {D : Addr} {c5 c6 t2 t1 : Addr × Obj} {led : List (Addr × Obj)} (h : ∀ p ∈ c5 :: c6 :: t2 :: t1 :: led, p.1 ≠ D) : D ∉ [t1.1, t2.1, c5.1, c6.1] := by
  intro hm
  simp only [List.mem_cons, List.not_mem_nil, or_false] at hm
  rcases hm with e | e | e | e <;> exact h _ (by simp) e.symm
theorem moved4 {g h : Heap} {L : Addr} {c4 c5 c6 t2 t1 : Addr × Obj} {led : List (Addr × Obj)} (N : News g L h (c4 :: c5 :: c6 :: t2 :: t1 :: led)) : News g L h (c5 :: c6 :: t2 :: t1 :: c4 :: led) := fun p hp => N p (by
  simp only [List.mem_cons] at hp ⊢
  rcases hp with h | h | h | h | h | h <;> simp [h])
theorem offk5 {D : Addr} {c6 t2 t1 : Addr × Obj} {led : List (Addr × Obj)} (h : ∀ p ∈ c6 :: t2 :: t1 :: led, p.1 ≠ D) : D ∉ [t1.1, t2.1, c6.1] := by
  intro hm
  simp only [List.mem_cons, List.not_mem_nil, or_false] at hm
  rcases hm with e | e | e <;> exact h _ (by simp) e.symm
theorem moved5 {g h : Heap} {L : Addr} {c5 c6 t2 t1 : Addr × Obj} {led : List (Addr × Obj)} (N : News g L h (c5 :: c6 :: t2 :: t1 :: led)) : News g L h (c6 :: t2 :: t1 :: c5 :: led) := fun p hp => N p (by
  simp only [List.mem_cons] at hp ⊢
  rcases hp with h | h | h | h | h <;> simp [h])
theorem offk6 {D : Addr} {t2 t1 : Addr × Obj} {led : List (Addr × Obj)} (h : ∀ p ∈ t2 :: t1 :: led, p.1 ≠ D) : D ∉ [t1.1, t2.1] := by
  intro hm
  simp only [List.mem_cons, List.not_mem_nil, or_false] at hm
  rcases hm with e | e <;> exact h _ (by simp) e.symm
theorem moved6 {g h : Heap} {L : Addr} {c6 t2 t1 : Addr × Obj} {led : List (Addr × Obj)} (N : News g L h (c6 :: t2 :: t1 :: led)) : News g L h (t2 :: t1 :: c6 :: led) := fun p hp => N p (by
  simp only [List.mem_cons] at hp ⊢
  rcases hp with h | h | h | h <;> simp [h])
theorem perm_d1 {g h : Heap} {L : Addr} {xD xS c6 c5 c4 c3 c2 c1 t2 t1 : Addr × Obj} {led : List (Addr × Obj)} (N : News g L h (xD :: xS :: c6 :: c5 :: c4 :: c3 :: c2 :: c1 :: t2 :: t1 :: led)) : News g L h (c1 :: c2 :: c3 :: c4 :: c5 :: c6 :: t2 :: t1 :: xD :: xS :: led) := fun p hp => N p (by
  simp only [List.mem_cons] at hp ⊢
  rcases hp with h | h | h | h | h | h | h | h | h | h | h <;> simp [h])
theorem offk0r {D : Addr} {c1 c2 c3 c4 c5 c6 t2 t1 : Addr × Obj} {led : List (Addr × Obj)} (h : ∀ p ∈ c6 :: c5 :: c4 :: c3 :: c2 :: c1 :: t2 :: t1 :: led, p.1 ≠ D) : D ∉ [t1.1, t2.1, c1.1, c2.1, c3.1, c4.1, c5.1, c6.1] := by
  intro hm
  simp only [List.mem_cons, List.not_mem_nil, or_false] at hm
  rcases hm with e | e | e | e | e | e | e | e <;> exact h _ (by simp) e.symm

theorem push_led1 {g h : Heap} {L : Addr} {x c2 c3 c4 c5 c6 t2 t1 : Addr × Obj} {led : List (Addr × Obj)} (N : News g L h (x :: c2 :: c3 :: c4 :: c5 :: c6 :: t2 :: t1 :: led)) (hl : OffA [t1.1, t2.1, c2.1, c3.1, c4.1, c5.1, c6.1] led) (hx : ∀ p ∈ c2 :: c3 :: c4 :: c5 :: c6 :: t2 :: t1 :: led, p.1 ≠ x.1) :
    ∃ led' : List (Addr × Obj), x ∈ led' ∧ (∀ p ∈ led, p ∈ led') ∧ OffA [t1.1, t2.1, c2.1, c3.1, c4.1, c5.1, c6.1] led' ∧ News g L h (c2 :: c3 :: c4 :: c5 :: c6 :: t2 :: t1 :: led') :=
  ⟨(x :: led), List.mem_cons_self, (fun p hp => List.mem_cons_of_mem _ hp), (hl.cons (offk1 hx)), fun p hp => N p (by
    simp only [List.mem_cons] at hp ⊢
    rcases hp with h | h | h | h | h | h | h | h | h <;> simp [h])⟩
theorem move_led1 {g h : Heap} {L : Addr} {c1 c2 c3 c4 c5 c6 t2 t1 : Addr × Obj} {led : List (Addr × Obj)} (N : News g L h (c1 :: c2 :: c3 :: c4 :: c5 :: c6 :: t2 :: t1 :: led)) (hl : OffA [t1.1, t2.1, c1.1, c2.1, c3.1, c4.1, c5.1, c6.1] led) (hx : c1.1 ∉ [t1.1, t2.1, c2.1, c3.1, c4.1, c5.1, c6.1]) :
    ∃ led' : List (Addr × Obj), c1 ∈ led' ∧ (∀ p ∈ led, p ∈ led') ∧ OffA [t1.1, t2.1, c2.1, c3.1, c4.1, c5.1, c6.1] led' ∧ News g L h (c2 :: c3 :: c4 :: c5 :: c6 :: t2 :: t1 :: led') :=
  ⟨(c1 :: led), List.mem_cons_self, (fun p hp => List.mem_cons_of_mem _ hp), ((hl.less (by intro a ha; simp only [List.mem_cons, List.not_mem_nil, or_false] at ha ⊢; rcases ha with h | h | h | h | h | h | h <;> simp [h])).cons hx), (moved1 N)⟩

theorem move_led2 {g h : Heap} {L : Addr} {c2 c3 c4 c5 c6 t2 t1 : Addr × Obj} {led : List (Addr × Obj)} (N : News g L h (c2 :: c3 :: c4 :: c5 :: c6 :: t2 :: t1 :: led)) (hl : OffA [t1.1, t2.1, c2.1, c3.1, c4.1, c5.1, c6.1] led) (hx : c2.1 ∉ [t1.1, t2.1, c3.1, c4.1, c5.1, c6.1]) :
    ∃ led' : List (Addr × Obj), c2 ∈ led' ∧ (∀ p ∈ led, p ∈ led') ∧ OffA [t1.1, t2.1, c3.1, c4.1, c5.1, c6.1] led' ∧ News g L h (c3 :: c4 :: c5 :: c6 :: t2 :: t1 :: led') :=
  ⟨(c2 :: led), List.mem_cons_self, (fun p hp => List.mem_cons_of_mem _ hp), ((hl.less (by intro a ha; simp only [List.mem_cons, List.not_mem_nil, or_false] at ha ⊢; rcases ha with h | h | h | h | h | h <;> simp [h])).cons hx), (moved2 N)⟩
theorem push_led3 {g h : Heap} {L : Addr} {x c4 c5 c6 t2 t1 : Addr × Obj} {led : List (Addr × Obj)} (N : News g L h (x :: c4 :: c5 :: c6 :: t2 :: t1 :: led)) (hl : OffA [t1.1, t2.1, c4.1, c5.1, c6.1] led) (hx : ∀ p ∈ c4 :: c5 :: c6 :: t2 :: t1 :: led, p.1 ≠ x.1) :
    ∃ led' : List (Addr × Obj), x ∈ led' ∧ (∀ p ∈ led, p ∈ led') ∧ OffA [t1.1, t2.1, c4.1, c5.1, c6.1] led' ∧ News g L h (c4 :: c5 :: c6 :: t2 :: t1 :: led') :=
  ⟨(x :: led), List.mem_cons_self, (fun p hp => List.mem_cons_of_mem _ hp), (hl.cons (offk3 hx)), fun p hp => N p (by
    simp only [List.mem_cons] at hp ⊢
    rcases hp with h | h | h | h | h | h | h <;> simp [h])⟩
theorem move_led3 {g h : Heap} {L : Addr} {c3 c4 c5 c6 t2 t1 : Addr × Obj} {led : List (Addr × Obj)} (N : News g L h (c3 :: c4 :: c5 :: c6 :: t2 :: t1 :: led)) (hl : OffA [t1.1, t2.1, c3.1, c4.1, c5.1, c6.1] led) (hx : c3.1 ∉ [t1.1, t2.1, c4.1, c5.1, c6.1]) :
    ∃ led' : List (Addr × Obj), c3 ∈ led' ∧ (∀ p ∈ led, p ∈ led') ∧ OffA [t1.1, t2.1, c4.1, c5.1, c6.1] led' ∧ News g L h (c4 :: c5 :: c6 :: t2 :: t1 :: led') :=
  ⟨(c3 :: led), List.mem_cons_self, (fun p hp => List.mem_cons_of_mem _ hp), ((hl.less (by intro a ha; simp only [List.mem_cons, List.not_mem_nil, or_false] at ha ⊢; rcases ha with h | h | h | h | h <;> simp [h])).cons hx), (moved3 N)⟩
theorem push_led4 {g h : Heap} {L : Addr} {x c5 c6 t2 t1 : Addr × Obj} {led : List (Addr × Obj)} (N : News g L h (x :: c5 :: c6 :: t2 :: t1 :: led)) (hl : OffA [t1.1, t2.1, c5.1, c6.1] led) (hx : ∀ p ∈ c5 :: c6 :: t2 :: t1 :: led, p.1 ≠ x.1) :
    ∃ led' : List (Addr × Obj), x ∈ led' ∧ (∀ p ∈ led, p ∈ led') ∧ OffA [t1.1, t2.1, c5.1, c6.1] led' ∧ News g L h (c5 :: c6 :: t2 :: t1 :: led') :=
  ⟨(x :: led), List.mem_cons_self, (fun p hp => List.mem_cons_of_mem _ hp), (hl.cons (offk4 hx)), fun p hp => N p (by
    simp only [List.mem_cons] at hp ⊢
    rcases hp with h | h | h | h | h | h <;> simp [h])⟩
theorem move_led4 {g h : Heap} {L : Addr} {c4 c5 c6 t2 t1 : Addr × Obj} {led : List (Addr × Obj)} (N : News g L h (c4 :: c5 :: c6 :: t2 :: t1 :: led)) (hl : OffA [t1.1, t2.1, c4.1, c5.1, c6.1] led) (hx : c4.1 ∉ [t1.1, t2.1, c5.1, c6.1]) :
    ∃ led' : List (Addr × Obj), c4 ∈ led' ∧ (∀ p ∈ led, p ∈ led') ∧ OffA [t1.1, t2.1, c5.1, c6.1] led' ∧ News g L h (c5 :: c6 :: t2 :: t1 :: led') :=
  ⟨(c4 :: led), List.mem_cons_self, (fun p hp => List.mem_cons_of_mem _ hp), ((hl.less (by intro a ha; simp only [List.mem_cons, List.not_mem_nil, or_false] at ha ⊢; rcases ha with h | h | h | h <;> simp [h])).cons hx), (moved4 N)⟩
theorem push_led5 {g h : Heap} {L : Addr} {x c6 t2 t1 : Addr × Obj} {led : List (Addr × Obj)} (N : News g L h (x :: c6 :: t2 :: t1 :: led)) (hl : OffA [t1.1, t2.1, c6.1] led) (hx : ∀ p ∈ c6 :: t2 :: t1 :: led, p.1 ≠ x.1) :
    ∃ led' : List (Addr × Obj), x ∈ led' ∧ (∀ p ∈ led, p ∈ led') ∧ OffA [t1.1, t2.1, c6.1] led' ∧ News g L h (c6 :: t2 :: t1 :: led') :=
  ⟨(x :: led), List.mem_cons_self, (fun p hp => List.mem_cons_of_mem _ hp), (hl.cons (offk5 hx)), fun p hp => N p (by
    simp only [List.mem_cons] at hp ⊢
    rcases hp with h | h | h | h | h <;> simp [h])⟩
theorem move_led5 {g h : Heap} {L : Addr} {c5 c6 t2 t1 : Addr × Obj} {led : List (Addr × Obj)} (N : News g L h (c5 :: c6 :: t2 :: t1 :: led)) (hl : OffA [t1.1, t2.1, c5.1, c6.1] led) (hx : c5.1 ∉ [t1.1, t2.1, c6.1]) :
    ∃ led' : List (Addr × Obj), c5 ∈ led' ∧ (∀ p ∈ led, p ∈ led') ∧ OffA [t1.1, t2.1, c6.1] led' ∧ News g L h (c6 :: t2 :: t1 :: led') :=
  ⟨(c5 :: led), List.mem_cons_self, (fun p hp => List.mem_cons_of_mem _ hp), ((hl.less (by intro a ha; simp only [List.mem_cons, List.not_mem_nil, or_false] at ha ⊢; rcases ha with h | h | h <;> simp [h])).cons hx), (moved5 N)⟩
theorem push_led6 {g h : Heap} {L : Addr} {x t2 t1 : Addr × Obj} {led : List (Addr × Obj)} (N : News g L h (x :: t2 :: t1 :: led)) (hl : OffA [t1.1, t2.1] led) (hx : ∀ p ∈ t2 :: t1 :: led, p.1 ≠ x.1) :
    ∃ led' : List (Addr × Obj), x ∈ led' ∧ (∀ p ∈ led, p ∈ led') ∧ OffA [t1.1, t2.1] led' ∧ News g L h (t2 :: t1 :: led') :=
  ⟨(x :: led), List.mem_cons_self, (fun p hp => List.mem_cons_of_mem _ hp), (hl.cons (offk6 hx)), fun p hp => N p (by
    simp only [List.mem_cons] at hp ⊢
    rcases hp with h | h | h | h <;> simp [h])⟩
theorem move_led6 {g h : Heap} {L : Addr} {c6 t2 t1 : Addr × Obj} {led : List (Addr × Obj)} (N : News g L h (c6 :: t2 :: t1 :: led)) (hl : OffA [t1.1, t2.1, c6.1] led) (hx : c6.1 ∉ [t1.1, t2.1]) :
    ∃ led' : List (Addr × Obj), c6 ∈ led' ∧ (∀ p ∈ led, p ∈ led') ∧ OffA [t1.1, t2.1] led' ∧ News g L h (t2 :: t1 :: led') :=
  ⟨(c6 :: led), List.mem_cons_self, (fun p hp => List.mem_cons_of_mem _ hp), ((hl.less (by intro a ha; simp only [List.mem_cons, List.not_mem_nil, or_false] at ha ⊢; rcases ha with h | h <;> simp [h])).cons hx), (moved6 N)⟩
theorem ints_of_data (h₀ : Heap) : ∀ {ns : List Int} {vs : List Value}, DataAre vs (ns.map PyData.int) → IntsAre vs ns
  | [], vs, h => by cases h; exact .nil
  | n :: ns, vs, h => by
    cases h with
    | cons hv hr =>
      cases hv h₀ with
      | int n t => exact .cons _ _ (ints_of_data h₀ hr)
theorem sum_bound : ∀ {l : List Int}, (∀ x ∈ l, 0 ≤ x ∧ x < 1000000) → 0 ≤ l.sum ∧ l.sum ≤ 1000000 * (l.length : Int)
  | [], _ => ⟨Int.le_refl _, Int.le_refl _⟩
  | x :: l, h => by
    have h1 := h x List.mem_cons_self
    have h2 := sum_bound (l := l) fun y hy => h y (List.mem_cons_of_mem _ hy)
    rw [List.sum_cons, List.length_cons]
    omega
theorem pick_mem {ns : List Int} {lo hi st : Option Int} : ∀ x ∈ pickNums ns lo hi st, x ∈ ns := by
  intro x hx
  obtain ⟨j, _, hj⟩ := List.mem_filterMap.mp hx
  exact List.mem_of_getElem? hj
theorem slice_step {prog : Program} {w : World} {A : Around} {E : Value → Shared → Prop} {s : Shared} {h₀ : Heap} {L l : Addr} {m : Str → Option Value} {news : List (Addr × Obj)} {value slice : PySem.Expr} {vs : List Value} {ns : List Int} {n : Nat} {x y : Int} {u u2 : Tok} {Q : Value → Shared → Prop} {ops : List Value}
    (F : Fr h₀ L s.heap m) (N : News h₀ L s.heap news) (hm : (l, lstO vs n) ∈ news) (hi : IntsAre vs ns) (hz : ns.length ≤ 1000) (hy : y ≠ 0)
    (h : ∀ D h' zs, IntsAre zs (pickNums ns (some x) none (some y)) → Fr h₀ L h' m → News h₀ L h' ((D, lstO zs 0) :: news) → (∀ p ∈ news, p.1 < D) → Q (.ref D) { s with heap := h' })
    (hs : subscripted slice false (.ref l) (.ref s.heap.objs.size) = operate ops (getItem (.ref l) (.ref s.heap.objs.size))) (ht : ∀ r, letTemporaryGo value (.ref l) r = pure ()) :
    wpAny (model prog w) A (subscriptTail value slice (.ref l) (.ref s.heap.objs.size)) Q E { s with heap := s.heap.push { cls := .type "slice", data := .fields #[.int x u, .none, .int y u2] } } :=
  kmk_slice3_lit (its := vs.toArray) (zs := (slicePick vs.toArray (some x) none (some y)).toList) F N ⟨_, (N _ hm).1, rfl, _, rfl⟩ (IsPart.int _ _) IsPart.none (IsPart.int _ _) (by intro e; exact hy (Option.some.inj e)) rfl
    (fun D h' F' N' l' => h D h' _ (hi.pick _ _ _) F' N' l') hs ht (by rw [sizeLine_eq, List.size_toArray, hi.length]; omega)
theorem seeds_bound {i : Nat} {n : Int} (h : ([17, 30, 9, 4, 25, 13, 40, 6, 22, 35, 44] : List Int)[i]? = some n) : 0 ≤ n ∧ n ≤ 44 := by
  have hm := List.mem_of_getElem? h
  exact (by decide : ∀ n ∈ ([17, 30, 9, 4, 25, 13, 40, 6, 22, 35, 44] : List Int), 0 ≤ n ∧ n ≤ 44) n hm

theorem sum_nonneg : ∀ {l : List Int}, (∀ x ∈ l, 0 ≤ x) → 0 ≤ l.sum
  | [], _ => Int.le_refl _
  | x :: l, h => by
    have h1 := h x List.mem_cons_self
    have h2 := sum_nonneg (l := l) fun y hy => h y (List.mem_cons_of_mem _ hy)
    rw [List.sum_cons]
    omega
theorem fmod_nat {t : Int} {k : Nat} (hk : 0 < k) : ∃ r : Nat, Int.fmod t (k : Int) = (r : Int) ∧ r < k := by
  refine ⟨(Int.fmod t k).toNat, ?_, ?_⟩
  · rw [Int.toNat_of_nonneg (Int.fmod_nonneg_of_pos _ (by omega))]
  · have h1 := Int.fmod_lt_of_pos t (b := (k : Int)) (by omega)
    have h2 := Int.fmod_nonneg_of_pos t (b := (k : Int)) (by omega)
    omega
theorem key_ok (x y : Int) : 0 ≤ Int.fmod x 3 ∧ Int.fmod x 3 < 3 ∧ (1 - 2 * Int.fmod y 2 = 1 ∨ 1 - 2 * Int.fmod y 2 = -1) := by
  have h1 := Int.fmod_lt_of_pos x (b := 3) (by decide)
  have h2 := Int.fmod_nonneg_of_pos x (b := 3) (by decide)
  have h3 := Int.fmod_lt_of_pos y (b := 2) (by decide)
  have h4 := Int.fmod_nonneg_of_pos y (b := 2) (by decide)
  omega






theorem grow_sub3 {x C D c4 c5 c6 t2 t1 : Addr × Obj} {own ex lex : List (Addr × Obj)} (h : own ++ c4 :: c5 :: c6 :: t2 :: t1 :: ex = lex) : ∀ p ∈ C :: D :: (own ++ c4 :: c5 :: c6 :: t2 :: t1 :: x :: ex), p ∈ x :: C :: D :: lex := by
  subst h
  intro p hp
  simp only [List.mem_cons, List.mem_append] at hp ⊢
  rcases hp with h | h | h | h | h | h | h | h | h | h <;> simp [h]
theorem grow_off3 {x c4 c5 c6 t2 t1 : Addr × Obj} {ex : List (Addr × Obj)} {P : Addr × Obj → Prop} (h : ∀ p ∈ c4 :: c5 :: c6 :: t2 :: t1 :: ex, P p) (hx : P x) : ∀ p ∈ c4 :: c5 :: c6 :: t2 :: t1 :: x :: ex, P p := by
  intro p hp
  simp only [List.mem_cons] at hp
  rcases hp with e | e | e | e | e | e | e
  · exact e ▸ h _ (by simp)
  · exact e ▸ h _ (by simp)
  · exact e ▸ h _ (by simp)
  · exact e ▸ h _ (by simp)
  · exact e ▸ h _ (by simp)
  · exact e ▸ hx
  · exact h _ (by simp [e])
theorem grow_sub4 {x C D c5 c6 t2 t1 : Addr × Obj} {own ex lex : List (Addr × Obj)} (h : own ++ c5 :: c6 :: t2 :: t1 :: ex = lex) : ∀ p ∈ C :: D :: (own ++ c5 :: c6 :: t2 :: t1 :: x :: ex), p ∈ x :: C :: D :: lex := by
  subst h
  intro p hp
  simp only [List.mem_cons, List.mem_append] at hp ⊢
  rcases hp with h | h | h | h | h | h | h | h | h <;> simp [h]
theorem grow_off4 {x c5 c6 t2 t1 : Addr × Obj} {ex : List (Addr × Obj)} {P : Addr × Obj → Prop} (h : ∀ p ∈ c5 :: c6 :: t2 :: t1 :: ex, P p) (hx : P x) : ∀ p ∈ c5 :: c6 :: t2 :: t1 :: x :: ex, P p := by
  intro p hp
  simp only [List.mem_cons] at hp
  rcases hp with e | e | e | e | e | e
  · exact e ▸ h _ (by simp)
  · exact e ▸ h _ (by simp)
  · exact e ▸ h _ (by simp)
  · exact e ▸ h _ (by simp)
  · exact e ▸ hx
  · exact h _ (by simp [e])
theorem grow_sub5 {x C D c6 t2 t1 : Addr × Obj} {own ex lex : List (Addr × Obj)} (h : own ++ c6 :: t2 :: t1 :: ex = lex) : ∀ p ∈ C :: D :: (own ++ c6 :: t2 :: t1 :: x :: ex), p ∈ x :: C :: D :: lex := by
  subst h
  intro p hp
  simp only [List.mem_cons, List.mem_append] at hp ⊢
  rcases hp with h | h | h | h | h | h | h | h <;> simp [h]
theorem grow_off5 {x c6 t2 t1 : Addr × Obj} {ex : List (Addr × Obj)} {P : Addr × Obj → Prop} (h : ∀ p ∈ c6 :: t2 :: t1 :: ex, P p) (hx : P x) : ∀ p ∈ c6 :: t2 :: t1 :: x :: ex, P p := by
  intro p hp
  simp only [List.mem_cons] at hp
  rcases hp with e | e | e | e | e
  · exact e ▸ h _ (by simp)
  · exact e ▸ h _ (by simp)
  · exact e ▸ h _ (by simp)
  · exact e ▸ hx
  · exact h _ (by simp [e])
theorem grow_sub6 {x C D t2 t1 : Addr × Obj} {own ex lex : List (Addr × Obj)} (h : own ++ t2 :: t1 :: ex = lex) : ∀ p ∈ C :: D :: (own ++ t2 :: t1 :: x :: ex), p ∈ x :: C :: D :: lex := by
  subst h
  intro p hp
  simp only [List.mem_cons, List.mem_append] at hp ⊢
  rcases hp with h | h | h | h | h | h | h <;> simp [h]
theorem grow_off6 {x t2 t1 : Addr × Obj} {ex : List (Addr × Obj)} {P : Addr × Obj → Prop} (h : ∀ p ∈ t2 :: t1 :: ex, P p) (hx : P x) : ∀ p ∈ t2 :: t1 :: x :: ex, P p := by
  intro p hp
  simp only [List.mem_cons] at hp
  rcases hp with e | e | e | e
  · exact e ▸ h _ (by simp)
  · exact e ▸ h _ (by simp)
  · exact e ▸ hx
  · exact h _ (by simp [e])








theorem lt_form4 {D : Addr} {c5 c6 t2 t1 : Addr × Obj} {led : List (Addr × Obj)} (h : c5.1 < D ∧ c6.1 < D ∧ t2.1 < D ∧ t1.1 < D ∧ AllLt D led) : ∀ p ∈ c5 :: c6 :: t2 :: t1 :: led, p.1 < D := fun p hp => allLt_mem (l := c5 :: c6 :: t2 :: t1 :: led) h p hp
theorem push_own4 {g h : Heap} {L : Addr} {c5 c6 t2 t1 : Addr × Obj} {own led : List (Addr × Obj)} (N : News g L h (own ++ c5 :: c6 :: t2 :: t1 :: led)) (hl : OffA [t1.1, t2.1, c5.1, c6.1] led) (hx : OffA [t1.1, t2.1, c5.1, c6.1] own) :
    ∃ led' : List (Addr × Obj), (∀ p ∈ own, p ∈ led') ∧ (∀ p ∈ led, p ∈ led') ∧ OffA [t1.1, t2.1, c5.1, c6.1] led' ∧ News g L h (c5 :: c6 :: t2 :: t1 :: led') :=
  ⟨own ++ led, fun p hp => List.mem_append_left _ hp, fun p hp => List.mem_append_right _ hp, fun p hp => (List.mem_append.mp hp).elim (hx p) (hl p), fun p hp => N p (by
    simp only [List.mem_cons, List.mem_append] at hp ⊢
    rcases hp with h | h | h | h | h | h <;> simp [h])⟩

theorem push_own5 {g h : Heap} {L : Addr} {c6 t2 t1 : Addr × Obj} {own led : List (Addr × Obj)} (N : News g L h (own ++ c6 :: t2 :: t1 :: led)) (hl : OffA [t1.1, t2.1, c6.1] led) (hx : OffA [t1.1, t2.1, c6.1] own) :
    ∃ led' : List (Addr × Obj), (∀ p ∈ own, p ∈ led') ∧ (∀ p ∈ led, p ∈ led') ∧ OffA [t1.1, t2.1, c6.1] led' ∧ News g L h (c6 :: t2 :: t1 :: led') :=
  ⟨own ++ led, fun p hp => List.mem_append_left _ hp, fun p hp => List.mem_append_right _ hp, fun p hp => (List.mem_append.mp hp).elim (hx p) (hl p), fun p hp => N p (by
    simp only [List.mem_cons, List.mem_append] at hp ⊢
    rcases hp with h | h | h | h | h <;> simp [h])⟩


theorem lo_new {h₀ h : Heap} {L D : Addr} {m : Str → Option Value} (F : Fr h₀ L h m) (hb : h₀.NoLimit) (hD : L < D) : (D == sysModules) = false :=
  beq_eq_false_iff_ne.mpr (Nat.ne_of_gt (Nat.lt_trans (Nat.lt_of_lt_of_le (modules_low hb) F.above) hD))
theorem nm_ne {low : Nat} (h : low < 10) : nmAt low ≠ nmAt (low + 1) ∧ nmAt low ≠ nmAt (low + 2) ∧ nmAt (low + 1) ≠ nmAt (low + 2) := by
  have c : low = 0 ∨ low = 1 ∨ low = 2 ∨ low = 3 ∨ low = 4 ∨ low = 5 ∨ low = 6 ∨ low = 7 ∨ low = 8 ∨ low = 9 := (by decide : ∀ low < 10, low = 0 ∨ low = 1 ∨ low = 2 ∨ low = 3 ∨ low = 4 ∨ low = 5 ∨ low = 6 ∨ low = 7 ∨ low = 8 ∨ low = 9) low h
  rcases c with rfl | rfl | rfl | rfl | rfl | rfl | rfl | rfl | rfl | rfl <;> decide +kernel
noncomputable def nms (low : Nat) : List Str := [nmAt low, nmAt (low + 1), nmAt (low + 2)]
noncomputable def hrD (low : Nat) (nums : List Int) (t : Str) : RowD := if t = nmAt low then rowD (nums.getD 0 0) else if t = nmAt (low + 1) then rowD (nums.getD 1 0) else rowD (nums.getD 2 0)
theorem nms_nodup {low : Nat} (h : low < 10) : (nms low).Nodup := by
  obtain ⟨h1, h2, h3⟩ := nm_ne h
  simp [nms, h1, h2, h3]
theorem hrD_at {low : Nat} {nums : List Int} (h : low < 10) {i : Nat} {t : Str} (ht : (nms low)[i]? = some t) : hrD low nums t = rowD (nums.getD i 0) := by
  obtain ⟨h1, h2, h3⟩ := nm_ne h
  have c : i = 0 ∨ i = 1 ∨ i = 2 ∨ 3 ≤ i := by omega
  rcases c with rfl | rfl | rfl | c
  · cases ht; simp [hrD]
  · cases ht; simp [hrD, Ne.symm h1]
  · cases ht; simp [hrD, Ne.symm h2, Ne.symm h3]
  · rw [List.getElem?_eq_none (by simpa [nms] using c)] at ht; cases ht
theorem nodup_take {α : Type} {l : List α} (h : l.Nodup) {i : Nat} {x : α} (hx : l[i]? = some x) : x ∉ l.take i := by
  intro hm
  obtain ⟨j, hj⟩ := List.getElem?_of_mem hm
  rw [List.getElem?_take] at hj
  by_cases c : j < i
  · rw [if_pos c] at hj
    obtain ⟨a, ha⟩ := List.getElem?_eq_some_iff.mp hj
    obtain ⟨b, hb⟩ := List.getElem?_eq_some_iff.mp hx
    exact List.pairwise_iff_getElem.mp h j i a b c (ha.trans hb.symm)
  · rw [if_neg c] at hj; cases hj
noncomputable def findIx : List Str → Str → Nat
  | [], _ => 0
  | x :: r, t => if x = t then 0 else findIx r t + 1
theorem findIx_at : ∀ {l : List Str} {i : Nat} {t : Str}, l.Nodup → l[i]? = some t → findIx l t = i
  | [], i, t, _, h => by simp at h
  | x :: r, 0, t, _, h => by
    have e : x = t := by simpa using h
    rw [findIx, if_pos e]
  | x :: r, i + 1, t, hn, h => by
    have h' : r[i]? = some t := by simpa using h
    have hm := List.mem_of_getElem? h'
    obtain ⟨h1, h2⟩ := List.nodup_cons.mp hn
    have hne : ¬ (x = t) := by rintro rfl; exact h1 hm
    rw [findIx, if_neg hne, findIx_at h2 h']
noncomputable def tsD (low : Nat) : List Str := (List.range 8).map fun m => flagT (m * 2 ^ low)
noncomputable def rdD (low : Nat) (nums : List Int) (t : Str) : RowD := rowD (nums.getD (3 + findIx (tsD low) t) 0)
theorem tsD_nodup {low : Nat} (h : low < 10) : (tsD low).Nodup := by
  have c : low = 0 ∨ low = 1 ∨ low = 2 ∨ low = 3 ∨ low = 4 ∨ low = 5 ∨ low = 6 ∨ low = 7 ∨ low = 8 ∨ low = 9 := (by decide : ∀ low < 10, low = 0 ∨ low = 1 ∨ low = 2 ∨ low = 3 ∨ low = 4 ∨ low = 5 ∨ low = 6 ∨ low = 7 ∨ low = 8 ∨ low = 9) low h
  rcases c with rfl | rfl | rfl | rfl | rfl | rfl | rfl | rfl | rfl | rfl <;> decide +kernel
theorem mask_lt {i low : Nat} (hi : i < 8) (hl : low < 10) : i * 2 ^ low < 4096 := by
  have h1 : 2 ^ low ≤ 2 ^ 9 := Nat.pow_le_pow_right (by decide) (by omega)
  have h2 : i * 2 ^ low ≤ 7 * 2 ^ 9 := Nat.mul_le_mul (by omega) h1
  omega
noncomputable def mname (low i : Nat) : List Str := ((List.range 3).filter fun b => decide (i / 2 ^ b % 2 = 1)).map fun b => nmAt (low + b)
noncomputable def wdsD (low : Nat) (t : Str) : List Str := mname low (findIx (tsD low) t)
theorem words_all : ∀ low < 10, ∀ i < 8, ((Txt.split (flagT (i * 2 ^ low)) (Str.ofString ", ")).filter fun x => decide (x ≠ Str.ofString "0x0")) = mname low i ∧ (flagT (i * 2 ^ low)).length ≤ 100 ∧ (Txt.split (flagT (i * 2 ^ low)) (Str.ofString ", ")).length ≤ 8 := by
  decide +kernel
theorem wdsD_len {low : Nat} (t : Str) : (wdsD low t).length ≤ 8 := by
  unfold wdsD mname
  rw [List.length_map]
  exact Nat.le_trans (List.length_filter_le _ _) (by simp)
theorem wdsD_mem {low : Nat} (t : Str) : ∀ x ∈ wdsD low t, x ∈ nms low := by
  intro x hx
  obtain ⟨b, hb, rfl⟩ := List.mem_map.mp hx
  have hb3 : b < 3 := List.mem_range.mp (List.mem_filter.mp hb).1
  have c : b = 0 ∨ b = 1 ∨ b = 2 := lt3 hb3
  rcases c with rfl | rfl | rfl <;> simp [nms]
theorem mem_skip {a b p : Addr × Obj} {l : List (Addr × Obj)} (h : p ∈ a :: l) : p ∈ a :: b :: l := by
  rcases List.mem_cons.mp h with rfl | h
  · exact List.mem_cons_self
  · exact List.mem_cons_of_mem _ (List.mem_cons_of_mem _ h)
theorem row_down {cells led : List (Addr × Obj)} {v : Value} {r : RowD} (hc : ∀ p ∈ cells, ∀ xs n, p.2.data ≠ .seq xs n) (h : IsRow (cells ++ led) v r) : IsRow led v r := by
  obtain ⟨ex, h0, a, t0, t1, t2, n, e, hm⟩ := h
  refine ⟨ex, h0, a, t0, t1, t2, n, e, ?_⟩
  rcases List.mem_append.mp hm with hm | hm
  · exact absurd rfl (hc _ hm _ _)
  · exact hm
noncomputable def filt (as : List Addr) (ex : List (Addr × Obj)) : List (Addr × Obj) := ex.filter fun q => decide (q.1 ∉ as)
theorem filt_off {as : List Addr} {ex : List (Addr × Obj)} : OffA as (filt as ex) := fun q hq => by
  have := (List.mem_filter.mp hq).2
  simpa using this
theorem filt_in {as : List Addr} {ex : List (Addr × Obj)} {q : Addr × Obj} (hq : q ∈ ex) (ha : q.1 ∉ as) : q ∈ filt as ex := List.mem_filter.mpr ⟨hq, by simpa using ha⟩
theorem filt_sub {as : List Addr} {ex : List (Addr × Obj)} : ∀ q ∈ filt as ex, q ∈ ex := fun _ hq => (List.mem_filter.mp hq).1
theorem filt_row {as : List Addr} {ex : List (Addr × Obj)} {v : Value} {r : RowD} {es : List Value} (has : ∀ a ∈ as, ∀ o, (a, o) ∈ ex → ∀ xs n, o.data ≠ .seq xs n) (h : IsRowX ex v r es) : IsRowX (filt as ex) v r es := by
  obtain ⟨h0, a, t0, t1, t2, n, e, hm⟩ := h
  exact ⟨h0, a, t0, t1, t2, n, e, filt_in hm fun ha => has a ha _ hm _ _ rfl⟩
theorem news_one {g h : Heap} {L a : Addr} {o o' : Obj} {ex : List (Addr × Obj)} (N : News g L h ex) (h1 : (a, o) ∈ ex) (h2 : (a, o') ∈ ex) : o = o' := Option.some.inj ((N _ h1).1.symm.trans (N _ h2).1)
theorem permA {g h : Heap} {L : Addr} {c6 t2 t1 : Addr × Obj} {led : List (Addr × Obj)} (N : News g L h (c6 :: t2 :: t1 :: led)) : News g L h (t1 :: c6 :: t2 :: led) := fun p hp => N p (by
  simp only [List.mem_cons] at hp ⊢
  rcases hp with h | h | h | h <;> simp [h])
theorem tab_down {ps : Array Value} {ex led : List (Addr × Obj)} (h : TabSt ps ex) (hd : ∀ q ∈ ex, (∃ vs t, q.2.data = .fields vs ∧ vs[1]? = some (Value.str (Str.ofString "_law_laid.<locals>.<lambda>") t)) → q ∈ led) : TabSt ps led := by
  rcases h with h | ⟨c, oc, vs, t, e, hm, h1, h2⟩
  · exact .inl h
  · exact .inr ⟨c, oc, vs, t, e, hd _ hm ⟨vs, t, h1, h2⟩, h1, h2⟩
theorem permB {g h : Heap} {L : Addr} {x c6 t2 t1 : Addr × Obj} {led : List (Addr × Obj)} (N : News g L h (x :: c6 :: t2 :: t1 :: led)) : News g L h (c6 :: t2 :: t1 :: (x :: led)) := fun p hp => N p (by
  simp only [List.mem_cons] at hp ⊢
  rcases hp with h | h | h | h | h <;> simp [h])
noncomputable def IsPr (news : List (Addr × Obj)) (v : Value) (r : Int) (k : Nat) : Prop := ∃ a t u n, v = .ref a ∧ (a, tup [.int r t, .int (k : Int) u] n) ∈ news
theorem IsPr.mono {news news' : List (Addr × Obj)} {v : Value} {r : Int} {k : Nat} (h : IsPr news v r k) (hs : ∀ p ∈ news, p ∈ news') : IsPr news' v r k := by
  obtain ⟨a, t, u, n, e, hm⟩ := h
  exact ⟨a, t, u, n, e, hs _ hm⟩
theorem perm_cell {g h : Heap} {L : Addr} {led : List (Addr × Obj)} {own : List (Addr × Obj)} (N : News g L h led) (hs : ∀ p ∈ own, p ∈ led) : News g L h (own ++ led) := fun p hp => (List.mem_append.mp hp).elim (fun h => N p (hs p h)) (N p)
theorem three_pr {news : List (Addr × Obj)} {ys : List Value} {ρ : Nat → Int} (h : Each (fun v k => IsPr news v (ρ k) k) ys (List.range 3)) :
    ∃ a0 a1 a2 t0 u0 n0 t1 u1 n1 t2 u2 n2, ys = [.ref a0, .ref a1, .ref a2] ∧ ((a0, tup [.int (ρ 0) t0, .int 0 u0] n0) : Addr × Obj) ∈ news ∧ ((a1, tup [.int (ρ 1) t1, .int 1 u1] n1) : Addr × Obj) ∈ news ∧ ((a2, tup [.int (ρ 2) t2, .int 2 u2] n2) : Addr × Obj) ∈ news := by
  obtain ⟨hl, he⟩ := h
  match ys, hl with
  | [v0, v1, v2], _ =>
    obtain ⟨a0, t0, u0, n0, rfl, h0⟩ := he 0 v0 0 rfl rfl
    obtain ⟨a1, t1, u1, n1, rfl, h1⟩ := he 1 v1 1 rfl rfl
    obtain ⟨a2, t2, u2, n2, rfl, h2⟩ := he 2 v2 2 rfl rfl
    exact ⟨a0, a1, a2, t0, u0, n0, t1, u1, n1, t2, u2, n2, rfl, h0, h1, h2⟩
theorem srt3_lt {r0 r1 r2 : Int} : (∀ i ∈ srt3 r0 r1 r2, i < 3) ∧ (srt3 r0 r1 r2).length = 3 := by
  unfold srt3
  (repeat' split) <;> simp
theorem srt3_item {news : List (Addr × Obj)} {ys : List Value} {ρ : Nat → Int} (h : Each (fun v k => IsPr news v (ρ k) k) ys (List.range 3)) {r0 r1 r2 : Int} {j : Nat} {v : Value} (hv : ((srt3 r0 r1 r2).map fun i => ys.getD i .none)[j]? = some v) :
    ∃ i, (srt3 r0 r1 r2)[j]? = some i ∧ i < 3 ∧ IsPr news v (ρ i) i := by
  rw [List.getElem?_map] at hv
  cases hi : (srt3 r0 r1 r2)[j]? with
  | none => rw [hi] at hv; cases hv
  | some i =>
    rw [hi] at hv
    have hi3 : i < 3 := srt3_lt.1 i (List.mem_of_getElem? hi)
    have hl : ys.length = 3 := by rw [h.1]; rfl
    have e : ys[i]? = some v := by
      have e2 : ys.getD i .none = v := Option.some.inj hv
      rw [← e2, List.getD_eq_getElem?_getD, List.getElem?_eq_getElem (by omega)]
      rfl
    exact ⟨i, rfl, hi3, h.2 i v i e (by rw [List.getElem?_range hi3])⟩
end Mine

-- PlA
open PySem PySem.W PyProof.Rows PySem.Spec PySem.Calls
set_option maxRecDepth 100000
set_option maxHeartbeats 8000000
namespace Mine
noncomputable def Bd (r : RowD) : Prop := 0 ≤ r.c0 ∧ r.c0 ≤ 2500000 ∧ r.c1 ≤ 2 ∧ 0 ≤ r.c2 ∧ r.c2 ≤ 2500000
theorem bd_row {n : Int} (h : 0 ≤ n ∧ n < 30000000) : Bd (rowD n) := by
  unfold Bd rowD
  simp only
  omega
theorem bd_col {r : RowD} (h : Bd r) (i : Int) : 0 ≤ col i r ∧ col i r ≤ 2500000 := by
  unfold Bd at h
  unfold col
  split
  · omega
  · split <;> omega
noncomputable def sgn (x y : Int) : Int := if x < y then -1 else if y < x then 1 else 0
noncomputable def rkF (ks : List (Int × Int)) (c : Int) (r : RowD) : Int := ks.foldl (fun a k => a * 1000000000 + k.2 * col k.1 r) c
theorem rank_go {a b : RowD} (ha : Bd a) (hb : Bd b) : ∀ (ks : List (Int × Int)), okKeys ks → ∀ A B : Int,
    (A < B → rkF ks A a < rkF ks B b) ∧ (B < A → rkF ks B b < rkF ks A a) ∧ (A = B → cmp ks a b = sgn (rkF ks A a) (rkF ks B b))
  | [], _, A, B => ⟨id, id, fun h => by
      subst h
      show (0 : Int) = sgn A A
      unfold sgn
      rw [if_neg (Int.lt_irrefl _), if_neg (Int.lt_irrefl _)]⟩
  | k :: ks, hok, A, B => by
    have hk := hok k List.mem_cons_self
    have h1 := bd_col ha k.1
    have h2 := bd_col hb k.1
    obtain ⟨g1, g2, g3⟩ := rank_go ha hb ks (fun q hq => hok q (List.mem_cons_of_mem _ hq)) (A * 1000000000 + k.2 * col k.1 a) (B * 1000000000 + k.2 * col k.1 b)
    show (A < B → rkF ks (A * 1000000000 + k.2 * col k.1 a) a < rkF ks (B * 1000000000 + k.2 * col k.1 b) b) ∧ (B < A → rkF ks (B * 1000000000 + k.2 * col k.1 b) b < rkF ks (A * 1000000000 + k.2 * col k.1 a) a) ∧ (A = B → (if col k.1 a < col k.1 b then - k.2 else if col k.1 b < col k.1 a then k.2 else cmp ks a b) = sgn (rkF ks (A * 1000000000 + k.2 * col k.1 a) a) (rkF ks (B * 1000000000 + k.2 * col k.1 b) b))
    revert g1 g2 g3
    generalize rkF ks (A * 1000000000 + k.2 * col k.1 a) a = u
    generalize rkF ks (B * 1000000000 + k.2 * col k.1 b) b = v
    generalize cmp ks a b = c
    generalize col k.1 a = x at *
    generalize col k.1 b = y at *
    intro g1 g2 g3
    unfold sgn at *
    rcases hk.2.2 with e | e <;> rw [e] at g1 g2 g3 ⊢
    · refine ⟨fun h => g1 (by omega), fun h => g2 (by omega), fun h => ?_⟩
      subst h
      by_cases c1 : x < y
      · have := g1 (by omega)
        rw [if_pos c1, if_pos this]
      · by_cases c2 : y < x
        · have := g2 (by omega)
          rw [if_neg c1, if_pos c2, if_neg (by omega), if_pos this]
        · rw [if_neg c1, if_neg c2]
          exact g3 (by omega)
    · refine ⟨fun h => g1 (by omega), fun h => g2 (by omega), fun h => ?_⟩
      subst h
      by_cases c1 : x < y
      · have := g2 (by omega)
        rw [if_pos c1, if_neg (by omega), if_pos this]
        rfl
      · by_cases c2 : y < x
        · have := g1 (by omega)
          rw [if_neg c1, if_pos c2, if_pos this]
        · rw [if_neg c1, if_neg c2]
          exact g3 (by omega)
theorem cmp_rank {ks : List (Int × Int)} (hok : okKeys ks) {a b : RowD} (ha : Bd a) (hb : Bd b) : cmp ks a b = sgn (rankD ks a) (rankD ks b) := (rank_go ha hb ks hok 0 0).2.2 rfl
theorem cmp_one {ks : List (Int × Int)} (hok : okKeys ks) {a b : RowD} (ha : Bd a) (hb : Bd b) : cmp ks a b = 1 ↔ rankD ks b < rankD ks a := by
  rw [cmp_rank hok ha hb]
  unfold sgn
  split
  · omega
  · split <;> omega
theorem cmp_mone {ks : List (Int × Int)} (hok : okKeys ks) {a b : RowD} (ha : Bd a) (hb : Bd b) : cmp ks a b = -1 ↔ rankD ks a < rankD ks b := by
  rw [cmp_rank hok ha hb]
  unfold sgn
  split
  · omega
  · split <;> omega
theorem cmp_le {ks : List (Int × Int)} (hok : okKeys ks) {a b : RowD} (ha : Bd a) (hb : Bd b) : cmp ks a b ≤ 0 ↔ rankD ks a ≤ rankD ks b := by
  rw [cmp_rank hok ha hb]
  unfold sgn
  split
  · omega
  · split <;> omega
theorem cmp_ge {ks : List (Int × Int)} (hok : okKeys ks) {a b : RowD} (ha : Bd a) (hb : Bd b) : 0 ≤ cmp ks a b ↔ rankD ks b ≤ rankD ks a := by
  rw [cmp_rank hok ha hb]
  unfold sgn
  split
  · omega
  · split <;> omega
theorem cmp_self {ks : List (Int × Int)} (hok : okKeys ks) {a : RowD} (ha : Bd a) : cmp ks a a = 0 := by
  rw [cmp_rank hok ha ha]
  unfold sgn
  rw [if_neg (Int.lt_irrefl _), if_neg (Int.lt_irrefl _)]
theorem pick_max {ks : List (Int × Int)} (hok : okKeys ks) : ∀ (rs : List RowD) (r : RowD), Bd r → (∀ q ∈ rs, Bd q) →
    Bd (pick ks 1 r rs) ∧ ∀ x, x ≤ rankD ks (pick ks 1 r rs) ↔ (x ≤ rankD ks r ∨ ∃ q ∈ rs, x ≤ rankD ks q)
  | [], r, hr, _ => ⟨hr, fun x => by simp [pick]⟩
  | q :: rs, r, hr, hb => by
    have hq := hb q List.mem_cons_self
    have hb' : ∀ q ∈ rs, Bd q := fun z hz => hb z (List.mem_cons_of_mem _ hz)
    show Bd (pick ks 1 (if cmp ks q r = 1 then q else r) rs) ∧ ∀ x, x ≤ rankD ks (pick ks 1 (if cmp ks q r = 1 then q else r) rs) ↔ _
    by_cases c : cmp ks q r = 1
    · rw [if_pos c]
      obtain ⟨h1, h2⟩ := pick_max hok rs q hq hb'
      refine ⟨h1, fun x => ?_⟩
      rw [h2]
      have c' := (cmp_one hok hq hr).mp c
      simp only [List.mem_cons, exists_eq_or_imp]
      constructor
      · intro h; exact .inr h
      · rintro (h | h)
        · exact .inl (by omega)
        · exact h
    · rw [if_neg c]
      obtain ⟨h1, h2⟩ := pick_max hok rs r hr hb'
      refine ⟨h1, fun x => ?_⟩
      rw [h2]
      have c' : ¬ (rankD ks r < rankD ks q) := fun h => c ((cmp_one hok hq hr).mpr h)
      simp only [List.mem_cons, exists_eq_or_imp]
      constructor
      · rintro (h | h)
        · exact .inl h
        · exact .inr (.inr h)
      · rintro (h | h | h)
        · exact .inl h
        · exact .inl (by omega)
        · exact .inr h
theorem pick_min {ks : List (Int × Int)} (hok : okKeys ks) : ∀ (rs : List RowD) (r : RowD), Bd r → (∀ q ∈ rs, Bd q) →
    Bd (pick ks (-1) r rs) ∧ ∀ x, x ≤ rankD ks (pick ks (-1) r rs) ↔ (x ≤ rankD ks r ∧ ∀ q ∈ rs, x ≤ rankD ks q)
  | [], r, hr, _ => ⟨hr, fun x => by simp [pick]⟩
  | q :: rs, r, hr, hb => by
    have hq := hb q List.mem_cons_self
    have hb' : ∀ q ∈ rs, Bd q := fun z hz => hb z (List.mem_cons_of_mem _ hz)
    show Bd (pick ks (-1) (if cmp ks q r = -1 then q else r) rs) ∧ ∀ x, x ≤ rankD ks (pick ks (-1) (if cmp ks q r = -1 then q else r) rs) ↔ _
    by_cases c : cmp ks q r = -1
    · rw [if_pos c]
      obtain ⟨h1, h2⟩ := pick_min hok rs q hq hb'
      refine ⟨h1, fun x => ?_⟩
      rw [h2]
      have c' := (cmp_mone hok hq hr).mp c
      simp only [List.mem_cons, forall_eq_or_imp]
      constructor
      · intro h; exact ⟨by omega, h⟩
      · intro h; exact h.2
    · rw [if_neg c]
      obtain ⟨h1, h2⟩ := pick_min hok rs r hr hb'
      refine ⟨h1, fun x => ?_⟩
      rw [h2]
      have c' : ¬ (rankD ks q < rankD ks r) := fun h => c ((cmp_mone hok hq hr).mpr h)
      simp only [List.mem_cons, forall_eq_or_imp]
      constructor
      · intro h; exact ⟨h.1, by omega, h.2⟩
      · intro h; exact ⟨h.1, h.2.2⟩
theorem best_max {ks : List (Int × Int)} (hok : okKeys ks) {l : List RowD} (hne : l ≠ []) (hb : ∀ q ∈ l, Bd q) : Bd (bestL ks 1 l) ∧ ∀ x, x ≤ rankD ks (bestL ks 1 l) ↔ ∃ q ∈ l, x ≤ rankD ks q := by
  cases l with
  | nil => exact absurd rfl hne
  | cons r rs =>
    obtain ⟨h1, h2⟩ := pick_max hok (r :: rs) r (hb r List.mem_cons_self) hb
    refine ⟨h1, fun x => (h2 x).trans ⟨?_, .inr⟩⟩
    rintro (h | h)
    · exact ⟨r, List.mem_cons_self, h⟩
    · exact h
theorem best_min {ks : List (Int × Int)} (hok : okKeys ks) {l : List RowD} (hne : l ≠ []) (hb : ∀ q ∈ l, Bd q) : Bd (bestL ks (-1) l) ∧ ∀ x, x ≤ rankD ks (bestL ks (-1) l) ↔ ∀ q ∈ l, x ≤ rankD ks q := by
  cases l with
  | nil => exact absurd rfl hne
  | cons r rs =>
    obtain ⟨h1, h2⟩ := pick_min hok (r :: rs) r (hb r List.mem_cons_self) hb
    exact ⟨h1, fun x => (h2 x).trans ⟨fun h => h.2, fun h => ⟨h r List.mem_cons_self, h⟩⟩⟩
theorem eq_of_le {a b : Int} (h : ∀ x, x ≤ a ↔ x ≤ b) : a = b := by
  have h1 := (h a).mp (Int.le_refl _)
  have h2 := (h b).mpr (Int.le_refl _)
  omega
theorem maxI_thr {l : List Int} (h : l ≠ []) (x : Int) : x ≤ maxI l ↔ ∃ a ∈ l, x ≤ a := by
  constructor
  · intro hx
    exact ⟨_, maxI_mem h, hx⟩
  · rintro ⟨a, ha, hx⟩
    exact Int.le_trans hx (maxI_ge ha)
theorem minI_thr (a b x : Int) : x ≤ minI [a, b] ↔ x ≤ a ∧ x ≤ b := by
  show x ≤ min (min a a) b ↔ _
  rw [Int.min_self]
  exact Int.le_min
theorem heavy_thr (ps : List Int) (m : Nat) (x : Int) : x ≤ heavyD ps m ↔ ∃ i, i < 8 ∧ i &&& m = i ∧ x ≤ ps.getD i 0 := by
  unfold heavyD
  rw [maxI_thr]
  · constructor
    · rintro ⟨a, ha, hx⟩
      obtain ⟨i, hi, rfl⟩ := List.mem_map.mp ha
      obtain ⟨h1, h2⟩ := List.mem_filter.mp hi
      exact ⟨i, List.mem_range.mp h1, of_decide_eq_true h2, hx⟩
    · rintro ⟨i, h1, h2, hx⟩
      exact ⟨_, List.mem_map.mpr ⟨i, List.mem_filter.mpr ⟨List.mem_range.mpr h1, decide_eq_true h2⟩, rfl⟩, hx⟩
  · intro h
    have : (0 : Nat) ∈ (List.range 8).filter fun one => decide (one &&& m = one) := List.mem_filter.mpr ⟨by decide, decide_eq_true (Nat.zero_and m)⟩
    rw [List.map_eq_nil_iff.mp h] at this
    cases this
theorem heavy_mono (ps : List Int) {i m : Nat} (h : i &&& m = i) : heavyD ps i ≤ heavyD ps m := by
  obtain ⟨j, h1, h2, h3⟩ := (heavy_thr ps i _).mp (Int.le_refl _)
  refine (heavy_thr ps m _).mpr ⟨j, h1, ?_, h3⟩
  calc j &&& m = (j &&& i) &&& m := by rw [h2]
    _ = j &&& (i &&& m) := Nat.and_assoc ..
    _ = j := by rw [h, h2]
end Mine

-- PlB
open PySem PySem.W PyProof.Rows PySem.Spec PySem.Calls
set_option maxRecDepth 100000
set_option maxHeartbeats 8000000
namespace Mine
theorem bisGo_spec (g : Nat → Bool) : ∀ (n lo hi : Nat), lo ≤ hi → hi - lo ≤ n → (∀ i j, i ≤ j → j < hi → g j = true → g i = true) →
    lo ≤ bisGo g n lo hi ∧ bisGo g n lo hi ≤ hi ∧ (∀ i, i < bisGo g n lo hi → lo ≤ i → g i = true) ∧ (∀ i, bisGo g n lo hi ≤ i → i < hi → g i = false)
  | 0, lo, hi, h, hn, hm => ⟨Nat.le_refl _, h, fun i h1 h2 => absurd h1 (Nat.not_lt.mpr h2), fun i h1 h2 => by
      have h1 : lo ≤ i := h1
      omega⟩
  | n + 1, lo, hi, h, hn, hm => by
    rw [bisGo]
    by_cases c : lo < hi
    · rw [if_pos c]
      have d1 : lo ≤ (lo + hi) / 2 := by omega
      have d2 : (lo + hi) / 2 < hi := by omega
      generalize (lo + hi) / 2 = mid at *
      cases e : g mid with
      | true =>
        rw [if_pos rfl]
        obtain ⟨h1, h2, h3, h4⟩ := bisGo_spec g n (mid + 1) hi (by omega) (by omega) hm
        refine ⟨by omega, h2, fun i hi1 hi2 => ?_, h4⟩
        by_cases k : mid + 1 ≤ i
        · exact h3 i hi1 k
        · exact hm i mid (by omega) d2 e
      | false =>
        rw [if_neg (by decide)]
        obtain ⟨h1, h2, h3, h4⟩ := bisGo_spec g n lo mid (by omega) (by omega) (fun i j a b => hm i j a (by omega))
        refine ⟨h1, by omega, h3, fun i hi1 hi2 => ?_⟩
        by_cases k : i < mid
        · exact h4 i hi1 k
        · cases e2 : g i with
          | false => rfl
          | true =>
            have := hm mid i (by omega) hi2 e2
            rw [e] at this
            cases this
    · rw [if_neg c]
      exact ⟨Nat.le_refl _, h, fun i h1 h2 => absurd h1 (Nat.not_lt.mpr h2), fun i h1 h2 => by omega⟩
theorem insL_ok {α : Type} (f : α → RowD) {ks : List (Int × Int)} (hok : okKeys ks) (vs : List α) (x : α) (hB : ∀ v ∈ vs, Bd (f v)) (hx : Bd (f x))
    (hs : vs.Pairwise (fun a b => rankD ks (f a) ≤ rankD ks (f b))) :
    (insL (fun q => cmp ks q (f x)) (vs.map f) (f x) vs x).Perm (x :: vs) ∧ (insL (fun q => cmp ks q (f x)) (vs.map f) (f x) vs x).Pairwise (fun a b => rankD ks (f a) ≤ rankD ks (f b)) := by
  have hg : ∀ i (hi : i < vs.length), decide (cmp ks ((vs.map f).getD i ⟨0, 0, 0⟩) (f x) ≤ cmp ks (f x) (f x)) = decide (rankD ks (f vs[i]) ≤ rankD ks (f x)) := by
    intro i hi
    have e : (vs.map f).getD i ⟨0, 0, 0⟩ = f vs[i] := by
      rw [List.getD_eq_getElem?_getD, List.getElem?_map, List.getElem?_eq_getElem hi]
      rfl
    rw [e, cmp_self hok hx]
    exact decide_eq_decide.mpr (cmp_le hok (hB _ (List.getElem_mem hi)) hx)
  obtain ⟨h1, h2, h3, h4⟩ := bisGo_spec (fun i => decide (cmp ks ((vs.map f).getD i ⟨0, 0, 0⟩) (f x) ≤ cmp ks (f x) (f x))) vs.length 0 vs.length (Nat.zero_le _) (by omega) (by
    intro i j hij hj hgj
    have hgj := (hg j hj).symm.trans hgj
    refine (hg i (by omega)).trans ?_
    rcases Nat.lt_or_eq_of_le hij with h | h
    · have := List.pairwise_iff_getElem.mp hs i j (by omega) hj h
      exact decide_eq_true (Int.le_trans this (of_decide_eq_true hgj))
    · subst h; exact hgj)
  show (vs.take _ ++ x :: vs.drop _).Perm _ ∧ (vs.take _ ++ x :: vs.drop _).Pairwise _
  generalize bisGo (fun i => decide (cmp ks ((vs.map f).getD i ⟨0, 0, 0⟩) (f x) ≤ cmp ks (f x) (f x))) vs.length 0 vs.length = p at *
  have lo : ∀ a ∈ vs.take p, rankD ks (f a) ≤ rankD ks (f x) := by
    intro a ha
    obtain ⟨i, hi, rfl⟩ := List.mem_iff_getElem.mp ha
    have hi' : i < p ∧ i < vs.length := by rw [List.length_take] at hi; omega
    have := h3 i hi'.1 (Nat.zero_le _)
    rw [List.getElem_take]
    exact of_decide_eq_true ((hg i hi'.2).symm.trans this)
  have up : ∀ a ∈ vs.drop p, rankD ks (f x) ≤ rankD ks (f a) := by
    intro a ha
    obtain ⟨i, hi, rfl⟩ := List.mem_iff_getElem.mp ha
    have hi' : p + i < vs.length := by rw [List.length_drop] at hi; omega
    have := h4 (p + i) (by omega) hi'
    rw [List.getElem_drop]
    have := of_decide_eq_false ((hg (p + i) hi').symm.trans this)
    omega
  constructor
  · refine List.perm_middle.trans (.cons _ ?_)
    rw [List.take_append_drop]
  · refine List.pairwise_append.mpr ⟨hs.sublist (List.take_sublist _ _), List.pairwise_cons.mpr ⟨up, hs.sublist (List.drop_sublist _ _)⟩, ?_⟩
    intro a ha b hb
    rcases List.mem_cons.mp hb with rfl | hb
    · exact lo a ha
    · exact Int.le_trans (lo a ha) (up b hb)
theorem lay_all {ks : List (Int × Int)} (hok : okKeys ks) : ∀ (l M : List RowD), (∀ q ∈ M, Bd q) → (∀ q ∈ l, Bd q) → M.Pairwise (fun a b => rankD ks a ≤ rankD ks b) →
    (l.foldl (layL ks) M).Perm (l ++ M) ∧ (l.foldl (layL ks) M).Pairwise (fun a b => rankD ks a ≤ rankD ks b)
  | [], M, _, _, hs => ⟨.refl _, hs⟩
  | r :: l, M, hM, hl, hs => by
    have hr := hl r List.mem_cons_self
    obtain ⟨h1, h2⟩ := insL_ok id hok M r hM hr hs
    rw [List.map_id] at h1 h2
    obtain ⟨h3, h4⟩ := lay_all hok l (layL ks M r) (fun q hq => by
      rcases List.mem_cons.mp (h1.mem_iff.mp hq) with rfl | hq
      · exact hr
      · exact hM q hq) (fun q hq => hl q (List.mem_cons_of_mem _ hq)) h2
    refine ⟨h3.trans ?_, h4⟩
    refine (List.Perm.append_left l h1).trans ?_
    exact List.perm_middle
/-- the fourth of seven in order -/
theorem fourth {M : List Int} (hl : M.length = 7) (hs : M.Pairwise (· ≤ ·)) (x : Int) : x ≤ M.getD 3 0 ↔ 4 ≤ M.countP fun a => decide (x ≤ a) := by
  match M, hl with
  | [a, b, c, d, e, f, g], _ =>
    simp only [List.pairwise_cons, List.mem_cons, List.not_mem_nil, or_false, forall_eq_or_imp, forall_eq] at hs
    show x ≤ d ↔ _
    simp only [List.countP_cons, List.countP_nil]
    constructor
    · intro h
      have h5 : x ≤ e := by omega
      have h6 : x ≤ f := by omega
      have h7 : x ≤ g := by omega
      rw [decide_eq_true h, decide_eq_true h5, decide_eq_true h6, decide_eq_true h7]
      simp only [if_true]
      omega
    · intro h
      by_cases c0 : x ≤ d
      · exact c0
      · exfalso
        have h1 : ¬ x ≤ a := by omega
        have h2 : ¬ x ≤ b := by omega
        have h3 : ¬ x ≤ c := by omega
        rw [decide_eq_false h1, decide_eq_false h2, decide_eq_false h3, decide_eq_false c0] at h
        revert h
        simp only [Bool.false_eq_true, if_false]
        split <;> split <;> split <;> omega
theorem byo2_thr {ks : List (Int × Int)} (hok : okKeys ks) {P : List RowM} {lv : Nat → RowD} (hP : ∀ q ∈ P, Bd q.1) (hlen : P.length = 3) (hlv : ∀ k, k < 4 → Bd (lv k)) (x : Int) :
    x ≤ rankD ks (byo2 ks P lv) ↔ 4 ≤ (P.map (·.1) ++ [lv 0, lv 1, lv 2, lv 3]).countP fun r => decide (x ≤ rankD ks r) := by
  obtain ⟨h1, h2⟩ := lay_all hok (P.map (·.1) ++ [lv 0, lv 1, lv 2, lv 3]) [] (fun _ h => nomatch h) (by
    intro q hq
    rcases List.mem_append.mp hq with h | h
    · obtain ⟨z, hz, rfl⟩ := List.mem_map.mp h
      exact hP z hz
    · simp only [List.mem_cons, List.not_mem_nil, or_false] at h
      rcases h with rfl | rfl | rfl | rfl
      · exact hlv 0 (by decide)
      · exact hlv 1 (by decide)
      · exact hlv 2 (by decide)
      · exact hlv 3 (by decide)) .nil
  rw [List.append_nil] at h1
  unfold byo2
  rw [← h1.countP_eq]
  have hl : ((P.map (·.1) ++ [lv 0, lv 1, lv 2, lv 3]).foldl (layL ks) []).length = 7 := by
    rw [h1.length_eq, List.length_append, List.length_map, hlen]
    rfl
  generalize (P.map (·.1) ++ [lv 0, lv 1, lv 2, lv 3]).foldl (layL ks) [] = M at *
  have := fourth (M := M.map (rankD ks)) (by rw [List.length_map, hl]) (List.pairwise_map.mpr h2) x
  rw [List.countP_map] at this
  refine Iff.trans ?_ this
  rw [List.getD_eq_getElem?_getD, List.getD_eq_getElem?_getD, List.getElem?_map, List.getElem?_eq_getElem (by omega)]
  rfl
end Mine

-- PlC
open PySem PySem.W PyProof.Rows PySem.Spec PySem.Calls
set_option maxRecDepth 100000
set_option maxHeartbeats 8000000
namespace Mine
theorem sub_words : ∀ low < 10, ∀ i < 8, ∀ m < 8, ((mname low i).all fun w => (mname low m).any (· == w)) = decide (i &&& m = i) := by
  decide +kernel
theorem out_words : ∀ low < 10, ∀ m < 8, ((nms low).filter fun w => !((mname low m).any (· == w))) = ((List.range 3).filter fun b => decide (m / 2 ^ b % 2 = 0)).map fun b => nmAt (low + b) := by
  decide +kernel
theorem tsD_at {low m : Nat} (hm : m < 8) : (tsD low)[m]? = some (flagT (m * 2 ^ low)) := by
  unfold tsD
  rw [List.getElem?_map, List.getElem?_range hm]
  rfl
theorem ix_at {low m : Nat} (hl : low < 10) (hm : m < 8) : findIx (tsD low) (flagT (m * 2 ^ low)) = m := findIx_at (tsD_nodup hl) (tsD_at hm)
theorem wds_at {low m : Nat} (hl : low < 10) (hm : m < 8) : wdsD low (flagT (m * 2 ^ low)) = mname low m := by
  unfold wdsD
  rw [ix_at hl hm]
theorem below_at {low m : Nat} (hl : low < 10) (hm : m < 8) : belowT (tsD low) (wdsD low) (flagT (m * 2 ^ low)) = ((List.range 8).filter fun i => decide (i &&& m = i)).map fun i => flagT (i * 2 ^ low) := by
  unfold belowT tsD
  rw [List.filter_map]
  congr 1
  refine List.filter_congr fun i hi => ?_
  have hi8 := List.mem_range.mp hi
  show ((wdsD low (flagT (i * 2 ^ low))).all fun w => (wdsD low (flagT (m * 2 ^ low))).any (· == w)) = _
  rw [wds_at hl hi8, wds_at hl hm]
  exact sub_words low hl i hi8 m hm
theorem bestT_eq (ks : List (Int × Int)) (side : Int) (rd : Str → RowD) (l : List Str) : bestT ks side rd l = bestL ks side (l.map rd) := by
  cases l <;> rfl
section
variable {ks : List (Int × Int)} {low : Nat} {nums : List Int} (hok : okKeys ks) (hlow : low < 10) (hn : nums.length = 11) (hb : ∀ x ∈ nums, 0 ≤ x ∧ x < 30000000)
include hok hlow hn hb
noncomputable def rks (ks : List (Int × Int)) (nums : List Int) : List Int := (nums.map rowD).map (rankD ks)
omit hok hlow in
theorem bd_num {i : Nat} (hi : i < 11) : Bd (rowD (nums.getD i 0)) := by
  rw [List.getD_eq_getElem?_getD, List.getElem?_eq_getElem (by omega)]
  exact bd_row (hb _ (List.getElem_mem _))
omit hok hlow hb in
theorem rks_at {i : Nat} (hi : i < 11) : (rks ks nums).getD i 0 = rankD ks (rowD (nums.getD i 0)) := by
  unfold rks
  rw [List.getD_eq_getElem?_getD, List.getD_eq_getElem?_getD, List.getElem?_map, List.getElem?_map, List.getElem?_eq_getElem (by omega)]
  rfl
omit hok hlow hb in
theorem tall_at {i : Nat} (hi : i < 3) : ((rks ks nums).take 3).getD i 0 = rankD ks (rowD (nums.getD i 0)) := by
  rw [← rks_at hn (by omega), List.getD_eq_getElem?_getD, List.getD_eq_getElem?_getD, List.getElem?_take_of_lt hi]
omit hok hlow hb in
theorem part_at {i : Nat} (hi : i < 8) : ((rks ks nums).drop 3).getD i 0 = rankD ks (rowD (nums.getD (3 + i) 0)) := by
  rw [← rks_at hn (by omega), List.getD_eq_getElem?_getD, List.getD_eq_getElem?_getD, List.getElem?_drop]
theorem wt_ok {m : Nat} (hm : m < 8) : Bd (wt1 ks (tsD low) (rdD low nums) (wdsD low) (flagT (m * 2 ^ low))) ∧ rankD ks (wt1 ks (tsD low) (rdD low nums) (wdsD low) (flagT (m * 2 ^ low))) = heavyD ((rks ks nums).drop 3) m := by
  unfold wt1
  rw [bestT_eq, below_at hlow hm, List.map_map]
  have hrd : ∀ i < 8, rdD low nums (flagT (i * 2 ^ low)) = rowD (nums.getD (3 + i) 0) := fun i hi => by
    unfold rdD
    rw [ix_at hlow hi]
  have hall : ∀ q ∈ ((List.range 8).filter fun i => decide (i &&& m = i)).map (rdD low nums ∘ fun i => flagT (i * 2 ^ low)), Bd q := by
    intro q hq
    obtain ⟨i, hi, rfl⟩ := List.mem_map.mp hq
    have hi8 := List.mem_range.mp (List.mem_filter.mp hi).1
    show Bd (rdD low nums (flagT (i * 2 ^ low)))
    rw [hrd i hi8]
    exact bd_num hn hb (by omega)
  have hne : ((List.range 8).filter fun i => decide (i &&& m = i)).map (rdD low nums ∘ fun i => flagT (i * 2 ^ low)) ≠ [] := by
    intro h
    have : (0 : Nat) ∈ (List.range 8).filter fun one => decide (one &&& m = one) := List.mem_filter.mpr ⟨by decide, decide_eq_true (Nat.zero_and m)⟩
    rw [List.map_eq_nil_iff.mp h] at this
    cases this
  obtain ⟨h1, h2⟩ := best_max hok hne hall
  refine ⟨h1, eq_of_le fun x => (h2 x).trans ((?_ : _ ↔ _).trans (heavy_thr _ m x).symm)⟩
  constructor
  · rintro ⟨q, hq, hx⟩
    obtain ⟨i, hi, rfl⟩ := List.mem_map.mp hq
    obtain ⟨h3, h4⟩ := List.mem_filter.mp hi
    have hi8 := List.mem_range.mp h3
    refine ⟨i, hi8, of_decide_eq_true h4, ?_⟩
    rw [part_at hn hi8, ← hrd i hi8]
    exact hx
  · rintro ⟨i, hi8, h4, hx⟩
    refine ⟨_, List.mem_map.mpr ⟨i, List.mem_filter.mpr ⟨List.mem_range.mpr hi8, decide_eq_true h4⟩, rfl⟩, ?_⟩
    show x ≤ rankD ks (rdD low nums (flagT (i * 2 ^ low)))
    rw [hrd i hi8, ← part_at hn hi8]
    exact hx
omit hok hn hb in
theorem hr_at {b : Nat} (hb3 : b < 3) : hrD low nums (nmAt (low + b)) = rowD (nums.getD b 0) := by
  refine hrD_at hlow (i := b) ?_
  have c : b = 0 ∨ b = 1 ∨ b = 2 := lt3 hb3
  rcases c with rfl | rfl | rfl <;> rfl
/-- inner and outer at a set -/
theorem inn_ok {m : Nat} (hm : m < 8) : Bd (innT ks (hrD low nums) (wt1 ks (tsD low) (rdD low nums) (wdsD low)) (wdsD low) (flagT (m * 2 ^ low))) ∧
    ∀ x, x ≤ rankD ks (innT ks (hrD low nums) (wt1 ks (tsD low) (rdD low nums) (wdsD low)) (wdsD low) (flagT (m * 2 ^ low))) ↔ x ≤ heavyD ((rks ks nums).drop 3) m ∧ ∀ b < 3, m / 2 ^ b % 2 = 1 → x ≤ ((rks ks nums).take 3).getD b 0 := by
  obtain ⟨w1, w2⟩ := wt_ok hok hlow hn hb hm
  unfold innT
  rw [wds_at hlow hm]
  generalize wt1 ks (tsD low) (rdD low nums) (wdsD low) (flagT (m * 2 ^ low)) = W at *
  have hall : ∀ q ∈ W :: (mname low m).map (hrD low nums), Bd q := by
    intro q hq
    rcases List.mem_cons.mp hq with rfl | hq
    · exact w1
    · obtain ⟨t, ht, rfl⟩ := List.mem_map.mp hq
      obtain ⟨b, hb', rfl⟩ := List.mem_map.mp ht
      have hb3 : b < 3 := List.mem_range.mp (List.mem_filter.mp hb').1
      rw [hr_at hlow hb3]
      exact bd_num hn hb (by omega)
  obtain ⟨h1, h2⟩ := pick_min hok (W :: (mname low m).map (hrD low nums)) W w1 hall
  refine ⟨h1, fun x => (h2 x).trans ?_⟩
  rw [w2]
  constructor
  · rintro ⟨h3, h4⟩
    refine ⟨h3, fun b hb3 hbit => ?_⟩
    rw [tall_at hn hb3, ← hr_at (nums := nums) hlow hb3]
    refine h4 _ (List.mem_cons_of_mem _ (List.mem_map.mpr ⟨_, List.mem_map.mpr ⟨b, List.mem_filter.mpr ⟨List.mem_range.mpr hb3, decide_eq_true hbit⟩, rfl⟩, rfl⟩))
  · rintro ⟨h3, h4⟩
    refine ⟨h3, fun q hq => ?_⟩
    rcases List.mem_cons.mp hq with rfl | hq
    · rw [w2]; exact h3
    · obtain ⟨t, ht, rfl⟩ := List.mem_map.mp hq
      obtain ⟨b, hb', rfl⟩ := List.mem_map.mp ht
      obtain ⟨h5, h6⟩ := List.mem_filter.mp hb'
      have hb3 : b < 3 := List.mem_range.mp h5
      rw [hr_at hlow hb3, ← tall_at hn hb3]
      exact h4 b hb3 (of_decide_eq_true h6)
theorem out_ok {m : Nat} (hm : m < 8) : Bd (outT ks (nms low) (hrD low nums) (wt1 ks (tsD low) (rdD low nums) (wdsD low)) (wdsD low) (flagT (m * 2 ^ low))) ∧
    ∀ x, x ≤ rankD ks (outT ks (nms low) (hrD low nums) (wt1 ks (tsD low) (rdD low nums) (wdsD low)) (wdsD low) (flagT (m * 2 ^ low))) ↔ x ≤ heavyD ((rks ks nums).drop 3) m ∨ ∃ b, b < 3 ∧ m / 2 ^ b % 2 = 0 ∧ x ≤ ((rks ks nums).take 3).getD b 0 := by
  obtain ⟨w1, w2⟩ := wt_ok hok hlow hn hb hm
  unfold outT
  rw [wds_at hlow hm, out_words low hlow m hm]
  generalize wt1 ks (tsD low) (rdD low nums) (wdsD low) (flagT (m * 2 ^ low)) = W at *
  have hall : ∀ q ∈ W :: (((List.range 3).filter fun b => decide (m / 2 ^ b % 2 = 0)).map fun b => nmAt (low + b)).map (hrD low nums), Bd q := by
    intro q hq
    rcases List.mem_cons.mp hq with rfl | hq
    · exact w1
    · obtain ⟨t, ht, rfl⟩ := List.mem_map.mp hq
      obtain ⟨b, hb', rfl⟩ := List.mem_map.mp ht
      have hb3 : b < 3 := List.mem_range.mp (List.mem_filter.mp hb').1
      rw [hr_at hlow hb3]
      exact bd_num hn hb (by omega)
  obtain ⟨h1, h2⟩ := pick_max hok _ W w1 hall
  refine ⟨h1, fun x => (h2 x).trans ?_⟩
  rw [w2]
  constructor
  · rintro (h3 | ⟨q, hq, h4⟩)
    · exact .inl h3
    · rcases List.mem_cons.mp hq with rfl | hq
      · exact .inl (w2 ▸ h4)
      · obtain ⟨t, ht, rfl⟩ := List.mem_map.mp hq
        obtain ⟨b, hb', rfl⟩ := List.mem_map.mp ht
        obtain ⟨h5, h6⟩ := List.mem_filter.mp hb'
        have hb3 : b < 3 := List.mem_range.mp h5
        rw [hr_at hlow hb3, ← tall_at hn hb3] at h4
        exact .inr ⟨b, hb3, of_decide_eq_true h6, h4⟩
  · rintro (h3 | ⟨b, hb3, hbit, h4⟩)
    · exact .inl h3
    · rw [tall_at hn hb3, ← hr_at (nums := nums) hlow hb3] at h4
      exact .inr ⟨_, List.mem_cons_of_mem _ (List.mem_map.mpr ⟨_, List.mem_map.mpr ⟨b, List.mem_filter.mpr ⟨List.mem_range.mpr hb3, decide_eq_true hbit⟩, rfl⟩, rfl⟩), h4⟩
end
end Mine

-- PlD
open PySem PySem.W PyProof.Rows PySem.Spec PySem.Calls
set_option maxRecDepth 100000
set_option maxHeartbeats 8000000
namespace Mine
noncomputable def Thr (tall ps : List Int) (x : Int) : Prop := x ≤ heavyD ps (reachD tall x)
theorem reach_eq (tall : List Int) (x : Int) : reachD tall x = (if x ≤ tall.getD 0 0 then 1 else 0) + (if x ≤ tall.getD 1 0 then 2 else 0) + (if x ≤ tall.getD 2 0 then 4 else 0) := by
  unfold reachD
  have e : List.range 3 = [0, 1, 2] := rfl
  rw [e]
  simp only [List.filter_cons, List.filter_nil]
  generalize tall.getD 0 0 = h0
  generalize tall.getD 1 0 = h1
  generalize tall.getD 2 0 = h2
  by_cases a : x ≤ h0 <;> by_cases b : x ≤ h1 <;> by_cases c : x ≤ h2 <;> simp [a, b, c]
theorem due_thr (tall ps : List Int) (ht : tall.length = 3) (x : Int) : x ≤ dueD tall ps ↔ Thr tall ps x := by
  unfold dueD Thr
  rw [maxI_thr (by
    intro h
    have := congrArg List.length h
    simp at this)]
  match tall, ht with
  | [h0, h1, h2], _ =>
    have g0 : [h0, h1, h2].getD 0 0 = h0 := rfl
    have g1 : [h0, h1, h2].getD 1 0 = h1 := rfl
    have g2 : [h0, h1, h2].getD 2 0 = h2 := rfl
    have mono : ∀ y, x ≤ y → heavyD ps (reachD [h0, h1, h2] y) ≤ heavyD ps (reachD [h0, h1, h2] x) := by
      intro y hy
      apply heavy_mono
      rw [reach_eq, reach_eq, g0, g1, g2]
      by_cases a : y ≤ h0
      · have a' : x ≤ h0 := by omega
        rw [if_pos a, if_pos a']
        by_cases b : y ≤ h1
        · have b' : x ≤ h1 := by omega
          rw [if_pos b, if_pos b']
          by_cases c : y ≤ h2
          · have c' : x ≤ h2 := by omega
            rw [if_pos c, if_pos c']
            rfl
          · rw [if_neg c]
            split <;> rfl
        · rw [if_neg b]
          by_cases c : y ≤ h2
          · have c' : x ≤ h2 := by omega
            rw [if_pos c, if_pos c']
            split <;> rfl
          · rw [if_neg c]
            split <;> split <;> rfl
      · rw [if_neg a]
        by_cases b : y ≤ h1
        · have b' : x ≤ h1 := by omega
          rw [if_pos b, if_pos b']
          by_cases c : y ≤ h2
          · have c' : x ≤ h2 := by omega
            rw [if_pos c, if_pos c']
            split <;> rfl
          · rw [if_neg c]
            split <;> split <;> rfl
        · rw [if_neg b]
          by_cases c : y ≤ h2
          · have c' : x ≤ h2 := by omega
            rw [if_pos c, if_pos c']
            split <;> split <;> rfl
          · rw [if_neg c]
            split <;> split <;> split <;> rfl
    constructor
    · rintro ⟨a, ha, hx⟩
      obtain ⟨row, hrow, rfl⟩ := List.mem_map.mp ha
      obtain ⟨k1, k2⟩ := (minI_thr _ _ _).mp hx
      exact Int.le_trans k2 (mono row k1)
    · intro hx
      have use : ∀ row, row ∈ [h0, h1, h2] ++ (List.range 8).map (heavyD ps) → x ≤ row → reachD [h0, h1, h2] row = reachD [h0, h1, h2] x → ∃ a, a ∈ ([h0, h1, h2] ++ (List.range 8).map (heavyD ps)).map (fun row => minI [row, heavyD ps (reachD [h0, h1, h2] row)]) ∧ x ≤ a := by
        intro row hm hr he
        exact ⟨_, List.mem_map.mpr ⟨row, hm, rfl⟩, (minI_thr _ _ _).mpr ⟨hr, by rw [he]; exact hx⟩⟩
      have m0 : h0 ∈ [h0, h1, h2] ++ (List.range 8).map (heavyD ps) := List.mem_append_left _ (by simp)
      have m1 : h1 ∈ [h0, h1, h2] ++ (List.range 8).map (heavyD ps) := List.mem_append_left _ (by simp)
      have m2 : h2 ∈ [h0, h1, h2] ++ (List.range 8).map (heavyD ps) := List.mem_append_left _ (by simp)
      by_cases z : ¬ x ≤ h0 ∧ ¬ x ≤ h1 ∧ ¬ x ≤ h2
      · have e0 : reachD [h0, h1, h2] x = 0 := by
          rw [reach_eq, g0, g1, g2, if_neg z.1, if_neg z.2.1, if_neg z.2.2]
        rw [e0] at hx
        refine ⟨_, List.mem_map.mpr ⟨heavyD ps 0, List.mem_append_right _ (List.mem_map.mpr ⟨0, by decide, rfl⟩), rfl⟩, (minI_thr _ _ _).mpr ⟨hx, Int.le_trans hx (heavy_mono ps (Nat.zero_and _))⟩⟩
      · -- the least of the things that reach x
        by_cases p0 : x ≤ h0 ∧ (x ≤ h1 → h0 ≤ h1) ∧ (x ≤ h2 → h0 ≤ h2)
        · refine use h0 m0 p0.1 ?_
          rw [reach_eq, reach_eq, g0, g1, g2, if_pos (Int.le_refl _), if_pos p0.1]
          have e1 : h0 ≤ h1 ↔ x ≤ h1 := ⟨fun h => by omega, p0.2.1⟩
          have e2 : h0 ≤ h2 ↔ x ≤ h2 := ⟨fun h => by omega, p0.2.2⟩
          simp only [e1, e2]
        · by_cases p1 : x ≤ h1 ∧ (x ≤ h0 → h1 ≤ h0) ∧ (x ≤ h2 → h1 ≤ h2)
          · refine use h1 m1 p1.1 ?_
            rw [reach_eq, reach_eq, g0, g1, g2]
            have e0 : h1 ≤ h0 ↔ x ≤ h0 := ⟨fun h => by omega, p1.2.1⟩
            have e1 : h1 ≤ h1 ↔ x ≤ h1 := ⟨fun h => by omega, fun _ => Int.le_refl _⟩
            have e2 : h1 ≤ h2 ↔ x ≤ h2 := ⟨fun h => by omega, p1.2.2⟩
            simp only [e0, e1, e2]
          · have p2 : x ≤ h2 ∧ (x ≤ h0 → h2 ≤ h0) ∧ (x ≤ h1 → h2 ≤ h1) := by omega
            refine use h2 m2 p2.1 ?_
            rw [reach_eq, reach_eq, g0, g1, g2]
            have e0 : h2 ≤ h0 ↔ x ≤ h0 := ⟨fun h => by omega, p2.2.1⟩
            have e1 : h2 ≤ h1 ↔ x ≤ h1 := ⟨fun h => by omega, p2.2.2⟩
            have e2 : h2 ≤ h2 ↔ x ≤ h2 := ⟨fun h => by omega, fun _ => Int.le_refl _⟩
            simp only [e0, e1, e2]
theorem inn_thr (tall ps : List Int) (x : Int) : (∃ m, m < 8 ∧ x ≤ heavyD ps m ∧ ∀ b < 3, m / 2 ^ b % 2 = 1 → x ≤ tall.getD b 0) ↔ Thr tall ps x := by
  unfold Thr
  rw [reach_eq]
  constructor
  · rintro ⟨m, hm, hx, hb⟩
    have b0 := hb 0 (by decide)
    have b1 := hb 1 (by decide)
    have b2 := hb 2 (by decide)
    clear hb
    refine Int.le_trans hx (heavy_mono ps ?_)
    revert b0 b1 b2
    generalize tall.getD 0 0 = h0
    generalize tall.getD 1 0 = h1
    generalize tall.getD 2 0 = h2
    intro b0 b1 b2
    clear hx
    rcases lt8 hm with rfl | rfl | rfl | rfl | rfl | rfl | rfl | rfl <;> simp at b0 b1 b2 <;> (repeat' split) <;> first | rfl | decide | (exfalso; omega)
  · intro hx
    refine ⟨_, ?_, hx, ?_⟩
    · split <;> split <;> split <;> decide
    · intro b hb3
      have c : b = 0 ∨ b = 1 ∨ b = 2 := lt3 hb3
      rcases c with rfl | rfl | rfl <;> (repeat' split) <;> first | (intro _; assumption) | (intro h; cases h)
theorem out_thr (tall ps : List Int) (x : Int) : (∀ m, m < 8 → (x ≤ heavyD ps m ∨ ∃ b, b < 3 ∧ m / 2 ^ b % 2 = 0 ∧ x ≤ tall.getD b 0)) ↔ Thr tall ps x := by
  unfold Thr
  rw [reach_eq]
  constructor
  · intro h
    rcases h ((if x ≤ tall.getD 0 0 then 1 else 0) + (if x ≤ tall.getD 1 0 then 2 else 0) + (if x ≤ tall.getD 2 0 then 4 else 0)) (by split <;> split <;> split <;> decide) with h | ⟨b, hb3, hbit, hx⟩
    · exact h
    · exfalso
      have c : b = 0 ∨ b = 1 ∨ b = 2 := lt3 hb3
      revert hbit
      rcases c with rfl | rfl | rfl <;> rw [if_pos hx] <;> (repeat' split) <;> decide
  · intro hx m hm
    by_cases k : ∃ b, b < 3 ∧ m / 2 ^ b % 2 = 0 ∧ x ≤ tall.getD b 0
    · exact .inr k
    · refine .inl (Int.le_trans hx (heavy_mono ps ?_))
      have b0 : ¬ (m / 2 ^ 0 % 2 = 0 ∧ x ≤ tall.getD 0 0) := fun h => k ⟨0, by decide, h⟩
      have b1 : ¬ (m / 2 ^ 1 % 2 = 0 ∧ x ≤ tall.getD 1 0) := fun h => k ⟨1, by decide, h⟩
      have b2 : ¬ (m / 2 ^ 2 % 2 = 0 ∧ x ≤ tall.getD 2 0) := fun h => k ⟨2, by decide, h⟩
      clear k
      revert b0 b1 b2
      clear hx
      generalize tall.getD 0 0 = h0
      generalize tall.getD 1 0 = h1
      generalize tall.getD 2 0 = h2
      intro b0 b1 b2
      rcases lt8 hm with rfl | rfl | rfl | rfl | rfl | rfl | rfl | rfl <;> simp at b0 b1 b2 <;> (repeat' split) <;> first | rfl | decide | (exfalso; omega)
end Mine

-- PlE
open PySem PySem.W PyProof.Rows PySem.Spec PySem.Calls
set_option maxRecDepth 100000
set_option maxHeartbeats 8000000
namespace Mine
section
variable {ks : List (Int × Int)} (hok : okKeys ks)
include hok
theorem lay1 {q : RowM} : laidP ks [] q = [q] := rfl
theorem lay2 {p q : RowM} (hp : Bd p.1) (hq : Bd q.1) : laidP ks [p] q = if rankD ks p.1 ≤ rankD ks q.1 then [p, q] else [q, p] := by
  have e := cmp_le hok hp hq
  have e0 := cmp_self hok hq
  show (let n := bisGo (fun i => decide (cmp ks ([p.1].getD i ⟨0, 0, 0⟩) q.1 ≤ cmp ks q.1 q.1)) 1 0 1; [p].take n ++ q :: [p].drop n) = _
  rw [e0]
  show (let n := if decide (cmp ks p.1 q.1 ≤ 0) = true then 1 else 0; [p].take n ++ q :: [p].drop n) = _
  by_cases c : rankD ks p.1 ≤ rankD ks q.1
  · rw [if_pos c, decide_eq_true (e.mpr c)]
    rfl
  · rw [if_neg c, decide_eq_false (fun h => c (e.mp h))]
    rfl
theorem lay3 {p r q : RowM} (hp : Bd p.1) (hr : Bd r.1) (hq : Bd q.1) : laidP ks [p, r] q = if rankD ks r.1 ≤ rankD ks q.1 then [p, r, q] else if rankD ks p.1 ≤ rankD ks q.1 then [p, q, r] else [q, p, r] := by
  have e := cmp_le hok hp hq
  have e1 := cmp_le hok hr hq
  have e0 := cmp_self hok hq
  show (let n := bisGo (fun i => decide (cmp ks ([p.1, r.1].getD i ⟨0, 0, 0⟩) q.1 ≤ cmp ks q.1 q.1)) 2 0 2; [p, r].take n ++ q :: [p, r].drop n) = _
  rw [e0]
  show (let n := if decide (cmp ks r.1 q.1 ≤ 0) = true then 2 else if decide (cmp ks p.1 q.1 ≤ 0) = true then 1 else 0; [p, r].take n ++ q :: [p, r].drop n) = _
  by_cases c : rankD ks r.1 ≤ rankD ks q.1
  · rw [if_pos c, decide_eq_true (e1.mpr c)]
    rfl
  · rw [if_neg c, decide_eq_false (fun h => c (e1.mp h))]
    by_cases c : rankD ks p.1 ≤ rankD ks q.1
    · rw [if_pos c, decide_eq_true (e.mpr c)]
      rfl
    · rw [if_neg c, decide_eq_false (fun h => c (e.mp h))]
      rfl
variable {low : Nat} {nums : List Int} (hlow : low < 10) (hn : nums.length = 11) (hb : ∀ x ∈ nums, 0 ≤ x ∧ x < 30000000)
include hlow hn hb
noncomputable def rwm (low : Nat) (nums : List Int) (k : Nat) : RowM := (rowD (nums.getD k 0), 1 * 2 ^ (low + k))
theorem ino_eq : inoAt ks (hrD low nums) low (nms low) 3 = (srt3 ((rks ks nums).getD 0 0) ((rks ks nums).getD 1 0) ((rks ks nums).getD 2 0)).map (rwm low nums) := by
  have b0 := bd_num hn hb (i := 0) (by decide)
  have b1 := bd_num hn hb (i := 1) (by decide)
  have b2 := bd_num hn hb (i := 2) (by decide)
  have e0 : hrD low nums (nmAt low) = rowD (nums.getD 0 0) := hr_at hlow (b := 0) (by decide)
  have e1 : hrD low nums (nmAt (low + 1)) = rowD (nums.getD 1 0) := hr_at hlow (b := 1) (by decide)
  have e2 : hrD low nums (nmAt (low + 2)) = rowD (nums.getD 2 0) := hr_at hlow (b := 2) (by decide)
  have e : inoAt ks (hrD low nums) low (nms low) 3 = laidP ks (laidP ks (laidP ks [] (rwm low nums 0)) (rwm low nums 1)) (rwm low nums 2) := by
    show laidP ks (laidP ks (laidP ks [] (hrD low nums (nmAt low), 1 * 2 ^ (low + 0))) (hrD low nums (nmAt (low + 1)), 1 * 2 ^ (low + 1))) (hrD low nums (nmAt (low + 2)), 1 * 2 ^ (low + 2)) = _
    rw [e0, e1, e2]
    rfl
  rw [e, lay1 hok, rks_at hn (by omega), rks_at hn (by omega), rks_at hn (by omega)]
  have f0 : Bd (rwm low nums 0).1 := b0
  have f1 : Bd (rwm low nums 1).1 := b1
  have f2 : Bd (rwm low nums 2).1 := b2
  rw [lay2 hok f0 f1]
  have r0 : rankD ks (rwm low nums 0).1 = rankD ks (rowD (nums.getD 0 0)) := rfl
  have r1 : rankD ks (rwm low nums 1).1 = rankD ks (rowD (nums.getD 1 0)) := rfl
  have r2 : rankD ks (rwm low nums 2).1 = rankD ks (rowD (nums.getD 2 0)) := rfl
  unfold srt3
  by_cases c : rankD ks (rwm low nums 0).1 ≤ rankD ks (rwm low nums 1).1
  · rw [if_pos c, lay3 hok f0 f1 f2]
    rw [r0, r1, r2] at *
    (repeat' split) <;> first | rfl | (exfalso; omega)
  · rw [if_neg c, lay3 hok f1 f0 f2]
    rw [r0, r1, r2] at *
    (repeat' split) <;> first | rfl | (exfalso; omega)
end
end Mine

-- PlF
open PySem PySem.W PyProof.Rows PySem.Spec PySem.Calls
set_option maxRecDepth 100000
set_option maxHeartbeats 8000000
namespace Mine
noncomputable def fsD (P : List RowM) (k : Nat) : Nat := Int.toNat ((P.take k).map fun x : RowM => x.2).sum
noncomputable def Perm3 (a b c : Nat) : Prop := (a = 0 ∧ b = 1 ∧ c = 2) ∨ (a = 0 ∧ b = 2 ∧ c = 1) ∨ (a = 1 ∧ b = 0 ∧ c = 2) ∨ (a = 1 ∧ b = 2 ∧ c = 0) ∨ (a = 2 ∧ b = 0 ∧ c = 1) ∨ (a = 2 ∧ b = 1 ∧ c = 0)
theorem srt3_ord (r : Nat → Int) : ∃ a b c, srt3 (r 0) (r 1) (r 2) = [a, b, c] ∧ r a ≤ r b ∧ r b ≤ r c ∧ Perm3 a b c := by
  unfold srt3 Perm3
  split
  · split
    · exact ⟨2, 1, 0, rfl, by omega, by omega, by simp⟩
    · split
      · exact ⟨1, 2, 0, rfl, by omega, by omega, by simp⟩
      · exact ⟨1, 0, 2, rfl, by omega, by omega, by simp⟩
  · split
    · exact ⟨2, 0, 1, rfl, by omega, by omega, by simp⟩
    · split
      · exact ⟨0, 2, 1, rfl, by omega, by omega, by simp⟩
      · exact ⟨0, 1, 2, rfl, by omega, by omega, by simp⟩
noncomputable def msk (b c k : Nat) : Nat := if k = 0 then 0 else if k = 1 then 2 ^ c else if k = 2 then 2 ^ c + 2 ^ b else 7
theorem msk_lt {a b c : Nat} (h : Perm3 a b c) (k : Nat) : msk b c k < 8 := by
  unfold Perm3 at h
  unfold msk
  rcases h with ⟨rfl, rfl, rfl⟩ | ⟨rfl, rfl, rfl⟩ | ⟨rfl, rfl, rfl⟩ | ⟨rfl, rfl, rfl⟩ | ⟨rfl, rfl, rfl⟩ | ⟨rfl, rfl, rfl⟩ <;> (repeat' split) <;> decide
theorem pow_cast (low c : Nat) : (1 * 2 ^ (low + c) : Int) = (((2 ^ c * 2 ^ low : Nat)) : Int) := by
  rw [Int.one_mul, Nat.mul_comm, ← Nat.pow_add]
  simp
theorem sum_mask {low : Nat} {nums : List Int} {a b c : Nat} (h : Perm3 a b c) : ∀ k, k < 4 → ((([rwm low nums c, rwm low nums b, rwm low nums a].take k).map fun x : RowM => x.2).sum = ((msk b c k * 2 ^ low : Nat) : Int)) := by
  intro k hk
  have hc : k = 0 ∨ k = 1 ∨ k = 2 ∨ k = 3 := lt4 hk
  have e : ∀ j, (rwm low nums j).2 = ((2 ^ j * 2 ^ low : Nat) : Int) := fun j => pow_cast low j
  unfold Perm3 at h
  rcases hc with rfl | rfl | rfl | rfl
  · simp [msk]
  · simp only [List.take_succ_cons, List.take_zero, List.map_cons, List.map_nil, List.sum_cons, List.sum_nil, e]
    unfold msk
    simp
  · simp only [List.take_succ_cons, List.take_zero, List.map_cons, List.map_nil, List.sum_cons, List.sum_nil, e]
    show _ = (((2 ^ c + 2 ^ b) * 2 ^ low : Nat) : Int)
    rw [Nat.add_mul]
    omega
  · simp only [List.take_succ_cons, List.take_zero, List.map_cons, List.map_nil, List.sum_cons, List.sum_nil, e]
    show _ = ((7 * 2 ^ low : Nat) : Int)
    generalize 2 ^ low = q
    rcases h with ⟨rfl, rfl, rfl⟩ | ⟨rfl, rfl, rfl⟩ | ⟨rfl, rfl, rfl⟩ | ⟨rfl, rfl, rfl⟩ | ⟨rfl, rfl, rfl⟩ | ⟨rfl, rfl, rfl⟩ <;> omega
/-- what the threshold is when the things are ordered -/
noncomputable def Thr2 (h1 h2 h3 w0 w1 w2 w3 x : Int) : Prop := if x ≤ h3 then x ≤ w3 else if x ≤ h2 then x ≤ w2 else if x ≤ h1 then x ≤ w1 else x ≤ w0
theorem thr_two (tall ps : List Int) {a b c : Nat} (h : Perm3 a b c) (h1 : tall.getD a 0 ≤ tall.getD b 0) (h2 : tall.getD b 0 ≤ tall.getD c 0) (x : Int) :
    Thr2 (tall.getD c 0) (tall.getD b 0) (tall.getD a 0) (heavyD ps (msk b c 0)) (heavyD ps (msk b c 1)) (heavyD ps (msk b c 2)) (heavyD ps (msk b c 3)) x ↔ Thr tall ps x := by
  unfold Thr Thr2
  rw [reach_eq]
  unfold Perm3 at h
  rcases h with ⟨rfl, rfl, rfl⟩ | ⟨rfl, rfl, rfl⟩ | ⟨rfl, rfl, rfl⟩ | ⟨rfl, rfl, rfl⟩ | ⟨rfl, rfl, rfl⟩ | ⟨rfl, rfl, rfl⟩ <;> revert h1 h2 <;> generalize tall.getD 0 0 = g0 <;> generalize tall.getD 1 0 = g1 <;> generalize tall.getD 2 0 = g2 <;> intro h1 h2 <;> (repeat' split) <;> first | exact Iff.rfl | (exfalso; omega)
theorem byo1_ok {ks : List (Int × Int)} (hok : okKeys ks) {p q r : RowM} {lv : Nat → RowD} (hp : Bd p.1) (hq : Bd q.1) (hr : Bd r.1) (hlv : ∀ k, k < 4 → Bd (lv k)) (h21 : rankD ks q.1 ≤ rankD ks p.1) (h32 : rankD ks r.1 ≤ rankD ks q.1)
    (w01 : rankD ks (lv 0) ≤ rankD ks (lv 1)) (w12 : rankD ks (lv 1) ≤ rankD ks (lv 2)) (w23 : rankD ks (lv 2) ≤ rankD ks (lv 3)) (x : Int) :
    x ≤ rankD ks (byo1 ks [p, q, r] lv) ↔ Thr2 (rankD ks p.1) (rankD ks q.1) (rankD ks r.1) (rankD ks (lv 0)) (rankD ks (lv 1)) (rankD ks (lv 2)) (rankD ks (lv 3)) x := by
  have g0 := cmp_ge hok (hlv 1 (by decide)) hp
  have g1 := cmp_ge hok (hlv 2 (by decide)) hq
  have g2 := cmp_ge hok (hlv 3 (by decide)) hr
  have t0 := (pick_max hok [lv 0, p.1] (lv 0) (hlv 0 (by decide)) (by simp; exact ⟨hlv 0 (by decide), hp⟩)).2 x
  have t1 := (pick_max hok [lv 1, q.1] (lv 1) (hlv 1 (by decide)) (by simp; exact ⟨hlv 1 (by decide), hq⟩)).2 x
  have t2 := (pick_max hok [lv 2, r.1] (lv 2) (hlv 2 (by decide)) (by simp; exact ⟨hlv 2 (by decide), hr⟩)).2 x
  have t3 := (pick_max hok [lv 3] (lv 3) (hlv 3 (by decide)) (by simp; exact hlv 3 (by decide))).2 x
  simp only [List.mem_cons, List.not_mem_nil, or_false, exists_eq_or_imp, exists_eq_left] at t0 t1 t2 t3
  have e : byo1 ks [p, q, r] lv = if 0 ≤ cmp ks (lv 2) q.1 then (if 0 ≤ cmp ks (lv 1) p.1 then pick ks 1 (lv 0) [lv 0, p.1] else pick ks 1 (lv 1) [lv 1, q.1]) else (if 0 ≤ cmp ks (lv 3) r.1 then pick ks 1 (lv 2) [lv 2, r.1] else pick ks 1 (lv 3) [lv 3]) := by
    unfold byo1
    have ef : firstAt (fun k => decide (0 ≤ cmp ks (lv (k + 1)) ([p, q, r].getD k ⟨⟨0, 0, 0⟩, 0⟩).1)) = if 0 ≤ cmp ks (lv 2) q.1 then (if 0 ≤ cmp ks (lv 1) p.1 then 0 else 1) else (if 0 ≤ cmp ks (lv 3) r.1 then 2 else 3) := by
      show (if decide (0 ≤ cmp ks (lv 2) q.1) = true then (if decide (0 ≤ cmp ks (lv 1) p.1) = true then 0 else 1) else (if decide (0 ≤ cmp ks (lv 3) r.1) = true then 2 else 3)) = _
      simp only [decide_eq_true_eq]
    rw [ef]
    (repeat' split) <;> rfl
  rw [e]
  unfold Thr2
  simp only [g0, g1, g2]
  generalize rankD ks p.1 = h1 at *
  generalize rankD ks q.1 = h2 at *
  generalize rankD ks r.1 = h3 at *
  generalize rankD ks (lv 0) = w0 at *
  generalize rankD ks (lv 1) = w1 at *
  generalize rankD ks (lv 2) = w2 at *
  generalize rankD ks (lv 3) = w3 at *
  clear e g0 g1 g2
  by_cases c1 : h2 ≤ w2
  · rw [if_pos c1]
    by_cases c0 : h1 ≤ w1
    · rw [if_pos c0, t0]
      (repeat' split) <;> omega
    · rw [if_neg c0, t1]
      (repeat' split) <;> omega
  · rw [if_neg c1]
    by_cases c2 : h3 ≤ w3
    · rw [if_pos c2, t2]
      (repeat' split) <;> omega
    · rw [if_neg c2, t3]
      (repeat' split) <;> omega
theorem byo2_ok {ks : List (Int × Int)} (hok : okKeys ks) {p q r : RowM} {lv : Nat → RowD} (hp : Bd p.1) (hq : Bd q.1) (hr : Bd r.1) (hlv : ∀ k, k < 4 → Bd (lv k)) (h21 : rankD ks q.1 ≤ rankD ks p.1) (h32 : rankD ks r.1 ≤ rankD ks q.1)
    (w01 : rankD ks (lv 0) ≤ rankD ks (lv 1)) (w12 : rankD ks (lv 1) ≤ rankD ks (lv 2)) (w23 : rankD ks (lv 2) ≤ rankD ks (lv 3)) (x : Int) :
    x ≤ rankD ks (byo2 ks [p, q, r] lv) ↔ Thr2 (rankD ks p.1) (rankD ks q.1) (rankD ks r.1) (rankD ks (lv 0)) (rankD ks (lv 1)) (rankD ks (lv 2)) (rankD ks (lv 3)) x := by
  have t := byo2_thr hok (P := [p, q, r]) (lv := lv) (by simp; exact ⟨hp, hq, hr⟩) rfl hlv x
  rw [t]
  unfold Thr2
  simp only [List.map_cons, List.map_nil, List.cons_append, List.nil_append, List.countP_cons, List.countP_nil, decide_eq_true_eq]
  clear t hp hq hr hlv
  generalize rankD ks p.1 = h1 at *
  generalize rankD ks q.1 = h2 at *
  generalize rankD ks r.1 = h3 at *
  generalize rankD ks (lv 0) = w0 at *
  generalize rankD ks (lv 1) = w1 at *
  generalize rankD ks (lv 2) = w2 at *
  generalize rankD ks (lv 3) = w3 at *
  by_cases a1 : x ≤ h1 <;> by_cases a2 : x ≤ h2 <;> by_cases a3 : x ≤ h3 <;> (try omega) <;> by_cases b0 : x ≤ w0 <;> by_cases b1 : x ≤ w1 <;> by_cases b2 : x ≤ w2 <;> by_cases b3 : x ≤ w3 <;> (try (exfalso; omega)) <;> simp [a1, a2, a3, b0, b1, b2, b3]
end Mine

-- PlG
open PySem PySem.W PyProof.Rows PySem.Spec PySem.Calls
set_option maxRecDepth 100000
set_option maxHeartbeats 8000000
namespace Mine
section
variable {ks : List (Int × Int)} {low : Nat} {nums : List Int} (hok : okKeys ks) (hlow : low < 10) (hn : nums.length = 11) (hb : ∀ x ∈ nums, 0 ≤ x ∧ x < 30000000)
include hok hlow hn hb
theorem marks_eq {srt : List Nat} (h : srt3 (((nums.map rowD).map (rankD ks)).getD 0 0) (((nums.map rowD).map (rankD ks)).getD 1 0) (((nums.map rowD).map (rankD ks)).getD 2 0) = srt) :
   (inoAt ks (hrD low nums) low (nms low) 3).map (·.2) = srt.map (fun k => 1 * 2 ^ (low + k)) := by
  rw [ino_eq hok hlow hn hb, List.map_map, ← h]
  rfl
/-- the things from the highest down -/
theorem rev_eq : ∃ a b c, Perm3 a b c ∧ ((rks ks nums).take 3).getD a 0 ≤ ((rks ks nums).take 3).getD b 0 ∧ ((rks ks nums).take 3).getD b 0 ≤ ((rks ks nums).take 3).getD c 0 ∧ (inoAt ks (hrD low nums) low (nms low) 3).reverse = [rwm low nums c, rwm low nums b, rwm low nums a] := by
  obtain ⟨a, b, c, h1, h2, h3, h4⟩ := srt3_ord fun k => (rks ks nums).getD k 0
  have lt : a < 3 ∧ b < 3 ∧ c < 3 := by unfold Perm3 at h4; rcases h4 with h | h | h | h | h | h <;> (obtain ⟨rfl, rfl, rfl⟩ := h; decide)
  refine ⟨a, b, c, h4, ?_, ?_, ?_⟩
  · rw [tall_at hn lt.1, tall_at hn lt.2.1, ← rks_at hn (by omega), ← rks_at hn (by omega)]; exact h2
  · rw [tall_at hn lt.2.1, tall_at hn lt.2.2, ← rks_at hn (by omega), ← rks_at hn (by omega)]; exact h3
  · rw [ino_eq hok hlow hn hb]
    have h1 : srt3 ((rks ks nums).getD 0 0) ((rks ks nums).getD 1 0) ((rks ks nums).getD 2 0) = [a, b, c] := h1
    rw [h1]
    rfl
theorem fs_ok : ∀ k, k < 4 → ((((inoAt ks (hrD low nums) low (nms low) 3).reverse.take k).map fun x : RowM => x.2).sum = (fsD (inoAt ks (hrD low nums) low (nms low) 3).reverse k : Int) ∧ fsD (inoAt ks (hrD low nums) low (nms low) 3).reverse k < 4096 ∧ flagT (fsD (inoAt ks (hrD low nums) low (nms low) 3).reverse k) ∈ tsD low) := by
  intro k hk
  obtain ⟨a, b, c, h1, h2, h3, h4⟩ := rev_eq hok hlow hn hb
  have e := sum_mask (low := low) (nums := nums) h1 k hk
  have hm := msk_lt h1 k
  have ef : fsD (inoAt ks (hrD low nums) low (nms low) 3).reverse k = msk b c k * 2 ^ low := by
    rw [h4]
    unfold fsD
    rw [e, Int.toNat_natCast]
  refine ⟨?_, ?_, ?_⟩
  · rw [ef, h4, e]
  · rw [ef]; exact mask_lt hm hlow
  · rw [ef]; exact List.mem_of_getElem? (tsD_at hm)
noncomputable def lvD (ks : List (Int × Int)) (low : Nat) (nums : List Int) (k : Nat) : RowD := wt1 ks (tsD low) (rdD low nums) (wdsD low) (flagT (fsD (inoAt ks (hrD low nums) low (nms low) 3).reverse k))
theorem four_ok : ∃ p q r : RowM, (inoAt ks (hrD low nums) low (nms low) 3).reverse = [p, q, r] ∧ Bd p.1 ∧ Bd q.1 ∧ Bd r.1 ∧ (∀ k, k < 4 → Bd (lvD ks low nums k)) ∧ rankD ks q.1 ≤ rankD ks p.1 ∧ rankD ks r.1 ≤ rankD ks q.1 ∧
    rankD ks (lvD ks low nums 0) ≤ rankD ks (lvD ks low nums 1) ∧ rankD ks (lvD ks low nums 1) ≤ rankD ks (lvD ks low nums 2) ∧ rankD ks (lvD ks low nums 2) ≤ rankD ks (lvD ks low nums 3) ∧
    ∀ x, Thr2 (rankD ks p.1) (rankD ks q.1) (rankD ks r.1) (rankD ks (lvD ks low nums 0)) (rankD ks (lvD ks low nums 1)) (rankD ks (lvD ks low nums 2)) (rankD ks (lvD ks low nums 3)) x ↔ Thr ((rks ks nums).take 3) ((rks ks nums).drop 3) x := by
  obtain ⟨a, b, c, h1, h2, h3, h4⟩ := rev_eq hok hlow hn hb
  have lt : a < 3 ∧ b < 3 ∧ c < 3 := by unfold Perm3 at h1; omega
  have ef : ∀ k, k < 4 → fsD (inoAt ks (hrD low nums) low (nms low) 3).reverse k = msk b c k * 2 ^ low := by
    intro k hk
    rw [h4]
    unfold fsD
    rw [sum_mask (low := low) (nums := nums) h1 k hk, Int.toNat_natCast]
  have hl : ∀ k, k < 4 → Bd (lvD ks low nums k) ∧ rankD ks (lvD ks low nums k) = heavyD ((rks ks nums).drop 3) (msk b c k) := by
    intro k hk
    unfold lvD
    rw [ef k hk]
    exact wt_ok hok hlow hn hb (msk_lt h1 k)
  have ra : rankD ks (rwm low nums a).1 = ((rks ks nums).take 3).getD a 0 := (tall_at hn lt.1).symm
  have rb : rankD ks (rwm low nums b).1 = ((rks ks nums).take 3).getD b 0 := (tall_at hn lt.2.1).symm
  have rc : rankD ks (rwm low nums c).1 = ((rks ks nums).take 3).getD c 0 := (tall_at hn lt.2.2).symm
  refine ⟨_, _, _, h4, bd_num hn hb (by omega), bd_num hn hb (by omega), bd_num hn hb (by omega), fun k hk => (hl k hk).1, ?_, ?_, ?_, ?_, ?_, ?_⟩
  · rw [rb, rc]; exact h3
  · rw [ra, rb]; exact h2
  · rw [(hl 0 (by omega)).2, (hl 1 (by omega)).2]; exact heavy_mono _ (Nat.zero_and _)
  · rw [(hl 1 (by omega)).2, (hl 2 (by omega)).2]
    refine heavy_mono _ ?_
    unfold Perm3 at h1
    rcases h1 with ⟨rfl, rfl, rfl⟩ | ⟨rfl, rfl, rfl⟩ | ⟨rfl, rfl, rfl⟩ | ⟨rfl, rfl, rfl⟩ | ⟨rfl, rfl, rfl⟩ | ⟨rfl, rfl, rfl⟩ <;> rfl
  · rw [(hl 2 (by omega)).2, (hl 3 (by omega)).2]
    refine heavy_mono _ ?_
    unfold Perm3 at h1
    rcases h1 with ⟨rfl, rfl, rfl⟩ | ⟨rfl, rfl, rfl⟩ | ⟨rfl, rfl, rfl⟩ | ⟨rfl, rfl, rfl⟩ | ⟨rfl, rfl, rfl⟩ | ⟨rfl, rfl, rfl⟩ <;> rfl
  · intro x
    rw [ra, rb, rc, (hl 0 (by omega)).2, (hl 1 (by omega)).2, (hl 2 (by omega)).2, (hl 3 (by omega)).2]
    exact thr_two _ _ h1 h2 h3 x
theorem mem_ts {t : Str} (h : t ∈ tsD low) : ∃ m, m < 8 ∧ t = flagT (m * 2 ^ low) := by
  obtain ⟨m, hm, rfl⟩ := List.mem_map.mp h
  exact ⟨m, List.mem_range.mp hm, rfl⟩
theorem due_all : [bestL ks 1 ((tsD low).map (innT ks (hrD low nums) (wt1 ks (tsD low) (rdD low nums) (wdsD low)) (wdsD low))), bestL ks (-1) ((tsD low).map (outT ks (nms low) (hrD low nums) (wt1 ks (tsD low) (rdD low nums) (wdsD low)) (wdsD low))), byo1 ks (inoAt ks (hrD low nums) low (nms low) 3).reverse fun k => wt1 ks (tsD low) (rdD low nums) (wdsD low) (flagT (fsD (inoAt ks (hrD low nums) low (nms low) 3).reverse k)), byo2 ks (inoAt ks (hrD low nums) low (nms low) 3).reverse fun k => wt1 ks (tsD low) (rdD low nums) (wdsD low) (flagT (fsD (inoAt ks (hrD low nums) low (nms low) 3).reverse k))].map (rankD ks) = List.replicate 4 (dueD ((rks ks nums).take 3) ((rks ks nums).drop 3)) := by
  have h3 : ((rks ks nums).take 3).length = 3 := by
    unfold rks
    rw [List.length_take, List.length_map, List.length_map, hn]
    rfl
  have fin : ∀ r : RowD, (∀ x, x ≤ rankD ks r ↔ Thr ((rks ks nums).take 3) ((rks ks nums).drop 3) x) → rankD ks r = dueD ((rks ks nums).take 3) ((rks ks nums).drop 3) := fun r h => eq_of_le fun x => (h x).trans (due_thr _ _ h3 x).symm
  have hne : ∀ f : Str → RowD, (tsD low).map f ≠ [] := by
    intro f h
    have := List.map_eq_nil_iff.mp h
    unfold tsD at this
    cases this
  have e1 : rankD ks (bestL ks 1 ((tsD low).map (innT ks (hrD low nums) (wt1 ks (tsD low) (rdD low nums) (wdsD low)) (wdsD low)))) = dueD ((rks ks nums).take 3) ((rks ks nums).drop 3) := by
    refine fin _ fun x => ?_
    have hall : ∀ q ∈ (tsD low).map (innT ks (hrD low nums) (wt1 ks (tsD low) (rdD low nums) (wdsD low)) (wdsD low)), Bd q := by
      intro q hq
      obtain ⟨t, ht, rfl⟩ := List.mem_map.mp hq
      obtain ⟨m, hm, rfl⟩ := mem_ts hok hlow hn hb ht
      exact (inn_ok hok hlow hn hb hm).1
    rw [(best_max hok (hne _) hall).2, ← inn_thr]
    constructor
    · rintro ⟨q, hq, hx⟩
      obtain ⟨t, ht, rfl⟩ := List.mem_map.mp hq
      obtain ⟨m, hm, rfl⟩ := mem_ts hok hlow hn hb ht
      exact ⟨m, hm, ((inn_ok hok hlow hn hb hm).2 x).mp hx⟩
    · rintro ⟨m, hm, hx⟩
      exact ⟨_, List.mem_map.mpr ⟨_, List.mem_of_getElem? (tsD_at hm), rfl⟩, ((inn_ok hok hlow hn hb hm).2 x).mpr hx⟩
  have e2 : rankD ks (bestL ks (-1) ((tsD low).map (outT ks (nms low) (hrD low nums) (wt1 ks (tsD low) (rdD low nums) (wdsD low)) (wdsD low)))) = dueD ((rks ks nums).take 3) ((rks ks nums).drop 3) := by
    refine fin _ fun x => ?_
    have hall : ∀ q ∈ (tsD low).map (outT ks (nms low) (hrD low nums) (wt1 ks (tsD low) (rdD low nums) (wdsD low)) (wdsD low)), Bd q := by
      intro q hq
      obtain ⟨t, ht, rfl⟩ := List.mem_map.mp hq
      obtain ⟨m, hm, rfl⟩ := mem_ts hok hlow hn hb ht
      exact (out_ok hok hlow hn hb hm).1
    rw [(best_min hok (hne _) hall).2, ← out_thr]
    constructor
    · intro h m hm
      exact ((out_ok hok hlow hn hb hm).2 x).mp (h _ (List.mem_map.mpr ⟨_, List.mem_of_getElem? (tsD_at hm), rfl⟩))
    · intro h q hq
      obtain ⟨t, ht, rfl⟩ := List.mem_map.mp hq
      obtain ⟨m, hm, rfl⟩ := mem_ts hok hlow hn hb ht
      exact ((out_ok hok hlow hn hb hm).2 x).mpr (h m hm)
  obtain ⟨p, q, r, hP, hp, hq, hr, hlv, h21, h32, w01, w12, w23, hthr⟩ := four_ok hok hlow hn hb
  have e3 : rankD ks (byo1 ks (inoAt ks (hrD low nums) low (nms low) 3).reverse (lvD ks low nums)) = dueD ((rks ks nums).take 3) ((rks ks nums).drop 3) := by
    refine fin _ fun x => ?_
    rw [hP, byo1_ok hok hp hq hr hlv h21 h32 w01 w12 w23]
    exact hthr x
  have e4 : rankD ks (byo2 ks (inoAt ks (hrD low nums) low (nms low) 3).reverse (lvD ks low nums)) = dueD ((rks ks nums).take 3) ((rks ks nums).drop 3) := by
    refine fin _ fun x => ?_
    rw [hP, byo2_ok hok hp hq hr hlv h21 h32 w01 w12 w23]
    exact hthr x
  show [rankD ks (bestL ks 1 _), rankD ks (bestL ks (-1) _), rankD ks (byo1 ks _ (lvD ks low nums)), rankD ks (byo2 ks _ (lvD ks low nums))] = _
  rw [e1, e2, e3, e4]
  rfl
end
end Mine

-- Plain
open PySem PySem.W PyProof.Rows PySem.Spec PySem.Calls
set_option maxRecDepth 100000
set_option maxHeartbeats 8000000
namespace Mine
theorem isList_of {g h : Heap} {L D : Addr} {vs : List Value} {news : List (Addr × Obj)} (N : News g L h news) (hm : (D, LCg.lst vs) ∈ news) : h.IsList D vs.toArray := ⟨_, (N _ hm).1, rfl, _, rfl⟩
theorem slice_take3 {prog : Program} {w : World} {A : Around} {E : Value → Shared → Prop} {s : Shared} {h₀ : Heap} {L l : Addr} {m : Str → Option Value} {news : List (Addr × Obj)} {value slice : PySem.Expr} {vs : List Value} {n : Nat} {u : Tok} {Q : Value → Shared → Prop}
    (F : Fr h₀ L s.heap m) (N : News h₀ L s.heap news) (hm : (l, lstO vs n) ∈ news) (hz : vs.length ≤ 1000)
    (h : ∀ D h', Fr h₀ L h' m → News h₀ L h' ((D, lstO (vs.take 3) 0) :: news) → (∀ p ∈ news, p.1 < D) → Q (.ref D) { s with heap := h' })
    (hs : subscripted slice false (.ref l) (.ref s.heap.objs.size) = operate [.ref s.heap.objs.size, .ref l] (getItem (.ref l) (.ref s.heap.objs.size)) := by with_unfolding_all rfl) (ht : ∀ r, letTemporaryGo value (.ref l) r = pure () := by intro _; with_unfolding_all rfl) :
    wpAny (model prog w) A (subscriptTail value slice (.ref l) (.ref s.heap.objs.size)) Q E { s with heap := s.heap.push { cls := .type "slice", data := .fields #[.none, .int 3 u, .none] } } :=
  slice_take (k := 3) F N hm hz h hs ht
theorem slice_from3 {prog : Program} {w : World} {A : Around} {E : Value → Shared → Prop} {s : Shared} {h₀ : Heap} {L l : Addr} {m : Str → Option Value} {news : List (Addr × Obj)} {value slice : PySem.Expr} {vs : List Value} {n : Nat} {u : Tok} {Q : Value → Shared → Prop}
    (F : Fr h₀ L s.heap m) (N : News h₀ L s.heap news) (hm : (l, lstO vs n) ∈ news) (hz : vs.length ≤ 1000)
    (h : ∀ D h', Fr h₀ L h' m → News h₀ L h' ((D, lstO (vs.drop 3) 0) :: news) → (∀ p ∈ news, p.1 < D) → Q (.ref D) { s with heap := h' })
    (hs : subscripted slice false (.ref l) (.ref s.heap.objs.size) = operate [.ref s.heap.objs.size, .ref l] (getItem (.ref l) (.ref s.heap.objs.size)) := by with_unfolding_all rfl) (ht : ∀ r, letTemporaryGo value (.ref l) r = pure () := by intro _; with_unfolding_all rfl) :
    wpAny (model prog w) A (subscriptTail value slice (.ref l) (.ref s.heap.objs.size)) Q E { s with heap := s.heap.push { cls := .type "slice", data := .fields #[.int 3 u, .none, .none] } } := by
  refine kms_slice_lit (its := vs.toArray) (zs := vs.drop 3) F N ⟨_, (N _ hm).1, rfl, _, rfl⟩ (IsPart.int _ _) IsPart.none ?_ h hs ht (by rw [sizeLine_eq]; simp; omega)
  show (vs.drop (min 3 vs.length)).take (vs.length - min 3 vs.length) = _
  by_cases c : 3 ≤ vs.length
  · rw [Nat.min_eq_left c]
    exact List.take_of_length_le (by rw [List.length_drop]; omega)
  · rw [Nat.min_eq_right (by omega), List.drop_of_length_le (Nat.le_refl _), List.drop_of_length_le (by omega), List.take_nil]
theorem slice_rev {prog : Program} {w : World} {A : Around} {E : Value → Shared → Prop} {s : Shared} {h₀ : Heap} {L l : Addr} {m : Str → Option Value} {news : List (Addr × Obj)} {value slice : PySem.Expr} {vs : List Value} {n : Nat} {u : Tok} {Q : Value → Shared → Prop} {ops : List Value}
    (F : Fr h₀ L s.heap m) (N : News h₀ L s.heap news) (hm : (l, lstO vs n) ∈ news) (hz : vs.length ≤ 1000)
    (h : ∀ D h', Fr h₀ L h' m → News h₀ L h' ((D, lstO vs.reverse 0) :: news) → (∀ p ∈ news, p.1 < D) → Q (.ref D) { s with heap := h' })
    (hs : subscripted slice false (.ref l) (.ref s.heap.objs.size) = operate ops (getItem (.ref l) (.ref s.heap.objs.size))) (ht : ∀ r, letTemporaryGo value (.ref l) r = pure ()) :
    wpAny (model prog w) A (subscriptTail value slice (.ref l) (.ref s.heap.objs.size)) Q E { s with heap := s.heap.push { cls := .type "slice", data := .fields #[.none, .none, .int (-1) u] } } :=
  PySem.W.krv_lit (its := vs.toArray) (zs := vs.reverse) F N ⟨_, (N _ hm).1, rfl, _, rfl⟩ (IsPart.int _ _) rfl h hs ht (by rw [sizeLine_eq, List.size_toArray]; omega)
theorem each_reverse {α : Type} {R : Value → α → Prop} {vs : List Value} {ds : List α} (h : Each R vs ds) : Each R vs.reverse ds.reverse := by
  refine ⟨by simp [h.1], fun i v d a b => ?_⟩
  have hi : i < vs.length := by simpa using (List.getElem?_eq_some_iff.mp a).1
  rw [List.getElem?_reverse hi] at a
  rw [List.getElem?_reverse (h.1 ▸ hi)] at b
  rw [← h.1] at b
  exact h.2 _ v d a b
theorem each_four {α : Type} {R : Value → α → Prop} {v1 v2 v3 v4 : Value} {r1 r2 r3 r4 : α} (h1 : R v1 r1) (h2 : R v2 r2) (h3 : R v3 r3) (h4 : R v4 r4) : Each R [v1, v2, v3, v4] [r1, r2, r3, r4] :=
  each_snoc (each_snoc (each_snoc (each_snoc (vs := []) (ds := []) .nil h1) h2) h3) h4
end Mine

-- Law
open PySem PySem.W PyProof.Rows PySem.Spec PySem.Calls
set_option maxRecDepth 100000
set_option maxHeartbeats 8000000
namespace Mine
theorem fresh_Law : True := by
  w_top off
  exact trivial

local macro_rules | `(tactic| k_room) => `(tactic| ktr_room)
local macro_rules | `(tactic| k_units) => `(tactic| ktr_units)
local macro_rules | `(tactic| k_mem) => `(tactic| first | with_reducible assumption | assumption)
local macro_rules | `(tactic| k_all) => `(tactic| first | with_reducible assumption | exact allLt_ne (by first | assumption | exact And.right (by assumption)))

set_option hygiene false in
theorem Law : PySem.Challenge.rw_wf0029_01.Holds := Mine.hd (by
  k_go0
  (all_goals try k_fold)
  rename_i w s₀ s₁ mg mb G Y fa o pm cd doc ho hcd hg XX VV T0 BB TE TW ns hs hlay0 hLy hr hl2 wa wb ls ws wc hL ra w1 r0 hI hr2 hcond hcond2 hD h1 tk1 o6 o5 o4 o3 o2 o1 e6 e5 e4 e3 e2 e1 X0 X' T' K' F' hC1 N' l0
  have e1 : o1.data = .cell none := e1
  have e2 : o2.data = .cell none := e2
  have e3 : o3.data = .cell none := e3
  have e4 : o4.data = .cell none := e4
  have e5 : o5.data = .cell none := e5
  have e6 : o6.data = .cell none := e6
  have hC1 : CodeHd _ 133 131 := hC1
  have hC2 : CodeHd _ 121 117 := codeHd
  have hlen : ns.length ≤ 63 := by omega
  clear codeHd X0 hcond hcond2 hr2 r0 w1 ra hL wc wa wb hl2 hr hLy hlay0 hs
  dsimp only
  dsimp only at F' N'
  generalize hgg : ghostOf s₁.heap [(133, 131), (121, 117)] = g at *
  generalize hLL : s₁.heap.objs.size = L at *
  revert F'
  suffices key : ∀ M : Str → Option Value, M "script" = some (.ref ls) → Fr g L h1 M → _ from key _ rfl
  intro M hM1 F1
  have F1 := fr_put F1 hM1
  have hscr : g.IsList ls ws.toArray := lifted
  suffices main : ∀ (Qp : Flow → Shared → Prop) (Ep : Value → Shared → Prop), (∀ h' tk' m', Fr g L h' m' → (∃ qs, h'.get? 117 = some (tabObj qs)) → (∃ qs, h'.get? 131 = some (tabObj qs)) → Qp (.ret (.bool true)) { s₁ with heap := h', toks := tk' }) → wpAny _ _ (execs _ _) Qp Ep _ by
    refine main _ _ ?_
    intro h' tk' m' FF hq1 hq2
    dsimp only
    refine ⟨?_, hq2, hq1, trivial⟩
    clear N' F1
    k_end; wrow_close
  intro Qp Ep hret
  clear lifted hgg hLL T0 TE TW BB VV XX G Y ho hcd hg hT8 hT9 hD
  obtain ⟨hp0, gn0, dw0, tk0, os0⟩ := s₁
  dsimp only at hret ⊢
  revert g L
  refine hold ?_
  intro g X' T' K' _ hC1 hC2 L _ _ _ _ _ _ l0 N' _ F1 hscr hret
  have l7 : 117 < L := l0.2
  have l13 : 131 < L := l0.1
  let c1 : Addr := L + 1
  let c2 : Addr := L + 1 + 1
  let c3 : Addr := L + 1 + 1 + 1
  let c4 : Addr := L + 1 + 1 + 1 + 1
  let c5 : Addr := L + 1 + 1 + 1 + 1 + 1
  let c6 : Addr := L + 1 + 1 + 1 + 1 + 1 + 1
  have N' : News g L h1 [(c6, o6), (c5, o5), (c4, o4), (c3, o3), (c2, o2), (c1, o1), (131, tabObj #[]), (117, tabObj #[])] := N'
  iterate 1 walk1
  k_fold
  iterate 1 walk1
  refine wpQ ?_
  intro Qh1_1 hQh1_1
  refine eval_list (by with_unfolding_all rfl) rfl (by decide) ?_
  iterate 7 walk1
  have hwl : ws.length ≤ 63 := by rw [hI.length]; exact hlen
  refine slice_takeG (k := 22) F1 N' hscr (by omega) rfl ?_
  intro D2 h2 F2 N2 l2
  refine src_list rfl F2 N2 (.inr ⟨_, List.mem_cons_self, rfl, _, rfl⟩) fun I St s₂ hs₂ X2 => ?_
  obtain ⟨h3, rfl⟩ := hs₂
  refine' after_list (X2 _ _) ?sz
    (fun i ys nw => nw = [(D2, lstO (ws.take 22) 0), (c6, o6), (c5, o5), (c4, o4), (c3, o3), (c2, o2), (c1, o1), (131, tabObj #[]), (117, tabObj #[])] ∧ ∃ dr, IntsAre ys dr ∧ dr.length ≤ i ∧ ∀ x ∈ dr, 0 ≤ x ∧ x < 1000000)
    ?hS (fun i m₂ => ∃ n t, m₂ "cell" = some (.int n t)) ?c1 rfl ?asg ⟨rfl, [], .nil, Nat.le_refl _, fun _ h => nomatch h⟩ ?_ ?_
  case sz => rw [sizeLine_eq, List.size_toArray, List.length_take]; omega
  case hS => intro i ys nw hJ; rw [hJ.1]; exact .inr ⟨_, List.mem_cons_self, rfl, _, rfl⟩
  case c1 => decide
  case asg =>
    refine asg_name ?_ ?_ ?_
    · rfl
    · rfl
    · intro i v m₂ hP hm
      have hP : (ws.take 22)[i]? = some v := by simpa using hP
      obtain ⟨n, t, rfl, _⟩ := (hI.take 22).at i v hP
      exact ⟨n, t, hm⟩
  · intro i5 C5 D5 oC5 m₅ ys5 nw own5 h5 tk5 E5 hi5 hB5 hJ5 hoC5 F5 N5 hown5 hoff5 hCw5 hDw5 hCD5
    refine wpAny_tests_nil ?_
    refine ite_yes rfl ?_
    refine wpQ ?_
    intro Q5 hQ5
    obtain ⟨n5, t5, hm5⟩ := hB5
    obtain ⟨hnw, dr, hys5, hd5, hb5⟩ := hJ5
    subst hnw
    revert N5
    generalize hled5 : own5 ++ [(D2, lstO (ws.take 22) 0), (c6, o6), (c5, o5), (c4, o4), (c3, o3), (c2, o2), (c1, o1), (131, tabObj #[]), (117, tabObj #[])] = led5
    revert led5
    refine hold ?_
    intro led5 hled5 N5
    k_steps
    refine hQ5 _ _ ?_
    refine cend_mk F5 N5 _ (fun p hp => hled5 ▸ hp) hoff5 ⟨rfl, dr ++ [_], ints_snoc hys5 _ _, by simp; omega, fun x hx => ?_⟩
    rcases List.mem_append.mp hx with hx | hx
    · exact hb5 x hx
    · rw [List.mem_singleton.mp hx]
      exact fmodb n5
  intro D3 h4 tk4 ys nw F4 N4 hoff4 hJr
  obtain ⟨hnw, dr, hys, hdl, hdb⟩ := hJr
  subst hnw
  have q1 : c1 ≠ D3 := hoff4 (c1, o1) (by simp)
  have hdl : dr.length ≤ 22 := Nat.le_trans hdl (by rw [List.size_toArray, List.length_take]; omega)
  have hled : OffA [117, 131, c1, c2, c3, c4, c5, c6] [(D3, LCg.lst ys), (D2, lstO (ws.take 22) 0)] := OffA.cons (OffA.cons .nil (offk0r (fun p hp => Nat.ne_of_lt (l2 p hp)))) (offk0r fun p hp => hoff4 p (List.mem_cons_of_mem _ hp))
  have N5 := perm_d1 N4
  refine hQh1_1 _ _ ?_
  clear hQh1_1 Qh1_1
  dsimp only
  refine storeX_C (c := c1) F4 N5 rfl (UpdF.head (ne_cons (cell_ne (L := L) (i := 2) (j := 1) (by decide)) (ne_cons (cell_ne (L := L) (i := 3) (j := 1) (by decide)) (ne_cons (cell_ne (L := L) (i := 4) (j := 1) (by decide)) (ne_cons (cell_ne (L := L) (i := 5) (j := 1) (by decide)) (ne_cons (cell_ne (L := L) (i := 6) (j := 1) (by decide)) (ne_cons (Nat.ne_of_lt (Nat.lt_of_lt_of_le l13 (Nat.le_add_right L 1))) (ne_cons (Nat.ne_of_lt (Nat.lt_of_lt_of_le l7 (Nat.le_add_right L 1))) (fun q hq => hled.at (List.mem_cons_of_mem _ (List.mem_cons_of_mem _ List.mem_cons_self)) q hq))))))))) e1 ?_ rfl rfl
  intro h6 o1' F6 N6 d1
  have mdr : ((D3, LCg.lst ys) : Addr × Obj) ∈ ([(D3, LCg.lst ys), (D2, lstO (ws.take 22) 0)] : List (Addr × Obj)) := List.mem_cons_self
  obtain ⟨led, m1, up, hled1, N7⟩ := move_led1 N6 hled (notin_cons (Nat.ne_of_gt (Nat.lt_of_lt_of_le l7 (Nat.le_add_right L 1))) (notin_cons (Nat.ne_of_gt (Nat.lt_of_lt_of_le l13 (Nat.le_add_right L 1))) (notin_cons (cell_ne (L := L) (i := 1) (j := 2) (by decide)) (notin_cons (cell_ne (L := L) (i := 1) (j := 3) (by decide)) (notin_cons (cell_ne (L := L) (i := 1) (j := 4) (by decide)) (notin_cons (cell_ne (L := L) (i := 1) (j := 5) (by decide)) (notin_cons (cell_ne (L := L) (i := 1) (j := 6) (by decide)) notin_nil)))))))
  have mdr := up _ mdr
  clear N6 N5 N4 F4 hoff4 q1 X2 F2 N2 hled up
  dsimp only
  iterate 1 walk1
  k_fold
  iterate 2 walk1
  (with_reducible refine' spliced_lits _ (([17, 30, 9, 4, 25, 13, 40, 6, 22, 35, 44] : List Int).map PyData.int) _ _ ?hl ?hg)
  case hl => exact rfl
  intro svs tkS hsv0
  have hsv := ints_of_data g hsv0
  clear hsv0
  (with_reducible refine' newList_K F6 N7 ?hl2 ?hg2)
  case hg2 => rw [hsv.length]; decide
  intro lsd hB FB NS2 lB
  iterate 1 walk1
  rename_i hS FS NS3
  dsimp only
  refine letF FS ?_
  clear FS
  intro mFS FS
  iterate 1 walk1
  k_fold
  obtain ⟨led2, msd, up, hled2, NS⟩ := push_led1 (x := (lsd, lstO svs 0)) NS3 hled1 (fun p hp => Nat.ne_of_lt (lB p hp))
  have m1 := up _ m1
  have mdr := up _ mdr
  clear hled1 up
  refine wpQ ?_
  intro Qh2_1 hQh2_1
  refine exec_list (by with_unfolding_all rfl) (by with_unfolding_all rfl) rfl (by decide) ?_
  iterate 6 walk1
  refine src_enum_list rfl FS NS (List.mem_cons_of_mem _ (List.mem_cons_of_mem _ (List.mem_cons_of_mem _ (List.mem_cons_of_mem _ (List.mem_cons_of_mem _ (List.mem_cons_of_mem _ (List.mem_cons_of_mem _ (msd)))))))) fun e it St s₂ hs₂ X4 => ?_
  obtain ⟨h8, rfl⟩ := hs₂
  refine' after_list_as rfl (X4 _ _ _) ?sz rfl rfl
    (fun i ys nw => nw = (c2, o2) :: (c3, o3) :: (c4, o4) :: (c5, o5) :: (c6, o6) :: (131, tabObj #[]) :: (117, tabObj #[]) :: led2 ∧ ∃ nums, IntsAre ys nums ∧ nums.length = i ∧ ∀ x ∈ nums, 0 ≤ x ∧ x < 30000000)
    ?hS (fun i m₂ => ∃ x t tx, m₂ "k" = some (.int (i : Int) t) ∧ m₂ "seed" = some (.int x tx) ∧ 0 ≤ x ∧ x ≤ 44) ?c1 rfl ?asg ⟨rfl, [], .nil, rfl, fun _ h => nomatch h⟩ ?_ ?_
  case sz => rw [sizeLine_eq, hsv.length]; decide
  case hS => intro i ys nw hJ; rw [hJ.1]; exact (List.mem_cons_of_mem _ (List.mem_cons_of_mem _ (List.mem_cons_of_mem _ (List.mem_cons_of_mem _ (List.mem_cons_of_mem _ (List.mem_cons_of_mem _ (List.mem_cons_of_mem _ (msd))))))))
  case c1 => decide
  case asg =>
    intro i v C m₁ s' Q' E' hP hn hQ
    obtain ⟨T9, t9, x9, rfl, hx9, hT9⟩ := hP
    obtain ⟨n9, tn9, rfl, hn9⟩ := hsv.at i x9 hx9
    refine kcp_assign rfl hT9 rfl rfl rfl hn fun h' tk hn' hk => ?_
    exact hQ h' tk _ ⟨n9, t9, tn9, rfl, rfl, seeds_bound hn9⟩ hn' hk
  · intro i5 C5 D5 oC5 m₅ ys5 nw own5 h9 tk9 E5 hi5 hB5 hJ5 hoC5 F5 N5 hown5 hoff5 hCw5 hDw5 hCD5
    refine wpAny_tests_nil ?_
    refine ite_yes rfl ?_
    refine wpQ ?_
    intro Q5 hQ5
    obtain ⟨x5, t5, tx5, hm5, hmx5, hx0, hx44⟩ := hB5
    obtain ⟨hnw, nums, hys5, hn5, hb5⟩ := hJ5
    subst hnw
    have sub5 : ∀ p ∈ led2, p ∈ own5 ++ (c2, o2) :: (c3, o3) :: (c4, o4) :: (c5, o5) :: (c6, o6) :: (131, tabObj #[]) :: (117, tabObj #[]) :: led2 := fun p hp => List.mem_append_right _ (List.mem_cons_of_mem _ (List.mem_cons_of_mem _ (List.mem_cons_of_mem _ (List.mem_cons_of_mem _ (List.mem_cons_of_mem _ (List.mem_cons_of_mem _ (List.mem_cons_of_mem _ (hp))))))))
    revert N5 sub5
    generalize hled5 : own5 ++ (c2, o2) :: (c3, o3) :: (c4, o4) :: (c5, o5) :: (c6, o6) :: (131, tabObj #[]) :: (117, tabObj #[]) :: led2 = led5
    revert led5
    refine hold ?_
    intro led5 hled5 N5 sub5
    have m15 := sub5 _ m1
    iterate 14 walk1
    refine' slice_step F5 N5 (List.mem_cons_of_mem _ (List.mem_cons_of_mem _ (sub5 _ mdr))) hys (by omega) (by decide) ?_ ?hs5 ?ht5
    case hs5 => with_unfolding_all rfl
    case ht5 => intro _; with_unfolding_all rfl
    intro D7 h11 zs7 hzs7 F7 N7b l7b
    iterate 1 walk1
    refine sumK rfl F7 N7b ⟨_, (N7b _ List.mem_cons_self).1, rfl, _, rfl⟩ hzs7 ?_
    intro h12 tk12 t12 F12 N12
    iterate 1 walk1
    have hsb := sum_bound (l := pickNums dr (some (i5 : Int)) none (some 11)) fun x hx => hdb x (pick_mem x hx)
    have hpl := length_pickNums_le hys (some (i5 : Int)) none (some 11)
    refine hQ5 _ _ ?_
    refine cend_mk F12 N12 _ (fun p hp => ?_) hoff5 ⟨rfl, nums ++ [_], ints_snoc hys5 _ _, by simp [hn5], fun x hx => ?_⟩
    · rw [hled5] at hp
      exact List.mem_cons_of_mem _ hp
    · rcases List.mem_append.mp hx with hx | hx
      · exact hb5 x hx
      · rw [List.mem_singleton.mp hx]
        omega
  intro D6 h10 tk10 ys6 nw F10 N10 hoff10 hJr
  obtain ⟨hnw, nums, hys6, hn6, hb6⟩ := hJr
  subst hnw
  obtain ⟨led3, mnl, up, hled3, N13⟩ := push_led1 (x := (D6, LCg.lst ys6)) N10 hled2 hoff10
  rw [hsv.length] at hn6
  have hn6 : nums.length = 11 := hn6
  clear N10 hled2 m1 mdr msd
  refine hQh2_1 _ _ ?_
  clear hQh2_1 Qh2_1
  dsimp only
  refine letF F10 ?_
  clear F10
  intro mF10 F10
  iterate 1 walk1
  k_fold
  iterate 7 walk1
  refine sumK rfl F10 N13 ⟨_, (N13 _ (List.mem_cons_of_mem _ (List.mem_cons_of_mem _ (List.mem_cons_of_mem _ (List.mem_cons_of_mem _ (List.mem_cons_of_mem _ (List.mem_cons_of_mem _ (List.mem_cons_of_mem _ (mnl))))))))).1, rfl, _, rfl⟩ hys6 ?_
  intro h14 tk14 t14 F14 N14
  refine storeX_C (c := c2) F14 N14 rfl (UpdF.head (ne_cons (cell_ne (L := L) (i := 3) (j := 2) (by decide)) (ne_cons (cell_ne (L := L) (i := 4) (j := 2) (by decide)) (ne_cons (cell_ne (L := L) (i := 5) (j := 2) (by decide)) (ne_cons (cell_ne (L := L) (i := 6) (j := 2) (by decide)) (ne_cons (Nat.ne_of_lt (Nat.lt_of_lt_of_le l13 (Nat.le_add_right L 2))) (ne_cons (Nat.ne_of_lt (Nat.lt_of_lt_of_le l7 (Nat.le_add_right L 2))) (fun q hq => hled3.at (List.mem_cons_of_mem _ (List.mem_cons_of_mem _ List.mem_cons_self)) q hq)))))))) e2 ?_ rfl rfl
  intro h15 o2' F15 N15 d2
  obtain ⟨led4, m2, up4, hled4, N16⟩ := move_led2 N15 hled3 (notin_cons (Nat.ne_of_gt (Nat.lt_of_lt_of_le l7 (Nat.le_add_right L 2))) (notin_cons (Nat.ne_of_gt (Nat.lt_of_lt_of_le l13 (Nat.le_add_right L 2))) (notin_cons (cell_ne (L := L) (i := 2) (j := 3) (by decide)) (notin_cons (cell_ne (L := L) (i := 2) (j := 4) (by decide)) (notin_cons (cell_ne (L := L) (i := 2) (j := 5) (by decide)) (notin_cons (cell_ne (L := L) (i := 2) (j := 6) (by decide)) notin_nil))))))
  have mnl := up4 _ mnl
  have htot : 0 ≤ nums.sum := sum_nonneg fun x hx => (hb6 x hx).1
  dsimp only
  iterate 1 walk1
  k_fold
  iterate 5 walk1
  obtain ⟨low, elow, hlow⟩ := fmod_nat (t := nums.sum) (k := 10) (by decide)
  have elow' : Int.fmod nums.sum 10 = (low : Int) := elow
  rw [elow']
  refine storeX_C (c := c3) F15 N16 rfl (UpdF.head (ne_cons (cell_ne (L := L) (i := 4) (j := 3) (by decide)) (ne_cons (cell_ne (L := L) (i := 5) (j := 3) (by decide)) (ne_cons (cell_ne (L := L) (i := 6) (j := 3) (by decide)) (ne_cons (Nat.ne_of_lt (Nat.lt_of_lt_of_le l13 (Nat.le_add_right L 3))) (ne_cons (Nat.ne_of_lt (Nat.lt_of_lt_of_le l7 (Nat.le_add_right L 3))) (fun q hq => hled4.at (List.mem_cons_of_mem _ (List.mem_cons_of_mem _ List.mem_cons_self)) q hq))))))) e3 ?_ rfl rfl
  intro h17 o3' F17 N17 d3
  obtain ⟨led5, m3, up5, hled5, N18⟩ := move_led3 N17 hled4 (notin_cons (Nat.ne_of_gt (Nat.lt_of_lt_of_le l7 (Nat.le_add_right L 3))) (notin_cons (Nat.ne_of_gt (Nat.lt_of_lt_of_le l13 (Nat.le_add_right L 3))) (notin_cons (cell_ne (L := L) (i := 3) (j := 4) (by decide)) (notin_cons (cell_ne (L := L) (i := 3) (j := 5) (by decide)) (notin_cons (cell_ne (L := L) (i := 3) (j := 6) (by decide)) notin_nil)))))
  have mnl := up5 _ mnl
  have m2 := up5 _ m2
  dsimp only
  iterate 1 walk1
  k_fold
  iterate 1 walk1
  refine wpQ ?_
  intro Qh3_1 hQh3_1
  refine eval_list (by with_unfolding_all rfl) rfl (by decide) ?_
  iterate 12 walk1
  obtain ⟨r3, er3, hr3⟩ := fmod_nat (t := nums.sum) (k := 3) (by decide)
  have er3' : Int.fmod nums.sum 3 = (r3 : Int) := er3
  rw [er3']
  iterate 1 walk1
  rename_i hA tkA tA uA vA hRA FA NA kA
  have cr3 : r3 = 0 ∨ r3 = 1 ∨ r3 = 2 := lt3 hr3
  refine src_range (n := 1 + r3) rfl FA NA hRA (by rcases cr3 with rfl | rfl | rfl <;> rfl) (by rcases cr3 with rfl | rfl | rfl <;> rfl) fun I St s₂ hs₂ X19 => ?_
  obtain ⟨h18, rfl⟩ := hs₂
  have klen := sizeLine_eq
  refine' after_list2 (X19 _ _) ?sz3
    (fun i ys nw => ∃ ex ks, nw = (c4, o4) :: (c5, o5) :: (c6, o6) :: (131, tabObj #[]) :: (117, tabObj #[]) :: ex ∧ (∀ p ∈ led5, p ∈ ex) ∧ OffA [117, 131, c4, c5, c6] ex ∧ Each (IsKey ex) ys ks ∧ okKeys ks ∧ ks.length = i)
    ?hS3 (fun i m₂ => ∃ t, m₂ "turn" = some (.int (i : Int) t)) ?c3 rfl ?asg3 ⟨led5, [], rfl, fun _ h => h, hled5, .nil, (fun _ h => nomatch h), rfl⟩ ?_ ?_
  case sz3 => rw [klen]; omega
  case hS3 => intro _ _ _ _; trivial
  case c3 => decide
  case asg3 =>
    refine asg_name ?_ ?_ ?_
    · rfl
    · rfl
    · intro i v m₂ hP hm
      obtain ⟨t, rfl⟩ := hP
      exact ⟨t, by rw [hm, Int.zero_add]⟩
  · intro i5 C5 D5 oC5 m₅ ys5 nw own5 h21 tk21 E5 hi5 hB5 hJ5 hoC5 F21 N21 hown5 hoff5 hCw5 hDw5 hCD5 hlt5
    refine wpAny_tests_nil ?_
    refine ite_yes rfl ?_
    refine wpQ ?_
    intro Q5 hQ5
    obtain ⟨t5, hm5⟩ := hB5
    obtain ⟨ex, ks, hnw, hsub, hoffe, hks5, hok5, hkl5⟩ := hJ5
    subst hnw
    have m25 : (c2, o2') ∈ own5 ++ (c4, o4) :: (c5, o5) :: (c6, o6) :: (131, tabObj #[]) :: (117, tabObj #[]) :: ex := List.mem_append_right _ (List.mem_cons_of_mem _ (List.mem_cons_of_mem _ (List.mem_cons_of_mem _ (List.mem_cons_of_mem _ (List.mem_cons_of_mem _ (hsub _ m2))))))
    revert N21 m25
    generalize hled5 : own5 ++ (c4, o4) :: (c5, o5) :: (c6, o6) :: (131, tabObj #[]) :: (117, tabObj #[]) :: ex = lex
    revert lex
    refine hold ?_
    intro lex hled5 N21 m25
    have i3 : i5 < 3 := by omega
    clear hi5
    iterate 26 walk1
    dsimp only
    iterate 2 walk1
    dsimp only
    iterate 6 walk1
    rename_i T5 h22 F22 N22 lT5
    have hTx : ∀ p ∈ (c4, o4) :: (c5, o5) :: (c6, o6) :: (131, tabObj #[]) :: (117, tabObj #[]) :: ex, p.1 ≠ T5 := fun p hp => Nat.ne_of_lt (allLt_mem lT5.2.2 p (hled5 ▸ List.mem_append_right _ hp))
    refine hQ5 _ _ ?_
    refine cend_mk F22 N22 _ (grow_sub3 hled5) (grow_off3 hoff5 ⟨fun hm => Nat.lt_irrefl _ (Nat.lt_trans (hlt5 _ hm) lT5.2.1), Nat.ne_of_gt lT5.1, Nat.ne_of_gt lT5.2.1⟩) ⟨_, ks ++ [(_, _)], rfl, fun p hp => List.mem_cons_of_mem _ (hsub p hp), hoffe.cons (offk3 hTx), each_snoc (hks5.mono fun v d h => h.mono fun p hp => List.mem_cons_of_mem _ hp) ⟨T5, _, _, _, rfl, List.mem_cons_self⟩, ?_, by simp [hkl5]⟩
    intro k hk
    rcases List.mem_append.mp hk with hk | hk
    · exact hok5 k hk
    · rw [List.mem_singleton.mp hk]
      exact key_ok _ _
  intro D8 h23 tk23 ys8 nw lD8 F23 N23 hoff8 hJr
  obtain ⟨ex, ks, hnw, hsub, hoffe, hks8, hok8, hkl8⟩ := hJr
  subst hnw
  obtain ⟨led6, mkl, up6, hled6, N24⟩ := push_led3 (x := (D8, LCg.lst ys8)) N23 hoffe hoff8
  have up56 : ∀ p ∈ led5, p ∈ led6 := fun p hp => up6 _ (hsub p hp)
  have mnl := up56 _ mnl
  have m2 := up56 _ m2
  have m3 := up56 _ m3
  have hks8 := hks8.mono fun v d h => h.mono up6
  refine hQh3_1 _ _ ?_
  clear hQh3_1 Qh3_1
  dsimp only
  refine storeX_C (c := c4) F23 N24 rfl (UpdF.head (ne_cons (cell_ne (L := L) (i := 5) (j := 4) (by decide)) (ne_cons (cell_ne (L := L) (i := 6) (j := 4) (by decide)) (ne_cons (Nat.ne_of_lt (Nat.lt_of_lt_of_le l13 (Nat.le_add_right L 4))) (ne_cons (Nat.ne_of_lt (Nat.lt_of_lt_of_le l7 (Nat.le_add_right L 4))) (fun q hq => hled6.at (List.mem_cons_of_mem _ (List.mem_cons_of_mem _ List.mem_cons_self)) q hq)))))) e4 ?_ rfl rfl
  intro h25 o4' F25 N25 d4
  obtain ⟨led7, m4, up7, hled7, N26⟩ := move_led4 N25 hled6 (notin_cons (Nat.ne_of_gt (Nat.lt_of_lt_of_le l7 (Nat.le_add_right L 4))) (notin_cons (Nat.ne_of_gt (Nat.lt_of_lt_of_le l13 (Nat.le_add_right L 4))) (notin_cons (cell_ne (L := L) (i := 4) (j := 5) (by decide)) (notin_cons (cell_ne (L := L) (i := 4) (j := 6) (by decide)) notin_nil))))
  have mnl := up7 _ mnl
  have m2 := up7 _ m2
  have m3 := up7 _ m3
  have hks8 := hks8.mono fun v d h => h.mono up7
  have mkl := up7 _ mkl
  dsimp only
  iterate 1 walk1
  k_fold
  iterate 20 walk1
  rename_i xj dj hB FB NB lB lB2 gB LB hB2 FGB BB XB TB hB3 FB3 NB3 kF kN Tc kX
  dsimp only at kF kN
  refine letF kF ?_
  clear kF
  intro mkF kF
  have ltd : ∀ p ∈ (c5, o5) :: (c6, o6) :: (131, tabObj #[]) :: (117, tabObj #[]) :: led7, p.1 < dj := lt_form4 lB
  obtain ⟨led8, mown, up8, hled8, N31⟩ := push_own4 (own := [_, _]) kN hled7 (OffA.cons (OffA.cons .nil (offk4 fun p hp => Nat.ne_of_lt (ltd p hp))) (offk4 fun p hp => Nat.ne_of_lt (Nat.lt_trans (ltd p hp) lB2)))
  have mj := mown _ List.mem_cons_self
  have mjd := mown _ (List.mem_cons_of_mem _ List.mem_cons_self)
  have mnl := up8 _ mnl
  have m3 := up8 _ m3
  have m4 := up8 _ m4
  have mkl := up8 _ mkl
  have hks8 := hks8.mono fun v d h => h.mono up8
  have hj : IsJudge led8 (.ref xj) ks := ⟨xj, dj, _, _, _, _, rfl, mj, mjd, D8, ys8, _, rfl, mkl, hks8⟩
  clear FB NB FGB BB XB TB FB3 NB3 kN
  (try dsimp only)
  refine wpQ ?_
  intro Qh4_1 hQh4_1
  refine eval_list (by with_unfolding_all rfl) rfl (by decide) ?_
  iterate 1 walk1
  refine src_list rfl kF N31 (.inr ⟨_, (List.mem_cons_of_mem _ (List.mem_cons_of_mem _ (List.mem_cons_of_mem _ (List.mem_cons_of_mem _ (mnl))))), rfl, _, rfl⟩) fun I St s₂ hs₂ X32 => ?_
  obtain ⟨h32, rfl⟩ := hs₂
  refine' after_list2 (X32 _ _) ?sz4
    (fun i ys nw => ∃ ex, nw = (c5, o5) :: (c6, o6) :: (131, tabObj #[]) :: (117, tabObj #[]) :: ex ∧ (∀ p ∈ led8, p ∈ ex) ∧ OffA [117, 131, c5, c6] ex ∧ Each (fun v r => IsRowX ex v r []) ys ((nums.take i).map rowD))
    ?hS4 (fun i m₂ => ∃ n t, nums[i]? = some n ∧ m₂ "number" = some (.int n t)) ?c4 rfl ?asg4 ⟨led8, rfl, fun _ h => h, hled8, .nil⟩ ?_ ?_
  case sz4 => rw [sizeLine_eq, List.size_toArray, hys6.length, hn6]; decide
  case hS4 => intro i ys nw hJ; obtain ⟨ex, e, hs, _⟩ := hJ; rw [e]; exact .inr ⟨_, (List.mem_cons_of_mem _ (List.mem_cons_of_mem _ (List.mem_cons_of_mem _ (List.mem_cons_of_mem _ (hs _ mnl))))), rfl, _, rfl⟩
  case c4 => decide
  case asg4 =>
    refine asg_name ?_ ?_ ?_
    · rfl
    · rfl
    · intro i v m₂ hP hm
      have hP : ys6[i]? = some v := by simpa using hP
      obtain ⟨n, t, rfl, hn⟩ := hys6.at i v hP
      exact ⟨n, t, hn, hm⟩
  · intro i5 C5 D5 oC5 m₅ ys5 nw own5 h33 tk33 E5 hi5 hB5 hJ5 hoC5 F33 N33 hown5 hoff5 hCw5 hDw5 hCD5 hlt5
    refine wpAny_tests_nil ?_
    refine ite_yes rfl ?_
    refine wpQ ?_
    intro Q5 hQ5
    obtain ⟨n5, t5, hn5, hm5⟩ := hB5
    obtain ⟨ex, hnw, hsub, hoffe, hys5⟩ := hJ5
    subst hnw
    revert N33
    generalize hled5 : own5 ++ (c5, o5) :: (c6, o6) :: (131, tabObj #[]) :: (117, tabObj #[]) :: ex = lex
    revert lex
    refine hold ?_
    intro lex hled5 N33
    iterate 8 walk1
    have hn0 := (hb6 n5 (List.mem_of_getElem? hn5)).1
    refine' row_k (n := n5) ?kB4 ?kF4 ?kX4 N33 ?kT4 ?kk4 ?kd4 ?ku4 hn0 ?_
    case kB4 => k_asm
    case kF4 => k_asm
    case kX4 => k_asm
    case kT4 => k_asm
    case kk4 => exact rfl
    case kd4 => first | ktr_room | decide
    case ku4 => first | ktr_units | decide
    intro T5 oT5 h34 tk34 lT5 hT5 F34 N34
    have hTx : ∀ p ∈ (c5, o5) :: (c6, o6) :: (131, tabObj #[]) :: (117, tabObj #[]) :: ex, p.1 ≠ T5 := fun p hp => Nat.ne_of_lt (lT5 p (List.mem_cons_of_mem _ (List.mem_cons_of_mem _ (hled5 ▸ List.mem_append_right _ hp))))
    have lT5D := lT5 (D5, LCg.lst ys5) (List.mem_cons_of_mem _ List.mem_cons_self)
    refine hQ5 _ _ ?_
    refine cend_mk F34 N34 _ (grow_sub4 hled5) (grow_off4 hoff5 ⟨fun hm => Nat.lt_irrefl _ (Nat.lt_trans (hlt5 _ hm) lT5D), Nat.ne_of_gt (lT5 (C5, oC5) List.mem_cons_self), Nat.ne_of_gt lT5D⟩) ⟨_, rfl, fun p hp => List.mem_cons_of_mem _ (hsub p hp), hoffe.cons (offk4 hTx), ?_⟩
    rw [List.take_add_one, hn5, List.map_append]
    exact each_snoc (hys5.mono fun v d h => h.mono fun p hp => List.mem_cons_of_mem _ hp) (hT5.mono fun p hp => by rw [List.mem_singleton.mp hp]; exact List.mem_cons_self)
  intro D9 h35 tk35 ys9 nw lD9 F35 N35 hoff9 hJr
  obtain ⟨ex, hnw, hsub, hoffe, hys9⟩ := hJr
  subst hnw
  rw [List.size_toArray, hys6.length, List.take_length] at hys9
  obtain ⟨led9, mrl, up9, hled9, N36⟩ := push_led4 (x := (D9, LCg.lst ys9)) N35 hoffe hoff9
  have up89 : ∀ p ∈ led8, p ∈ led9 := fun p hp => up9 _ (hsub p hp)
  have m3 := up89 _ m3
  have m4 := up89 _ m4
  have mkl := up89 _ mkl
  have hks8 := hks8.mono fun v d h => h.mono up89
  have hj := hj.mono up89
  have hys9 := hys9.mono fun v d h => h.mono up9
  refine hQh4_1 _ _ ?_
  clear hQh4_1 Qh4_1
  dsimp only
  iterate 2 walk1
  rename_i T9 h37 F37 N37 lT9
  have hAll5 : ∀ q ∈ (c6, o6) :: (131, tabObj #[]) :: (117, tabObj #[]) :: led9, q.1 ≠ c5 := (ne_cons (cell_ne (L := L) (i := 6) (j := 5) (by decide)) (ne_cons (Nat.ne_of_lt (Nat.lt_of_lt_of_le l13 (Nat.le_add_right L 5))) (ne_cons (Nat.ne_of_lt (Nat.lt_of_lt_of_le l7 (Nat.le_add_right L 5))) (fun q hq => hled9.at (by simp) q hq))))
  dsimp only
  iterate 6 walk1
  rename_i h38 F38 N38
  have ltT : ∀ p ∈ (c5, o5) :: (c6, o6) :: (131, tabObj #[]) :: (117, tabObj #[]) :: led9, p.1 < T9 := lt_form4 lT9
  obtain ⟨led10, _, up10, hled10, N39⟩ := push_led4 (x := (T9, _)) N38 hled9 (fun p hp => Nat.ne_of_lt (ltT p hp))
  refine storeX_C (c := c5) F38 N39 rfl (UpdF.head (ne_cons (cell_ne (L := L) (i := 6) (j := 5) (by decide)) (ne_cons (Nat.ne_of_lt (Nat.lt_of_lt_of_le l13 (Nat.le_add_right L 5))) (ne_cons (Nat.ne_of_lt (Nat.lt_of_lt_of_le l7 (Nat.le_add_right L 5))) (fun q hq => hled10.at (List.mem_cons_of_mem _ (List.mem_cons_of_mem _ List.mem_cons_self)) q hq))))) e5 ?_ rfl rfl
  intro h40 o5' F40 N40 d5
  obtain ⟨led11, m5, up11, hled11, N41⟩ := move_led5 N40 hled10 (notin_cons (Nat.ne_of_gt (Nat.lt_of_lt_of_le l7 (Nat.le_add_right L 5))) (notin_cons (Nat.ne_of_gt (Nat.lt_of_lt_of_le l13 (Nat.le_add_right L 5))) (notin_cons (cell_ne (L := L) (i := 5) (j := 6) (by decide)) notin_nil)))
  have up911 : ∀ p ∈ led9, p ∈ led11 := fun p hp => up11 _ (up10 _ hp)
  have m3 := up911 _ m3
  have m4 := up911 _ m4
  have mkl := up911 _ mkl
  have hks8 := hks8.mono fun v d h => h.mono up911
  have hj := hj.mono up911
  have hys9 := hys9.mono fun v d h => h.mono up911
  have mrl := up911 _ mrl
  iterate 1 walk1
  dsimp only
  iterate 1 walk1
  k_fold
  refine wpQ ?_
  intro Qh5_1 hQh5_1
  refine exec_dict (by with_unfolding_all rfl) (by with_unfolding_all rfl) rfl (by decide) ?_
  iterate 11 walk1
  refine' names_k (low := (low : Int)) ?kB5 ?kF5 ?kX5 N41 ?kT5 ?kk5 ?kd5 ?ku5 (by omega) (by omega) ?_
  case kB5 => k_asm
  case kF5 => k_asm
  case kX5 => k_asm
  case kT5 => k_asm
  case kk5 => exact rfl
  case kd5 => ktr_room
  case ku5 => ktr_units
  intro Dn vsn tn0 tn1 tn2 h42 tk42 lDn evn F42 N42
  subst evn
  rw [Int.toNat_natCast] at N42
  have hnmv : StrsAre [Value.str (nmAt low) tn0, .str (nmAt (low + 1)) tn1, .str (nmAt (low + 2)) tn2] (nms low) := .cons _ _ (.cons _ _ (.cons _ _ .nil))
  revert N42 hnmv
  generalize [Value.str (nmAt low) tn0, .str (nmAt (low + 1)) tn1, .str (nmAt (low + 2)) tn2] = nvs
  revert nvs
  refine hold ?_
  intro nvs N42 hnmv
  have N42 : News g L h42 ((Dn, lstO nvs 0) :: (c6, o6) :: (131, tabObj #[]) :: (117, tabObj #[]) :: led11) := N42
  dsimp only
  iterate 3 walk1
  refine src_zip_lists rfl F42 N42 List.mem_cons_self (List.mem_cons_of_mem _ (List.mem_cons_of_mem _ (List.mem_cons_of_mem _ (List.mem_cons_of_mem _ (mrl))))) fun z wr St s₂ hs₂ X43 => ?_
  obtain ⟨h43, rfl⟩ := hs₂
  have hnvl : nvs.length = 3 := hnmv.length
  have hrvl : ys9.length = 11 := by rw [hys9.1, List.length_map, hn6]
  have hmin : min nvs.length ys9.length = 3 := by rw [hnvl, hrvl]; rfl
  refine' after_dict_as2 (knd := PySem.strKind PySem.Challenge.rw_wf0029_01.row.prog w) rfl (X43 _ _ _) ?sz5 rfl rfl
    (fun i kvs nw => nw = (Dn, lstO nvs 0) :: (c6, o6) :: (131, tabObj #[]) :: (117, tabObj #[]) :: led11 ∧ Pairs2 (fun v t => IsRowX led11 v (hrD low nums t) []) kvs ((nms low).take i))
    ?hS5 (fun i m₂ => ∃ t tk v, (nms low)[i]? = some t ∧ m₂ "name" = some (.str t tk) ∧ m₂ "row" = some v ∧ ys9[i]? = some v) ?c5 rfl ?asg5 ⟨rfl, .nil⟩ ?_ ?_
  case sz5 => rw [hmin, sizeLine_eq]; decide
  case hS5 => intro i ys nw hJ; rw [hJ.1]; exact ⟨List.mem_cons_self, List.mem_cons_of_mem _ (List.mem_cons_of_mem _ (List.mem_cons_of_mem _ (List.mem_cons_of_mem _ (mrl))))⟩
  case c5 => decide
  case asg5 =>
    intro i v C m₁ s' Q' E' hP hn hQ
    obtain ⟨T9, x9, y9, rfl, hx9, hy9, hT9⟩ := hP
    obtain ⟨t9, tn9, rfl, ht9⟩ := hnmv.item i x9 hx9
    refine kcp_assign rfl hT9 rfl rfl rfl hn fun h' tk hn' hk => ?_
    exact hQ h' tk _ ⟨t9, tn9, y9, ht9, rfl, rfl, hy9⟩ hn' hk
  · intro i5 C5 D5 oC5 oD5 m₅ ys5 nw own5 h44 tk44 E5 hi5 hB5 hJ5 hoC5 hoD5 F44 N44 hown5 hoff5 hCw5 hDw5 hCD5 hlt5
    refine wpAny_tests_nil ?_
    refine ite_yes rfl ?_
    obtain ⟨t5, tt5, v5, ht5, hm5, hmr5, hv5⟩ := hB5
    obtain ⟨hnw, hp5⟩ := hJ5
    subst hnw
    revert N44
    generalize hled5 : own5 ++ (Dn, lstO nvs 0) :: (c6, o6) :: (131, tabObj #[]) :: (117, tabObj #[]) :: led11 = lex
    revert lex
    refine hold ?_
    intro lex hled5 N44
    iterate 2 walk1
    have hrw : (nums.map rowD)[i5]? = some (rowD (nums.getD i5 0)) := by
      rw [hmin] at hi5
      rw [List.getElem?_map, List.getD_eq_getElem?_getD, List.getElem?_eq_getElem (by omega)]
      rfl
    have hrow := hys9.2 i5 v5 _ hv5 hrw
    rw [← hrD_at hlow ht5] at hrow
    refine ⟨t5, PySem.strKind_is _ _ _ _, ?_⟩
    refine cend_mk F44 N44 _ (fun p hp => hled5 ▸ hp) hoff5 ⟨rfl, ?_⟩
    have hnd := nms_nodup hlow
    rw [List.take_add_one, ht5]
    refine hp5.put ?_ hrow
    exact nodup_take hnd ht5
  intro D10 h45 tk45 kvs10 nw oD10 lD10 F45 N45 hoD10 hoff10 hJr
  obtain ⟨hnw, hp10⟩ := hJr
  subst hnw
  rw [hmin, List.take_of_length_le (by simp [nms])] at hp10
  obtain ⟨led12, mown12, up12, hled12, N46⟩ := push_own5 (own := [(D10, oD10), (Dn, lstO nvs 0)]) N45 hled11 (OffA.cons (OffA.cons .nil (offk5 fun p hp => Nat.ne_of_lt (lDn p hp))) (offk5 fun p hp => hoff10 p (List.mem_cons_of_mem _ hp)))
  have hH : IsDct PySem.Challenge.rw_wf0029_01.row.prog w led12 D10 (nms low) (fun v t => IsRowX led12 v (hrD low nums t) []) :=
    ⟨oD10, kvs10, mown12 _ List.mem_cons_self, hoD10, lo_new F45 T'.nolimit lD10, nms_nodup hlow, hp10.mono fun v t h => h.mono up12⟩
  have m3 := up12 _ m3
  have m4 := up12 _ m4
  have m5 := up12 _ m5
  have mkl := up12 _ mkl
  have mrl := up12 _ mrl
  have hks8 := hks8.mono fun v d h => h.mono up12
  have hj := hj.mono up12
  have hys9 := hys9.mono fun v d h => h.mono up12
  refine hQh5_1 _ _ ?_
  clear hQh5_1 Qh5_1
  dsimp only
  refine letF F45 ?_
  clear F45
  intro mF45 F45
  iterate 1 walk1
  k_fold
  refine wpQ ?_
  intro Qh6_1 hQh6_1
  refine exec_dict (by with_unfolding_all rfl) (by with_unfolding_all rfl) rfl (by decide) ?_
  iterate 7 walk1
  rename_i h47 tk47 t47 u47 v47 hR47 F47 N47 k47
  refine src_range (n := 8) rfl F47 N47 hR47 rfl rfl fun I St s₂ hs₂ X47 => ?_
  obtain ⟨h48, rfl⟩ := hs₂
  have hts8 : (tsD low).length = 8 := by simp [tsD]
  have hrvl : ys9.length = 11 := by rw [hys9.1, List.length_map, hn6]
  refine' after_dict_as2 (knd := PySem.strKind PySem.Challenge.rw_wf0029_01.row.prog w) rfl (X47 _ _) ?sz6 rfl rfl
    (fun i kvs nw => nw = (c6, o6) :: (131, tabObj #[]) :: (117, tabObj #[]) :: led12 ∧ Pairs2 (fun v t => IsRowX led12 v (rdD low nums t) []) kvs ((tsD low).take i))
    ?hS6 (fun i m₂ => ∃ t, m₂ "mask" = some (.int (i : Int) t)) ?c6 rfl ?asg6 ⟨rfl, .nil⟩ ?_ ?_
  case sz6 => rw [sizeLine_eq]; decide
  case hS6 => intro _ _ _ _; trivial
  case c6 => decide
  case asg6 =>
    refine asg_name ?_ ?_ ?_
    · rfl
    · rfl
    · intro i v m₂ hP hm
      obtain ⟨t, rfl⟩ := hP
      exact ⟨t, by rw [hm, Int.zero_add]⟩
  · intro i5 C5 D5 oC5 oD5 m₅ ys5 nw own5 h49 tk49 E5 hi5 hB5 hJ5 hoC5 hoD5 F49 N49 hown5 hoff5 hCw5 hDw5 hCD5 hlt5
    refine wpAny_tests_nil ?_
    refine ite_yes rfl ?_
    obtain ⟨t5, hm5⟩ := hB5
    obtain ⟨hnw, hp5⟩ := hJ5
    subst hnw
    have m35 : (c3, o3') ∈ own5 ++ (c6, o6) :: (131, tabObj #[]) :: (117, tabObj #[]) :: led12 := List.mem_append_right _ (List.mem_cons_of_mem _ (List.mem_cons_of_mem _ (List.mem_cons_of_mem _ (m3))))
    have m55 : (c5, o5') ∈ own5 ++ (c6, o6) :: (131, tabObj #[]) :: (117, tabObj #[]) :: led12 := List.mem_append_right _ (List.mem_cons_of_mem _ (List.mem_cons_of_mem _ (List.mem_cons_of_mem _ (m5))))
    have mr5 : (D9, LCg.lst ys9) ∈ own5 ++ (c6, o6) :: (131, tabObj #[]) :: (117, tabObj #[]) :: led12 := List.mem_append_right _ (List.mem_cons_of_mem _ (List.mem_cons_of_mem _ (List.mem_cons_of_mem _ (mrl))))
    revert N49 m35 m55 mr5
    generalize hled5 : own5 ++ (c6, o6) :: (131, tabObj #[]) :: (117, tabObj #[]) :: led12 = lex
    revert lex
    refine hold ?_
    intro lex hled5 N49 m35 m55 mr5
    iterate 9 walk1
    have hsh : ((i5 : Int) * 2 ^ ((low : Int)).toNat) = ((i5 * 2 ^ low : Nat) : Int) := by
      rw [Int.toNat_natCast, Int.natCast_mul, Int.natCast_pow]; rfl
    rw [hsh]
    iterate 2 walk1
    refine' flags_k (f := i5 * 2 ^ low) ?kB6 ?kF6 ?kX6 N49 ?kT6 ?kk6 ?kd6 ?ku6 (mask_lt hi5 hlow) ?_
    case kB6 => k_asm
    case kF6 => k_asm
    case kX6 => k_asm
    case kT6 => k_asm
    case kk6 => exact rfl
    case kd6 => ktr_room
    case ku6 => ktr_units
    intro t50 h50 tk50 F50 N50
    dsimp only
    iterate 6 walk1
    have hr5 : ys9[3 + i5]? = some ys9[3 + i5] := List.getElem?_eq_getElem (by omega)
    refine sub_lst N50 (List.mem_cons_of_mem _ (List.mem_cons_of_mem _ mr5)) (k := 3 + i5) (by omega) (by omega) hr5 ?_
    have ht5 : (tsD low)[i5]? = some (flagT (i5 * 2 ^ low)) := by
      unfold tsD
      rw [List.getElem?_map, List.getElem?_range hi5]
      rfl
    have hrow := hys9.2 (3 + i5) _ (rowD (nums.getD (3 + i5) 0)) hr5 (by
      rw [List.getElem?_map, List.getD_eq_getElem?_getD, List.getElem?_eq_getElem (by omega)]
      rfl)
    have hrd : rdD low nums (flagT (i5 * 2 ^ low)) = rowD (nums.getD (3 + i5) 0) := by rw [rdD, findIx_at (tsD_nodup hlow) ht5]
    rw [← hrd] at hrow
    refine ⟨flagT (i5 * 2 ^ low), PySem.strKind_is _ _ _ _, ?_⟩
    refine cend_mk F50 N50 _ (fun p hp => hled5 ▸ hp) hoff5 ⟨rfl, ?_⟩
    rw [List.take_add_one, ht5]
    exact hp5.put (nodup_take (tsD_nodup hlow) ht5) hrow
  intro D11 h51 tk51 kvs11 nw oD11 lD11 F51 N51 hoD11 hoff11 hJr
  obtain ⟨hnw, hp11⟩ := hJr
  subst hnw
  rw [List.take_of_length_le (by rw [hts8]; decide)] at hp11
  obtain ⟨led13, msd, up13, hled13, N52⟩ := push_led5 (x := (D11, oD11)) N51 hled12 hoff11
  have hS : IsDct PySem.Challenge.rw_wf0029_01.row.prog w led13 D11 (tsD low) (fun v t => IsRowX led13 v (rdD low nums t) []) :=
    ⟨oD11, kvs11, msd, hoD11, lo_new F51 T'.nolimit lD11, tsD_nodup hlow, hp11.mono fun v t h => h.mono up13⟩
  have m3 := up13 _ m3
  have m4 := up13 _ m4
  have m5 := up13 _ m5
  have mkl := up13 _ mkl
  have mrl := up13 _ mrl
  have hks8 := hks8.mono fun v d h => h.mono up13
  have hj := hj.mono up13
  have hys9 := hys9.mono fun v d h => h.mono up13
  have hH := hH.mono up13 fun v t h => h.mono up13
  refine hQh6_1 _ _ ?_
  clear hQh6_1 Qh6_1
  dsimp only
  refine letF F51 ?_
  clear F51
  intro mF51 F51
  iterate 1 walk1
  k_fold
  refine wpQ ?_
  intro Qh7_1 hQh7_1
  refine exec_dict (by with_unfolding_all rfl) (by with_unfolding_all rfl) rfl (by decide) ?_
  iterate 1 walk1
  refine src_dct rfl F51 N52 hS (fun p hp => (List.mem_cons_of_mem _ (List.mem_cons_of_mem _ (List.mem_cons_of_mem _ (hp))))) fun so I St s₂ hso hs₂ X53 => ?_
  obtain ⟨h53, rfl⟩ := hs₂
  have hts8 : (tsD low).length = 8 := by simp [tsD]
  refine' after_dict_as2 (knd := PySem.strKind PySem.Challenge.rw_wf0029_01.row.prog w) rfl (X53 _ _) ?sz7 rfl rfl
    (fun i kvs nw => ∃ ex, nw = (c6, o6) :: (131, tabObj #[]) :: (117, tabObj #[]) :: ex ∧ (∀ p ∈ led13, p ∈ ex) ∧ OffA [117, 131, c6] ex ∧ Pairs2 (fun v t => IsStrs ex v (wdsD low t)) kvs ((tsD low).take i))
    ?hS7 (fun i m₂ => ∃ t tk, (tsD low)[i]? = some t ∧ m₂ "text" = some (.str t tk)) ?c7 rfl ?asg7 ⟨led13, rfl, fun _ h => h, hled13, .nil⟩ ?_ ?_
  case sz7 => rw [sizeLine_eq, hts8]; decide
  case hS7 => intro i kvs nw hJ; obtain ⟨ex, e, hs, _⟩ := hJ; rw [e]; exact (List.mem_cons_of_mem _ (List.mem_cons_of_mem _ (List.mem_cons_of_mem _ (hs _ hso))))
  case c7 => decide
  case asg7 =>
    refine asg_name ?_ ?_ ?_
    · rfl
    · rfl
    · intro i v m₂ hP hm
      obtain ⟨t, tk, h1, rfl⟩ := hP
      exact ⟨t, tk, h1, hm⟩
  · intro i5 C5 D5 oC5 oD5 m₅ ys5 nw own5 h54 tk54 E5 hi5 hB5 hJ5 hoC5 hoD5 F54 N54 hown5 hoff5 hCw5 hDw5 hCD5 hlt5
    refine wpAny_tests_nil ?_
    refine ite_yes rfl ?_
    obtain ⟨t5, tt5, ht5, hm5⟩ := hB5
    obtain ⟨ex, hnw, hsub, hoffe, hp5⟩ := hJ5
    subst hnw
    revert N54
    generalize hled5 : own5 ++ (c6, o6) :: (131, tabObj #[]) :: (117, tabObj #[]) :: ex = lex
    revert lex
    refine hold ?_
    intro lex hled5 N54
    rw [hts8] at hi5
    have ht5' : t5 = flagT (i5 * 2 ^ low) := by
      unfold tsD at ht5
      rw [List.getElem?_map, List.getElem?_range hi5] at ht5
      exact (Option.some.inj ht5).symm
    have hwd : wdsD low t5 = mname low i5 := by rw [wdsD, findIx_at (tsD_nodup hlow) ht5]
    obtain ⟨hw1, hw2, hw3⟩ := words_all low hlow i5 hi5
    rw [← ht5'] at hw1 hw2 hw3
    iterate 1 walk1
    refine eval_list (by with_unfolding_all rfl) rfl (by decide) ?_
    iterate 8 walk1
    refine KSpl.split1 F54 N54 (by decide +kernel) ?_ (by rw [sizeLine_eq]; omega)
    intro Dsp spl h55 tk55 hspl hspv F55 N55 l55
    rw [hspl] at hspv
    revert N55 hspv
    generalize strValues spl = spv
    revert spv
    refine hold ?_
    intro spv hspv N55
    refine src_list rfl F55 N55 (.inr ⟨_, List.mem_cons_self, rfl, _, rfl⟩) fun I6 St6 s₂ hs₂ X56 => ?_
    obtain ⟨h56, rfl⟩ := hs₂
    refine' after_list2 (X56 _ _) ?sz8
      (fun i ys nw => nw = (Dsp, lstO spv 0) :: (C5, oC5) :: (D5, oD5) :: lex ∧ StrsAre ys (((Txt.split t5 (Str.ofString ", ")).take i).filter fun x => decide (x ≠ Str.ofString "0x0")))
      ?hS8 (fun i m₂ => ∃ x tk, (Txt.split t5 (Str.ofString ", "))[i]? = some x ∧ m₂ "word" = some (.str x tk)) ?c8 rfl ?asg8 ⟨rfl, .nil⟩ ?_ ?_
    case sz8 => rw [sizeLine_eq, List.size_toArray, hspv.length]; omega
    case hS8 => intro i ys nw hJ; rw [hJ.1]; exact .inr ⟨_, List.mem_cons_self, rfl, _, rfl⟩
    case c8 => decide
    case asg8 =>
      refine asg_name ?_ ?_ ?_
      · rfl
      · rfl
      · intro i v m₂ hP hm
        obtain ⟨x, tk, rfl, h1⟩ := hspv.item i v (by simpa using hP)
        exact ⟨x, tk, h1, hm⟩
    · intro i7 C7 D7 oC7 m₇ ys7 nw own7 h57 tk57 E7 hi7 ⟨x7, tx7, hx7, hm7⟩ ⟨hnw, hys7⟩ hoC7 F57 N57 hown7 hoff7 hCw7 hDw7 hCD7 hlt7
      subst hnw
      revert N57
      generalize hled7 : own7 ++ (Dsp, lstO spv 0) :: (C5, oC5) :: (D5, oD5) :: lex = lex7
      revert lex7
      refine hold ?_
      intro lex7 hled7 N57
      refine wpAny_tests_one ?_
      iterate 3 walk1
      dsimp only
      iterate 2 walk1
      have hf := take_filter (fun x => decide (x ≠ Str.ofString "0x0")) hx7
      cases hb : (x7 != Str.ofString "0x0") with
      | false =>
        refine ite_no (by first | rfl | (rw [hb]; rfl)) ?_
        refine cend_mk F57 N57 _ (fun p hp => hled7 ▸ hp) hoff7 ⟨rfl, ?_⟩
        rw [hf, if_neg (by simpa using hb), List.append_nil]
        exact hys7
      | true =>
        refine ite_yes (by first | rfl | (rw [hb]; rfl)) ?_
        iterate 1 walk1
        refine cend_mk F57 N57 _ (fun p hp => hled7 ▸ hp) hoff7 ⟨rfl, ?_⟩
        rw [hf, if_pos (by simpa using hb)]
        exact strs_snoc2 hys7 _ _
    intro Dw h58 tk58 ysw nw lDw F58 N58 hoffw ⟨hnw, hysw⟩
    subst hnw
    rw [List.size_toArray, hspv.length, List.take_length, hw1, ← hwd] at hysw
    have hTx : ∀ p ∈ (c6, o6) :: (131, tabObj #[]) :: (117, tabObj #[]) :: ex, p.1 ≠ Dw := fun p hp => hoffw p (List.mem_cons_of_mem _ (List.mem_cons_of_mem _ (List.mem_cons_of_mem _ (hled5 ▸ List.mem_append_right _ hp))))
    have lDwC := lDw (C5, oC5) (List.mem_cons_of_mem _ List.mem_cons_self)
    have lDwD := lDw (D5, oD5) (List.mem_cons_of_mem _ (List.mem_cons_of_mem _ List.mem_cons_self))
    refine ⟨t5, PySem.strKind_is _ _ _ _, ?_⟩
    refine cend_mk F58 N58 _ (fun p hp => mem_skip (grow_sub5 (x := (Dw, LCg.lst ysw)) hled5 p hp)) (grow_off5 hoff5 ⟨fun hm => Nat.lt_irrefl _ (Nat.lt_trans (hlt5 _ hm) lDwD), Nat.ne_of_gt lDwC, Nat.ne_of_gt lDwD⟩) ⟨_, rfl, fun p hp => List.mem_cons_of_mem _ (hsub p hp), hoffe.cons (offk5 hTx), ?_⟩
    rw [List.take_add_one, ht5]
    exact (hp5.mono fun v t h => h.mono fun p hp => List.mem_cons_of_mem _ hp).put (nodup_take (tsD_nodup hlow) ht5) ⟨Dw, ysw, _, rfl, List.mem_cons_self, hysw⟩
  intro D12 h59 tk59 kvs12 nw oD12 lD12 F59 N59 hoD12 hoff12 hJr
  obtain ⟨ex, hnw, hsub, hoffe, hp12⟩ := hJr
  subst hnw
  rw [List.take_of_length_le (Nat.le_refl _)] at hp12
  obtain ⟨led14, mwd, up14, hled14, N60⟩ := push_led5 (x := (D12, oD12)) N59 hoffe hoff12
  have up1314 : ∀ p ∈ led13, p ∈ led14 := fun p hp => up14 _ (hsub p hp)
  have hW : IsDct PySem.Challenge.rw_wf0029_01.row.prog w led14 D12 (tsD low) (fun v t => IsStrs led14 v (wdsD low t)) :=
    ⟨oD12, kvs12, mwd, hoD12, lo_new F59 T'.nolimit lD12, tsD_nodup hlow, hp12.mono fun v t h => h.mono up14⟩
  have m3 := up1314 _ m3
  have m4 := up1314 _ m4
  have m5 := up1314 _ m5
  have mkl := up1314 _ mkl
  have mrl := up1314 _ mrl
  have hks8 := hks8.mono fun v d h => h.mono up1314
  have hj := hj.mono up1314
  have hys9 := hys9.mono fun v d h => h.mono up1314
  have hH := hH.mono up1314 fun v t h => h.mono up1314
  have hS := hS.mono up1314 fun v t h => h.mono up1314
  refine hQh7_1 _ _ ?_
  clear hQh7_1 Qh7_1
  dsimp only
  refine letF F59 ?_
  clear F59
  intro mF59 F59
  iterate 1 walk1
  k_fold
  iterate 12 walk1
  have sub5 : ∀ p ∈ led14, p ∈ (c6, o6) :: (131, tabObj #[]) :: (117, tabObj #[]) :: led14 := fun p hp => (List.mem_cons_of_mem _ (List.mem_cons_of_mem _ (List.mem_cons_of_mem _ (hp))))
  have hts8 : (tsD low).length = 8 := by simp [tsD]
  refine' weights_k (news := (c6, o6) :: (131, tabObj #[]) :: (117, tabObj #[]) :: led14) (ks := ks) (ts := tsD low) (rd := rdD low nums) (wds := wdsD low) ?kB8 ?kF8 ?kX8 N60 ?kT8 ?kk8 ?kd8 ?ku8 (hj.mono sub5) hok8 (hS.mono sub5 fun v t h => ⟨[], h.mono sub5⟩) (hW.mono sub5 fun v t h => h.mono sub5) (by omega) wdsD_len ?_
  case kB8 => k_asm
  case kF8 => k_asm
  case kX8 => k_asm
  case kT8 => k_asm
  case kk8 => exact rfl
  case kd8 => ktr_room
  case ku8 => ktr_units
  intro Dw ow h61 tk61 lDw hwt0 F61 N61
  have hcells : ∀ p ∈ ([(c6, o6), (131, tabObj #[]), (117, tabObj #[])] : List (Addr × Obj)), ∀ xs n, p.2.data ≠ .seq xs n := by
    intro p hp xs n
    simp only [List.mem_cons, List.not_mem_nil, or_false] at hp
    rcases hp with rfl | rfl | rfl
    · show o6.data ≠ _
      rw [show o6.data = .cell none from e6]
      intro e; cases e
    · intro e; cases e
    · intro e; cases e
  obtain ⟨led15, mwt, up15, hled15, N62⟩ := push_led5 (x := (Dw, ow)) N61 hled14 (fun p hp => Nat.ne_of_lt (lDw p hp))
  have hWt : IsDct PySem.Challenge.rw_wf0029_01.row.prog w led15 Dw (tsD low) (fun v t => IsRow led15 v (wt1 ks (tsD low) (rdD low nums) (wdsD low) t)) :=
    hwt0.mono (fun p hp => by rw [List.mem_singleton.mp hp]; exact mwt) fun v t h => (row_down (cells := [(c6, o6), (131, tabObj #[]), (117, tabObj #[])]) (led := led14) hcells h).mono up15
  have m3 := up15 _ m3
  have m4 := up15 _ m4
  have m5 := up15 _ m5
  have mkl := up15 _ mkl
  have mrl := up15 _ mrl
  have hks8 := hks8.mono fun v d h => h.mono up15
  have hj := hj.mono up15
  have hys9 := hys9.mono fun v d h => h.mono up15
  have hH := hH.mono up15 fun v t h => h.mono up15
  have hW := hW.mono up15 fun v t h => h.mono up15
  dsimp only
  iterate 1 walk1
  rename_i h63 F63 N63
  dsimp only
  refine letF F63 ?_
  clear F63
  intro mF63 F63
  iterate 1 walk1
  k_fold
  iterate 12 walk1
  have up2 : ∀ p ∈ led15, p ∈ (c6, o6) :: (131, tabObj #[]) :: led15 := fun p hp => List.mem_cons_of_mem _ (List.mem_cons_of_mem _ hp)
  have hne6 : ∀ q ∈ (c6, o6) :: (131, tabObj #[]) :: led15, q.1 ≠ 117 :=
    ne_cons (Nat.ne_of_gt (Nat.lt_of_lt_of_le l7 (Nat.le_add_right L 6))) (ne_cons (show (131 : Nat) ≠ 117 by decide) (hled15.at (by simp)))
  refine' inorder_k (ps := #[]) (news := (c6, o6) :: (131, tabObj #[]) :: led15) (ks := ks) (ns := nms low) (hr := hrD low nums) (low := low) ?kB9 F63 ?kX9 (permA N63) hC2 ?kT9 ?kk9 ?kd9 ?ku9 hne6 (.inl rfl) hlow (hj.mono up2) hok8 (hH.mono up2 fun v t h => h.mono up2) (by simp [nms]) ?_
  case kB9 => k_asm
  case kX9 => k_asm
  case kT9 => k_asm
  case kk9 => exact rfl
  case kd9 => ktr_room
  case ku9 => ktr_units
  intro lr vsr nr psr exr h64 tk64 lR subR offR hpsR hrisR F64 N64
  dsimp only
  iterate 1 walk1
  rename_i h65 F65 N65
  refine letF F65 ?_
  clear F65
  intro mF65 F65
  have Nex : News g L h65 exr := fun p hp => N65 p (List.mem_cons_of_mem _ (List.mem_cons_of_mem _ hp))
  have hc6 : (c6, o6) ∈ exr := subR _ List.mem_cons_self
  have ht2 : ((131 : Addr), tabObj #[]) ∈ exr := subR _ (List.mem_cons_of_mem _ List.mem_cons_self)
  have e6' : o6.data = .cell none := e6
  have has : ∀ a ∈ [117, 131, c6], ∀ o, (a, o) ∈ exr → ∀ xs n, o.data ≠ .seq xs n := by
    intro a ha o ho xs n e
    simp only [List.mem_cons, List.not_mem_nil, or_false] at ha
    rcases ha with rfl | rfl | rfl
    · exact (offR _ ho).2 rfl
    · rw [news_one Nex ho ht2] at e; cases e
    · rw [news_one Nex ho hc6, e6'] at e; cases e
  have up16 : ∀ p ∈ led15, p ∈ filt [117, 131, c6] exr := fun p hp => filt_in (subR _ (up2 _ hp)) (hled15 p hp)
  have hris : Each (IsRowM (filt [117, 131, c6] exr)) vsr (inoAt ks (hrD low nums) low (nms low) 3) := hrisR.mono fun v d h => let ⟨t, h⟩ := h; ⟨t, filt_row has h⟩
  have htab : TabSt psr (filt [117, 131, c6] exr) := tab_down hpsR fun q hq ⟨vs, t, h1, h2⟩ => filt_in hq fun hm => by
    simp only [List.mem_cons, List.not_mem_nil, or_false] at hm
    obtain ⟨qa, qo⟩ := q
    rcases hm with hm | hm | hm
    · exact (offR _ hq).2 hm
    · dsimp only at hm; subst hm; rw [news_one Nex hq ht2] at h1; cases h1; cases h2
    · dsimp only at hm; subst hm; dsimp only at h1; rw [news_one Nex hq hc6, e6'] at h1; cases h1
  have hlr : lr ∉ [117, 131, c6] := notin_cons (Nat.ne_of_gt lR.1) (notin_cons (Nat.ne_of_gt lR.2.2.1) (notin_cons (Nat.ne_of_gt lR.2.1) notin_nil))
  have N66 : News g L h65 ((lr, lstO vsr nr) :: (c6, o6) :: (131, tabObj #[]) :: (117, tabObj psr) :: filt [117, 131, c6] exr) := fun p hp => by
    simp only [List.mem_cons] at hp
    rcases hp with rfl | rfl | rfl | rfl | hp
    · exact N65 _ List.mem_cons_self
    · exact Nex _ hc6
    · exact Nex _ ht2
    · exact N65 _ (List.mem_cons_of_mem _ List.mem_cons_self)
    · exact Nex _ (filt_sub _ hp)
  have hled16 : OffA [117, 131, c6] (filt [117, 131, c6] exr) := filt_off
  revert up16 hris htab N66 hled16
  generalize filt [117, 131, c6] exr = led16
  revert led16
  refine hold ?_
  intro led16 up16 hris htab N66 hled16
  have N67 : News g L h65 ((c6, o6) :: (131, tabObj #[]) :: (117, tabObj psr) :: ((lr, lstO vsr nr) :: led16)) := permB N66
  have mlr : (lr, lstO vsr nr) ∈ (lr, lstO vsr nr) :: led16 := List.mem_cons_self
  have hled17 : OffA [117, 131, c6] ((lr, lstO vsr nr) :: led16) := hled16.cons hlr
  have up17 : ∀ p ∈ led15, p ∈ (lr, lstO vsr nr) :: led16 := fun p hp => List.mem_cons_of_mem _ (up16 p hp)
  have hris := hris.mono fun v d h => h.mono fun p hp => List.mem_cons_of_mem (lr, lstO vsr nr) hp
  have htab := htab.mono fun p hp => List.mem_cons_of_mem (lr, lstO vsr nr) hp
  revert N67 mlr hled17 up17 hris htab
  generalize (lr, lstO vsr nr) :: led16 = led17
  revert led17
  refine hold ?_
  intro led17 N67 mlr hled17 up17 hris htab
  have m3 := up17 _ m3
  have m4 := up17 _ m4
  have m5 := up17 _ m5
  have mkl := up17 _ mkl
  have mrl := up17 _ mrl
  have hks8 := hks8.mono fun v d h => h.mono up17
  have hj := hj.mono up17
  have hys9 := hys9.mono fun v d h => h.mono up17
  have hH := hH.mono up17 fun v t h => h.mono up17
  have hW := hW.mono up17 fun v t h => h.mono up17
  have hWt := hWt.mono up17 fun v t h => h.mono up17
  dsimp only
  iterate 1 walk1
  k_fold
  iterate 1 walk1
  refine wpQ ?_
  intro Qh9_1 hQh9_1
  refine eval_list (by with_unfolding_all rfl) rfl (by decide) ?_
  iterate 1 walk1
  refine src_list rfl F65 N67 (.inr ⟨_, (List.mem_cons_of_mem _ (List.mem_cons_of_mem _ (List.mem_cons_of_mem _ (mrl)))), rfl, _, rfl⟩) fun I St s₂ hs₂ X68 => ?_
  obtain ⟨h68, rfl⟩ := hs₂
  have hrvl : ys9.length = 11 := by rw [hys9.1, List.length_map, hn6]
  refine' after_list (X68 _ _) ?sz9
    (fun i ys nw => nw = (c6, o6) :: (131, tabObj #[]) :: (117, tabObj psr) :: led17 ∧ IntsAre ys (((nums.map rowD).take i).map (rankD ks)))
    ?hS9 (fun i m₂ => ∃ v, ys9[i]? = some v ∧ m₂ "row" = some v) ?c9 rfl ?asg9 ⟨rfl, .nil⟩ ?_ ?_
  case sz9 => rw [sizeLine_eq, List.size_toArray, hrvl]; decide
  case hS9 => intro i ys nw hJ; rw [hJ.1]; exact .inr ⟨_, (List.mem_cons_of_mem _ (List.mem_cons_of_mem _ (List.mem_cons_of_mem _ (mrl)))), rfl, _, rfl⟩
  case c9 => decide
  case asg9 =>
    refine asg_name ?_ ?_ ?_
    · rfl
    · rfl
    · intro i v m₂ hP hm
      exact ⟨v, by simpa using hP, hm⟩
  · intro i5 C5 D5 oC5 m₅ ys5 nw own5 h69 tk69 E5 hi5 hB5 hJ5 hoC5 F69 N69 hown5 hoff5 hCw5 hDw5 hCD5
    refine wpAny_tests_nil ?_
    refine ite_yes rfl ?_
    refine wpQ ?_
    intro Q5 hQ5
    obtain ⟨v5, hv5, hm5⟩ := hB5
    obtain ⟨hnw, hys5⟩ := hJ5
    subst hnw
    have sub5 : ∀ p ∈ led17, p ∈ own5 ++ (c6, o6) :: (131, tabObj #[]) :: (117, tabObj psr) :: led17 := fun p hp => List.mem_append_right _ (List.mem_cons_of_mem _ (List.mem_cons_of_mem _ (List.mem_cons_of_mem _ (hp))))
    revert N69 sub5
    generalize hled5 : own5 ++ (c6, o6) :: (131, tabObj #[]) :: (117, tabObj psr) :: led17 = lex
    revert lex
    refine hold ?_
    intro lex hled5 N69 sub5
    have m45 := sub5 _ m4
    iterate 10 walk1
    have hlt11 : i5 < nums.length := by rw [hn6, ← hrvl]; exact (List.getElem?_eq_some_iff.mp hv5).1
    have hrw : (nums.map rowD)[i5]? = some (rowD nums[i5]) := by rw [List.getElem?_map, List.getElem?_eq_getElem hlt11]; rfl
    have hrow := hys9.2 i5 v5 _ hv5 hrw
    have sub6 : ∀ p ∈ led17, p ∈ (C5, oC5) :: (D5, LCg.lst ys5) :: lex := fun p hp => List.mem_cons_of_mem _ (List.mem_cons_of_mem _ (sub5 p hp))
    have hKs : IsKeys led17 (.ref D8) ks := ⟨D8, ys8, _, rfl, mkl, hks8⟩
    refine' rank_k (ks := ks) ?kB9 F69 ?kX9 N69 ?kT9 ?kk9 ?kd9 ?ku9 (hKs.mono sub6) (⟨[], hrow.mono sub6⟩) hok8 ?_
    case kB9 => k_asm
    case kX9 => k_asm
    case kT9 => k_asm
    case kk9 => exact rfl
    case kd9 => ktr_room
    case ku9 => ktr_units
    intro t70 h70 tk70 F70 N70
    refine hQ5 _ _ ?_
    refine cend_mk F70 N70 _ (fun p hp => hled5 ▸ hp) hoff5 ⟨rfl, ?_⟩
    rw [List.take_add_one, hrw, List.map_append]
    exact ints_snoc hys5 _ _
  intro D13 h71 tk71 ysk nw F71 N71 hoff13 hJr
  obtain ⟨hnw, hysk⟩ := hJr
  subst hnw
  rw [List.take_of_length_le (by rw [List.length_map, hn6, List.size_toArray, hrvl]; decide)] at hysk
  obtain ⟨led18, mrk, up18, hled18, N72⟩ := push_led5 (x := (D13, LCg.lst ysk)) N71 hled17 hoff13
  refine hQh9_1 _ _ ?_
  clear hQh9_1 Qh9_1
  dsimp only
  refine storeX_C (c := c6) F71 N72 rfl (UpdF.head (ne_cons (Nat.ne_of_lt (Nat.lt_of_lt_of_le l13 (Nat.le_add_right L 6))) (ne_cons (Nat.ne_of_lt (Nat.lt_of_lt_of_le l7 (Nat.le_add_right L 6))) (fun q hq => hled18.at (List.mem_cons_of_mem _ (List.mem_cons_of_mem _ List.mem_cons_self)) q hq)))) e6 ?_ rfl rfl
  intro h73 o6' F73 N73 d6
  obtain ⟨led19, m6, up19, hled19, N74⟩ := move_led6 N73 hled18 (notin_cons (Nat.ne_of_gt (Nat.lt_of_lt_of_le l7 (Nat.le_add_right L 6))) (notin_cons (Nat.ne_of_gt (Nat.lt_of_lt_of_le l13 (Nat.le_add_right L 6))) notin_nil))
  have up1719 : ∀ p ∈ led17, p ∈ led19 := fun p hp => up19 _ (up18 _ hp)
  have mrk := up19 _ mrk
  have m3 := up1719 _ m3
  have m4 := up1719 _ m4
  have mkl := up1719 _ mkl
  have hks8 := hks8.mono fun v d h => h.mono up1719
  have hj := hj.mono up1719
  have hH := hH.mono up1719 fun v t h => h.mono up1719
  have hW := hW.mono up1719 fun v t h => h.mono up1719
  have hWt := hWt.mono up1719 fun v t h => h.mono up1719
  have mlr := up1719 _ mlr
  have hris := hris.mono fun v d h => h.mono up1719
  have htab := htab.mono up1719
  dsimp only
  iterate 1 walk1
  k_fold
  iterate 2 walk1
  refine wpQ ?_
  intro Qh10_1 hQh10_1
  refine eval_list (by with_unfolding_all rfl) rfl (by decide) ?_
  iterate 1 walk1
  have hrisl : vsr.length = 3 := by rw [hris.1, inoAt_len]; simp [nms]
  refine src_list rfl F73 N74 (.inr ⟨_, (List.mem_cons_of_mem _ (List.mem_cons_of_mem _ (mlr))), rfl, _, rfl⟩) fun I St s₂ hs₂ X75 => ?_
  obtain ⟨h75, rfl⟩ := hs₂
  refine' after_list (X75 _ _) ?sz10
    (fun i ys nw => nw = (131, tabObj #[]) :: (117, tabObj psr) :: led19 ∧ IntsAre ys (((inoAt ks (hrD low nums) low (nms low) 3).take i).map (·.2)))
    ?hS10 (fun i m₂ => ∃ v, vsr[i]? = some v ∧ m₂ "row" = some v) ?c10 rfl ?asg10 ⟨rfl, .nil⟩ ?_ ?_
  case sz10 => rw [sizeLine_eq, List.size_toArray, hrisl]; decide
  case hS10 => intro i ys nw hJ; rw [hJ.1]; exact .inr ⟨_, (List.mem_cons_of_mem _ (List.mem_cons_of_mem _ (mlr))), rfl, _, rfl⟩
  case c10 => decide
  case asg10 =>
    refine asg_name ?_ ?_ ?_
    · rfl
    · rfl
    · intro i v m₂ hP hm
      exact ⟨v, by simpa using hP, hm⟩
  · intro i5 C5 D5 oC5 m₅ ys5 nw own5 h76 tk76 E5 hi5 hB5 hJ5 hoC5 F76 N76 hown5 hoff5 hCw5 hDw5 hCD5
    refine wpAny_tests_nil ?_
    refine ite_yes rfl ?_
    refine wpQ ?_
    intro Q5 hQ5
    obtain ⟨v5, hv5, hm5⟩ := hB5
    obtain ⟨hnw, hys5⟩ := hJ5
    subst hnw
    have sub5 : ∀ p ∈ led19, p ∈ own5 ++ (131, tabObj #[]) :: (117, tabObj psr) :: led19 := fun p hp => List.mem_append_right _ (List.mem_cons_of_mem _ (List.mem_cons_of_mem _ (hp)))
    revert N76 sub5
    generalize hled5 : own5 ++ (131, tabObj #[]) :: (117, tabObj psr) :: led19 = lex
    revert lex
    refine hold ?_
    intro lex hled5 N76 sub5
    iterate 3 walk1
    have h5P : i5 < (inoAt ks (hrD low nums) low (nms low) 3).length := by rw [← hris.1]; exact (List.getElem?_eq_some_iff.mp hv5).1
    obtain ⟨t5, hr5⟩ := hris.2 i5 v5 _ hv5 (List.getElem?_eq_getElem h5P)
    obtain ⟨hb5, a5, u50, u51, u52, n5, rfl, hm5'⟩ := hr5
    refine sub_tup N76 (List.mem_cons_of_mem _ (List.mem_cons_of_mem _ (sub5 _ hm5'))) (k := 3) rfl (by decide) rfl ?_
    refine hQ5 _ _ ?_
    refine cend_mk F76 N76 _ (fun p hp => hled5 ▸ hp) hoff5 ⟨rfl, ?_⟩
    rw [List.take_add_one, List.getElem?_eq_getElem h5P, List.map_append]
    exact ints_snoc hys5 _ _
  intro D20 h77 tk77 ysm nw F77 N77 hoff20 hJr
  obtain ⟨hnw, hysm⟩ := hJr
  subst hnw
  rw [List.size_toArray, hrisl, List.take_of_length_le (by rw [← hris.1, hrisl]; decide)] at hysm
  obtain ⟨led20, mmk, up20, hled20, N78⟩ := push_led6 (x := (D20, LCg.lst ysm)) N77 hled19 hoff20
  have m6 := up20 _ m6
  have mrk := up20 _ mrk
  have m3 := up20 _ m3
  refine hQh10_1 _ _ ?_
  clear hQh10_1 Qh10_1
  (try dsimp only)
  refine wpQ ?_
  intro Qh10_2 hQh10_2
  refine eval_list (by with_unfolding_all rfl) rfl (by decide) ?_
  iterate 4 walk1
  refine wpQ ?_
  intro Qh10_3 hQh10_3
  refine eval_list (by with_unfolding_all rfl) rfl (by decide) ?_
  iterate 7 walk1
  rename_i h79 tk79 t79 u79 v79 hR79 F79 N79 k79
  refine src_range (n := 3) rfl F79 N79 hR79 rfl rfl fun I St s₂ hs₂ X79 => ?_
  obtain ⟨h80, rfl⟩ := hs₂
  have hkl : ysk.length = 11 := by rw [hysk.length, List.length_map, List.length_map, hn6]
  refine' after_list2 (X79 _ _) ?sz11
    (fun i ys nw => ∃ ex, nw = (131, tabObj #[]) :: (117, tabObj psr) :: ex ∧ (∀ p ∈ led20, p ∈ ex) ∧ OffA [117, 131] ex ∧ Each (fun v k => IsPr ex v (((nums.map rowD).map (rankD ks)).getD k 0) k) ys (List.range i))
    ?hS11 (fun i m₂ => ∃ t, m₂ "k" = some (.int (i : Int) t)) ?c11 rfl ?asg11 ⟨led20, rfl, fun _ h => h, hled20, .nil⟩ ?_ ?_
  case sz11 => rw [sizeLine_eq]; decide
  case hS11 => intro _ _ _ _; trivial
  case c11 => decide
  case asg11 =>
    refine asg_name ?_ ?_ ?_
    · rfl
    · rfl
    · intro i v m₂ hP hm
      obtain ⟨t, rfl⟩ := hP
      exact ⟨t, by rw [hm, Int.zero_add]⟩
  · intro i5 C5 D5 oC5 m₅ ys5 nw own5 h81 tk81 E5 hi5 hB5 hJ5 hoC5 F81 N81 hown5 hoff5 hCw5 hDw5 hCD5 hlt5
    refine wpAny_tests_nil ?_
    refine ite_yes rfl ?_
    refine wpQ ?_
    intro Q5 hQ5
    obtain ⟨t5, hm5⟩ := hB5
    obtain ⟨ex, hnw, hsub, hoffe, hys5⟩ := hJ5
    subst hnw
    have m65 : (c6, o6') ∈ own5 ++ (131, tabObj #[]) :: (117, tabObj psr) :: ex := List.mem_append_right _ (List.mem_cons_of_mem _ (List.mem_cons_of_mem _ (hsub _ m6)))
    have mk5 : (D13, LCg.lst ysk) ∈ own5 ++ (131, tabObj #[]) :: (117, tabObj psr) :: ex := List.mem_append_right _ (List.mem_cons_of_mem _ (List.mem_cons_of_mem _ (hsub _ mrk)))
    revert N81 m65 mk5
    generalize hled5 : own5 ++ (131, tabObj #[]) :: (117, tabObj psr) :: ex = lex
    revert lex
    refine hold ?_
    intro lex hled5 N81 m65 mk5
    iterate 5 walk1
    obtain ⟨tq, hq⟩ := ints_get hysk (i := i5) (by rw [List.length_map, List.length_map, hn6]; omega)
    refine sub_lst N81 (List.mem_cons_of_mem _ (List.mem_cons_of_mem _ mk5)) (k := i5) rfl (by omega) hq ?_
    iterate 4 walk1
    rename_i T5 h82 F82 N82 lT5
    have hTx : ∀ p ∈ (131, tabObj #[]) :: (117, tabObj psr) :: ex, p.1 ≠ T5 := fun p hp => Nat.ne_of_lt (allLt_mem lT5.2.2 p (hled5 ▸ List.mem_append_right _ hp))
    refine hQ5 _ _ ?_
    refine cend_mk F82 N82 _ (grow_sub6 hled5) (grow_off6 hoff5 ⟨fun hm => Nat.lt_irrefl _ (Nat.lt_trans (hlt5 _ hm) lT5.2.1), Nat.ne_of_gt lT5.1, Nat.ne_of_gt lT5.2.1⟩) ⟨_, rfl, fun p hp => List.mem_cons_of_mem _ (hsub p hp), hoffe.cons (offk6 hTx), ?_⟩
    rw [List.range_succ]
    exact each_snoc (hys5.mono fun v d h => h.mono fun p hp => List.mem_cons_of_mem _ hp) ⟨T5, _, _, _, rfl, List.mem_cons_self⟩
  intro D21 h83 tk83 ysp nw lD21 F83 N83 hoff21 hJr
  obtain ⟨ex, hnw, hsub, hoffe, hysp⟩ := hJr
  subst hnw
  obtain ⟨led21, mpr, up21, hled21, N84⟩ := push_led6 (x := (D21, LCg.lst ysp)) N83 hoffe hoff21
  have up2021 : ∀ p ∈ led20, p ∈ led21 := fun p hp => up21 _ (hsub p hp)
  have m3 := up2021 _ m3
  have mmk := up2021 _ mmk
  have hysp := hysp.mono fun v d h => h.mono up21
  refine hQh10_3 _ _ ?_
  clear hQh10_3 Qh10_3
  (try dsimp only)
  iterate 1 walk1
  have hysp0 := hysp
  obtain ⟨a0, a1, a2, t0, u0, n0, t1, u1, n1, t2, u2, n2, eysp, ma0, ma1, ma2⟩ := three_pr hysp
  have N85 : News g L h83 ((D21, PySem.W.listOf #[.ref a0, .ref a1, .ref a2] _) :: (a0, _) :: (a1, _) :: (a2, _) :: (131, tabObj #[]) :: (117, tabObj psr) :: led21) :=
    perm_cell (own := [(D21, _), (a0, _), (a1, _), (a2, _)]) N84 (by
      intro p hp
      simp only [List.mem_cons, List.not_mem_nil, or_false] at hp
      rcases hp with rfl | rfl | rfl | rfl
      · subst eysp; exact (List.mem_cons_of_mem _ (List.mem_cons_of_mem _ (mpr)))
      · exact (List.mem_cons_of_mem _ (List.mem_cons_of_mem _ (ma0)))
      · exact (List.mem_cons_of_mem _ (List.mem_cons_of_mem _ (ma1)))
      · exact (List.mem_cons_of_mem _ (List.mem_cons_of_mem _ (ma2))))
  refine' sort_k ?kB12 F83 ?kX12 N85 ?kT12 ?kk12 ?_
  case kB12 => k_asm
  case kX12 => k_asm
  case kT12 => k_asm
  case kk12 => exact rfl
  intro Ds cs h86 tk86 lDs F86 N86
  rw [← eysp] at N86
  refine src_list rfl F86 N86 (.inr ⟨_, List.mem_cons_self, rfl, _, rfl⟩) fun I St s₂ hs₂ X87 => ?_
  obtain ⟨h87, rfl⟩ := hs₂
  generalize hsrt : srt3 (((nums.map rowD).map (rankD ks)).getD 0 0) (((nums.map rowD).map (rankD ks)).getD 1 0) (((nums.map rowD).map (rankD ks)).getD 2 0) = srt at *
  have hsl : srt.length = 3 := hsrt ▸ srt3_lt.2
  refine' after_list (X87 _ _) ?sz13
    (fun i ys nw => nw = (Ds, lstO (srt.map fun i => ysp.getD i .none) cs) :: (131, tabObj #[]) :: (117, tabObj psr) :: led21 ∧ IntsAre ys ((srt.take i).map fun k => 1 * 2 ^ (low + k)))
    ?hS13 (fun i m₂ => ∃ v k, srt[i]? = some k ∧ k < 3 ∧ IsPr led21 v (((nums.map rowD).map (rankD ks)).getD k 0) k ∧ m₂ "pair" = some v) ?c13 rfl ?asg13 ⟨rfl, .nil⟩ ?_ ?_
  case sz13 => rw [sizeLine_eq, List.size_toArray, List.length_map, hsl]; decide
  case hS13 => intro i ys nw hJ; rw [hJ.1]; exact .inr ⟨_, List.mem_cons_self, rfl, _, rfl⟩
  case c13 => decide
  case asg13 =>
    refine asg_name ?_ ?_ ?_
    · rfl
    · rfl
    · intro i v m₂ hP hm
      subst hsrt
      obtain ⟨k, h1, h2, h3⟩ := srt3_item hysp0 (v := v) (by rw [List.getElem?_toArray] at hP; exact hP)
      exact ⟨v, k, h1, h2, h3, hm⟩
  · intro i5 C5 D5 oC5 m₅ ys5 nw own5 h88 tk88 E5 hi5 hB5 hJ5 hoC5 F88 N88 hown5 hoff5 hCw5 hDw5 hCD5
    refine wpAny_tests_nil ?_
    refine ite_yes rfl ?_
    refine wpQ ?_
    intro Q5 hQ5
    obtain ⟨v5, k5, hk5, hk3, hpr5, hm5⟩ := hB5
    obtain ⟨hnw, hys5⟩ := hJ5
    subst hnw
    have sub5 : ∀ p ∈ led21, p ∈ own5 ++ (Ds, lstO (srt.map fun i => ysp.getD i .none) cs) :: (131, tabObj #[]) :: (117, tabObj psr) :: led21 := fun p hp => List.mem_append_right _ (List.mem_cons_of_mem _ (List.mem_cons_of_mem _ (List.mem_cons_of_mem _ (hp))))
    revert N88 sub5
    generalize hled5 : own5 ++ (Ds, lstO (srt.map fun i => ysp.getD i .none) cs) :: (131, tabObj #[]) :: (117, tabObj psr) :: led21 = lex
    revert lex
    refine hold ?_
    intro lex hled5 N88 sub5
    have m35 := sub5 _ m3
    obtain ⟨a5, t5, u5, n5, rfl, hm5'⟩ := hpr5
    iterate 7 walk1
    refine sub_tup N88 (List.mem_cons_of_mem _ (List.mem_cons_of_mem _ (sub5 _ hm5'))) (k := 1) rfl (by decide) rfl ?_
    dsimp only
    iterate 2 walk1
    have esh : (1 * 2 ^ ((low : Int) + (k5 : Int)).toNat : Int) = 1 * 2 ^ (low + k5) := by
      have e : ((low : Int) + (k5 : Int)).toNat = low + k5 := rfl
      rw [e]
    rw [esh]
    refine hQ5 _ _ ?_
    refine cend_mk F88 N88 _ (fun p hp => hled5 ▸ hp) hoff5 ⟨rfl, ?_⟩
    rw [List.take_add_one, hk5, List.map_append]
    exact ints_snoc hys5 _ _
  intro D22 h89 tk89 ysq nw F89 N89 hoff22 hJr
  obtain ⟨hnw, hysq⟩ := hJr
  subst hnw
  rw [List.size_toArray, List.length_map, List.take_of_length_le (Nat.le_refl _)] at hysq
  refine hQh10_2 _ _ ?_
  clear hQh10_2 Qh10_2
  (try dsimp only)
  have N91 : News g L h89 ((131, tabObj #[]) :: (117, tabObj psr) :: led21) := fun p hp => N89 p (List.mem_cons_of_mem _ (List.mem_cons_of_mem _ hp))
  have mmk9 : (D20, LCg.lst ysm) ∈ (D22, LCg.lst ysq) :: (Ds, lstO (srt.map fun i => ysp.getD i .none) cs) :: (131, tabObj #[]) :: (117, tabObj psr) :: led21 := List.mem_cons_of_mem _ (List.mem_cons_of_mem _ (List.mem_cons_of_mem _ (List.mem_cons_of_mem _ (mmk))))
  rw [marks_eq hok8 hlow hn6 hb6 hsrt] at hysm
  refine PySem.W.ke_ne_ints (isList_of N89 mmk9) (isList_of N89 List.mem_cons_self) hysm hysq (by ktr_units) ?_
  rw [decide_eq_true rfl]
  iterate 1 walk1
  refine ite_no rfl ?_
  iterate 1 walk1
  have upA : ∀ p ∈ led19, p ∈ led21 := fun p hp => up2021 _ (up20 _ hp)
  have m6 := up2021 _ m6
  have mrk := up2021 _ mrk
  have m4 := upA _ m4
  have mkl := upA _ mkl
  have hks8 := hks8.mono fun v d h => h.mono upA
  have hj := hj.mono upA
  have hH := hH.mono upA fun v t h => h.mono upA
  have hW := hW.mono upA fun v t h => h.mono upA
  have hWt := hWt.mono upA fun v t h => h.mono upA
  have mlr := upA _ mlr
  have hris := hris.mono fun v d h => h.mono upA
  have htab := htab.mono upA
  clear N89 F83 N83 N84 N85 N86 F86 X87
  (try dsimp only)
  iterate 1 walk1
  k_fold
  iterate 15 walk1
  have sub5 : ∀ p ∈ led21, p ∈ (131, tabObj #[]) :: (117, tabObj psr) :: led21 := fun p hp => (List.mem_cons_of_mem _ (List.mem_cons_of_mem _ (hp)))
  refine' bysets_k (news := (131, tabObj #[]) :: (117, tabObj psr) :: led21) (ks := ks) (ns := nms low) (ts := tsD low) (hr := hrD low nums) (wt := wt1 ks (tsD low) (rdD low nums) (wdsD low)) (wds := wdsD low) ?kB13 ?kF13 ?kX13 ?kN13 ?kT13 ?kk13 ?kd13 ?ku13 (hj.mono sub5) hok8 (hH.mono sub5 fun v t h => ⟨[], h.mono sub5⟩) (hWt.mono sub5 fun v t h => h.mono sub5) (hW.mono sub5 fun v t h => h.mono sub5) (by simp [tsD]) wdsD_len (by simp [nms]) wdsD_mem (by simp [tsD]) ?_
  case kB13 => k_asm
  case kF13 => exact F89
  case kX13 => k_asm
  case kN13 => exact N91
  case kT13 => k_asm
  case kk13 => exact rfl
  case kd13 => ktr_room
  case ku13 => ktr_units
  intro D30 v1 v2 n30 h90 tk90 lD30 hv1 hv2 F90 N90
  have hcx : ∀ p ∈ ([(131, tabObj #[]), (117, tabObj psr)] : List (Addr × Obj)), ∀ xs n, p.2.data ≠ .seq xs n := by
    intro p hp xs n
    simp only [List.mem_cons, List.not_mem_nil, or_false] at hp
    rcases hp with rfl | rfl <;> (intro e; cases e)
  obtain ⟨led22, mt1, up22, hled22, N92⟩ := push_led6 (x := (D30, lstO [v1, v2] n30)) N90 hled21 (fun p hp => Nat.ne_of_lt (allLt_mem lD30 p hp))
  have hv1 : IsRow led22 v1 (bestL ks 1 ((tsD low).map (innT ks (hrD low nums) (wt1 ks (tsD low) (rdD low nums) (wdsD low)) (wdsD low)))) := (row_down (cells := [(131, tabObj #[]), (117, tabObj psr)]) (led := led21) hcx hv1).mono up22
  have hv2 : IsRow led22 v2 (bestL ks (-1) ((tsD low).map (outT ks (nms low) (hrD low nums) (wt1 ks (tsD low) (rdD low nums) (wdsD low)) (wdsD low)))) := (row_down (cells := [(131, tabObj #[]), (117, tabObj psr)]) (led := led21) hcx hv2).mono up22
  have m6 := up22 _ m6
  have mrk := up22 _ mrk
  have m4 := up22 _ m4
  have mkl := up22 _ mkl
  have hks8 := hks8.mono fun v d h => h.mono up22
  have hj := hj.mono up22
  have hWt := hWt.mono up22 fun v t h => h.mono up22
  have mlr := up22 _ mlr
  have hris := hris.mono fun v d h => h.mono up22
  have htab := htab.mono up22
  clear N90 sub5
  dsimp only
  iterate 13 walk1
  have hrisl : vsr.length = 3 := by rw [hris.1, inoAt_len]; simp [nms]
  with_reducible refine' slice_rev (vs := vsr) F90 N92 (List.mem_cons_of_mem _ (List.mem_cons_of_mem _ (mlr))) ?hz31 ?_ ?hs31 ?ht31
  case hz31 => rw [hrisl]; decide
  case hs31 => with_unfolding_all rfl
  case ht31 => intro _; with_unfolding_all rfl
  intro D31 h91 F91 N93 l31
  dsimp only
  obtain ⟨led23, mrv, up23, hled23, N94⟩ := push_led6 (x := (D31, lstO vsr.reverse 0)) N93 hled22 (fun p hp => Nat.ne_of_lt (l31 p hp))
  have N95 : News g L h91 ((117, tabObj psr) :: (131, tabObj #[]) :: led23) := fun p hp => N94 p (by
    simp only [List.mem_cons] at hp ⊢
    rcases hp with h | h | h <;> simp [h])
  iterate 6 walk1
  refine' byorder_k (ps := psr) (news := led23) (ks := ks) (P := (inoAt ks (hrD low nums) low (nms low) 3).reverse) (ts := tsD low) (wt := wt1 ks (tsD low) (rdD low nums) (wdsD low)) (fs := fsD (inoAt ks (hrD low nums) low (nms low) 3).reverse) ?kB14 ?kF14 ?kX14 ?kN14 hC2 hC1 ?kT14 ?kk14 ?kd14 ?ku14 (hled23.at (by simp)) (hled23.at (by simp)) (htab.mono up23) (hj.mono up23) hok8 mrv (each_reverse (hris.mono fun v d h => h.mono up23)) (by rw [List.length_reverse, inoAt_len]; simp [nms]) (hWt.mono up23 fun v t h => h.mono up23) (fs_ok hok8 hlow hn6 hb6) ?_
  case kB14 => k_asm
  case kF14 => exact F91
  case kX14 => k_asm
  case kN14 => exact N95
  case kT14 => k_asm
  case kk14 => exact rfl
  case kd14 => ktr_room
  case ku14 => ktr_units
  intro D32 v3 v4 n32 ex h92 tk92 upx hq1 hq2 hv3 hv4 F92 N96
  dsimp only
  have mt1 := upx _ (up23 _ mt1)
  refine add_lsts F92 N96 (List.mem_cons_of_mem _ mt1) List.mem_cons_self (by simp) ?_
  intro D33 h93 l33 F93 N97
  obtain ⟨led24, hled24, N97⟩ : ∃ led24, led24 = (D33, lstO ([v1, v2] ++ [v3, v4]) 0) :: (D32, lstO [v3, v4] n32) :: ex ∧ News g L h93 led24 := ⟨_, rfl, N97⟩
  have mtold : (D33, lstO [v1, v2, v3, v4] 0) ∈ led24 := hled24 ▸ List.mem_cons_self
  have upE : ∀ p ∈ ex, p ∈ led24 := fun p hp => hled24 ▸ List.mem_cons_of_mem _ (List.mem_cons_of_mem _ hp)
  have upF : ∀ p ∈ led22, p ∈ led24 := fun p hp => upE _ (upx _ (up23 _ hp))
  have hq1 : ∃ qs, ((117 : Addr), tabObj qs) ∈ led24 := hq1.imp fun _ h => upE _ h
  have hq2 : ∃ qs, ((131 : Addr), tabObj qs) ∈ led24 := hq2.imp fun _ h => upE _ h
  have hv1 := hv1.mono upF
  have hv2 := hv2.mono upF
  have hv3 := hv3.mono upE
  have hv4 := hv4.mono upE
  have m6 := upF _ m6
  have mrk := upF _ mrk
  have m4 := upF _ m4
  have mkl := upF _ mkl
  have hks8 := hks8.mono fun v d h => h.mono upF
  clear N91 N92 N93 N94 N95 N96 hled24
  dsimp only
  iterate 1 walk1
  rename_i h94 F94 N94
  (try dsimp only)
  iterate 1 walk1
  k_fold
  iterate 2 walk1
  refine wpQ ?_
  intro Qh12_1 hQh12_1
  refine eval_list (by with_unfolding_all rfl) rfl (by decide) ?_
  iterate 1 walk1
  refine src_list rfl F94 N94 (.inr ⟨_, mtold, rfl, _, rfl⟩) fun I St s₂ hs₂ X95 => ?_
  obtain ⟨h95, rfl⟩ := hs₂
  obtain ⟨rs4, hrs4, htold⟩ : ∃ rs4 : List RowD, rs4 = [bestL ks 1 ((tsD low).map (innT ks (hrD low nums) (wt1 ks (tsD low) (rdD low nums) (wdsD low)) (wdsD low))), bestL ks (-1) ((tsD low).map (outT ks (nms low) (hrD low nums) (wt1 ks (tsD low) (rdD low nums) (wdsD low)) (wdsD low))), byo1 ks (inoAt ks (hrD low nums) low (nms low) 3).reverse fun k => wt1 ks (tsD low) (rdD low nums) (wdsD low) (flagT (fsD (inoAt ks (hrD low nums) low (nms low) 3).reverse k)), byo2 ks (inoAt ks (hrD low nums) low (nms low) 3).reverse fun k => wt1 ks (tsD low) (rdD low nums) (wdsD low) (flagT (fsD (inoAt ks (hrD low nums) low (nms low) 3).reverse k))] ∧ Each (IsRow led24) [v1, v2, v3, v4] rs4 := ⟨_, rfl, each_four hv1 hv2 hv3 hv4⟩
  refine' after_list (X95 _ _) ?sz15
    (fun i ys nw => nw = led24 ∧ IntsAre ys ((rs4.take i).map (rankD ks)))
    ?hS15 (fun i m₂ => ∃ v, [v1, v2, v3, v4][i]? = some v ∧ m₂ "row" = some v) ?c15 rfl ?asg15 ⟨rfl, .nil⟩ ?_ ?_
  case sz15 => rw [sizeLine_eq]; show 4 ≤ 16777216; decide
  case hS15 => intro i ys nw hJ; rw [hJ.1]; exact .inr ⟨_, mtold, rfl, _, rfl⟩
  case c15 => decide
  case asg15 =>
    refine asg_name ?_ ?_ ?_
    · rfl
    · rfl
    · intro i v m₂ hP hm
      exact ⟨v, by simpa using hP, hm⟩
  · intro i5 C5 D5 oC5 m₅ ys5 nw own5 h96 tk96 E5 hi5 hB5 hJ5 hoC5 F96 N96 hown5 hoff5 hCw5 hDw5 hCD5
    refine wpAny_tests_nil ?_
    refine ite_yes rfl ?_
    refine wpQ ?_
    intro Q5 hQ5
    obtain ⟨v5, hv5, hm5⟩ := hB5
    obtain ⟨hnw, hys5⟩ := hJ5
    subst nw
    have sub5 : ∀ p ∈ led24, p ∈ own5 ++ led24 := fun p hp => List.mem_append_right _ hp
    revert N96 sub5
    generalize hled5 : own5 ++ led24 = lex
    revert lex
    refine hold ?_
    intro lex hled5 N96 sub5
    have m45 := sub5 _ m4
    iterate 10 walk1
    have h5P : i5 < rs4.length := by rw [← htold.1]; exact (List.getElem?_eq_some_iff.mp hv5).1
    have hrw : rs4[i5]? = some rs4[i5] := List.getElem?_eq_getElem h5P
    have hrow := htold.2 i5 v5 _ hv5 hrw
    have sub6 : ∀ p ∈ led24, p ∈ (C5, oC5) :: (D5, LCg.lst ys5) :: lex := fun p hp => List.mem_cons_of_mem _ (List.mem_cons_of_mem _ (sub5 p hp))
    have hKs : IsKeys led24 (.ref D8) ks := ⟨D8, ys8, _, rfl, mkl, hks8⟩
    refine' rank_k (ks := ks) ?kB16 F96 ?kX16 N96 ?kT16 ?kk16 ?kd16 ?ku16 (hKs.mono sub6) (hrow.mono sub6) hok8 ?_
    case kB16 => k_asm
    case kX16 => k_asm
    case kT16 => k_asm
    case kk16 => exact rfl
    case kd16 => ktr_room
    case ku16 => ktr_units
    intro t97 h97 tk97 F97 N97
    refine hQ5 _ _ ?_
    refine cend_mk F97 N97 _ (fun p hp => hled5 ▸ hp) hoff5 ⟨rfl, ?_⟩
    rw [List.take_add_one, hrw, List.map_append]
    exact ints_snoc hys5 _ _
  intro D34 h98 tk98 ysr nw F98 N98 hoff34 hJr
  obtain ⟨hnw, hysr⟩ := hJr
  subst nw
  refine hQh12_1 _ _ ?_
  clear hQh12_1 Qh12_1
  (try dsimp only)
  have hk11 : ysk.length ≤ 1000 := by rw [hysk.length, List.length_map, List.length_map]; omega
  iterate 2 walk1
  iterate 12 walk1
  refine slice_take3 F98 N98 (List.mem_cons_of_mem _ mrk) hk11 ?_
  intro D35 h99 F99 N99 l99
  iterate 8 walk1
  refine slice_from3 F99 N99 (List.mem_cons_of_mem _ (List.mem_cons_of_mem _ mrk)) hk11 ?_
  intro D36 h100 F100 N100 l100
  iterate 2 walk1
  refine' due_k ?kB17 F100 ?kX17 N100 ?kT17 ?kk17 ?kd17 ?ku17 (List.mem_cons_of_mem _ List.mem_cons_self) List.mem_cons_self (IntsAre.take hysk 3) (IntsAre.drop hysk 3) ?kt17 ?kp17 ?_
  case kB17 => k_asm
  case kX17 => k_asm
  case kT17 => k_asm
  case kk17 => exact rfl
  case kd17 => ktr_room
  case ku17 => ktr_units
  case kt17 => rw [List.length_take, List.length_map, List.length_map, hn6]; rfl
  case kp17 => rw [List.length_drop, List.length_map, List.length_map, hn6]
  intro t101 h101 tk101 F101 N101
  (try dsimp only)
  iterate 4 walk1
  rename_i D103 h103 F103 N103 i103 n103 s103 e103 e104 e105 l103
  iterate 1 walk1
  have heq : List.map (rankD ks) (List.take #[v1, v2, v3, v4].size rs4) = (List.replicate (Int.toNat 4) [dueD (List.take 3 (List.map (rankD ks) (List.map rowD nums))) (List.drop 3 (List.map (rankD ks) (List.map rowD nums)))]).flatten := by
    rw [hrs4]
    exact due_all hok8 hlow hn6 hb6
  rw [decide_eq_true heq]
  have fin1 : ∃ qs, h103.get? 117 = some (tabObj qs) := hq1.imp fun qs h => (N103 _ (List.mem_cons_of_mem _ (List.mem_cons_of_mem _ (List.mem_cons_of_mem _ (List.mem_cons_of_mem _ (List.mem_cons_of_mem _ h)))))).1
  have fin2 : ∃ qs, h103.get? 131 = some (tabObj qs) := hq2.imp fun qs h => (N103 _ (List.mem_cons_of_mem _ (List.mem_cons_of_mem _ (List.mem_cons_of_mem _ (List.mem_cons_of_mem _ (List.mem_cons_of_mem _ h)))))).1
  exact hret _ _ _ F103 fin1 fin2)
end Mine

set_option maxRecDepth 100000 in
set_option maxHeartbeats 8000000 in
theorem PySem.Challenge.cw_wf0029_01_holds : PySem.Challenge.rw_wf0029_01.Holds := by
  exact Mine.Law
