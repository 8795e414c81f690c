import PyProof.Rows.All
import Wide.All
import OpenK.AllK
import Wide.FinOn
import PySem.Challenge.RW_ij0041_01

set_option Elab.async false

-- part Hd
section
open PySem PySem.W PyProof.Rows
set_option maxRecDepth 100000
set_option maxHeartbeats 8000000
namespace Mine
/-- the text without its file marks -/
def lawView : Program := { PySem.Challenge.rw_ij0041_01.prog with main := { PySem.Challenge.rw_ij0041_01.prog.main with body := [0, 2, 4, 5, 6, 8, 10, 11, 12, 13, 15, 17, 18, 19, 20, 21].filterMap fun i => PySem.Challenge.rw_ij0041_01.prog.main.body[i]? } }
theorem map_pair {α β γ : Type} {o : Option α} {f : α → Option β} {h : α → Option γ} {b : β} {c : γ} (h1 : o.map f = some (some b)) (h2 : o.map h = some (some c)) : o.map (fun s => (f s, h s)) = some (some b, some c) := by
  cases o with
  | none => cases h1
  | some s => simp only [Option.map_some, Option.some.injEq] at h1 h2 ⊢; rw [h1, h2]
/-- what the top's run is asked, a run apart for each answer of the row -/
def AllAt (p q : Program) (loose : List PySem.Str) (Xt : Shared → Bool) (H : Hook) (N : Nat) (row : String) (b : Bool) : Prop :=
  ∀ w : World, (fencedOpening treeTable p w N).map (fun s₀ => (topFrom treeTable p (w.withFollow row b) N s₀).map fun s => (openSeen q loose (importedModules p.main.body) Xt true s, H.obs s)) = some (some (openGood q loose, H.val (w.withFollow row b)))
theorem left2 {p q : Program} {loose : List Str} {Xt : Shared → Bool} {H : Hook} {N : Nat} {row : String} (h1 : AllAt p q loose Xt H N row false) (h2 : AllAt p q loose Xt H N row true) : LeftO p q loose Xt H.obs H.val N :=
  LeftO.of_split row fun w => map_pair (h1 w) (h2 w)
theorem holds_both {r : OpenRow} {q : Program} {loose : List Str} {Xt : Shared → Bool} {XP : (Str → Option Value) → Heap → Prop} {α : Type} {Yf : Shared → α} {Ya : World → α} {YP : World → Heap → Prop} {d : DefRec} {kwd : List (Str × Expr)} {N : Nat}
    (hY : ∀ w s, Yf s = Ya w → YP w s.heap) (hYk : ∀ w h h', YP w h → (∀ b o, h.get? b = some o → h'.get? b = some o) → YP w h')
    (hX : ∀ s, Xt s = true → XP (s.heap.nsMap mainGlobals) s.heap) (hXk : ∀ mg h h', XP mg h → (∀ b o, h.get? b = some o → h'.get? b = some o) → XP mg h')
    (hdef : defOf q r.name = some (d, kwd)) (hp : r.prog.theDef r.name = some (d.params, d.body, d.scope)) (hk : kwWritten? d.params.kwonlyargs d.params.kw_defaults = some kwd) (hRf : ∀ s, Xt s = true → RecFacts r.records s.heap) (hwr : (!r.writes || r.records.isEmpty) = true)
    (k1 : r.wellSaid = true) (ok : (chainsOk q && opensWell r.prog && (frees r.toRowW && r.within.isEmpty)) = true) (hb : r.prog.bare) (hw : r.toRowW.promised)
    (both : LeftO r.prog q loose Xt Yf Ya N ∧ WalkO q loose XP YP r.toRowW d kwd fun f vs => PySem.call f vs) : r.Holds :=
  holds_open both.1 hY hYk hX hXk hdef hp hk hRf hwr k1 ok hb hw both.2
set_option hygiene false in
local macro_rules | `(tactic| o_head $H) => `(tactic| (
  refine holds_both (q := lawView) (loose := [PySem.Str.ofString "Whitespace", PySem.Str.ofString "islice"]) (Xt := fun s => xlAt lawView [] s && recOk (RowW.records PySem.Challenge.rw_ij0041_01.row.toRowW) s) (XP := XL lawView []) (Yf := Hook.obs $H) (Ya := Hook.val $H) (YP := Hook.says $H) (N := 2738) (Hook.of $H) (Hook.keeps $H) (fun s e => xl_of s (Bool.and_eq_true_iff.mp e).1) XL.keeps (by rfl) (by rfl) (by rfl) (fun s e => recFacts_of (Bool.and_eq_true_iff.mp e).2) (by first | rfl | fail "no head takes a call that writes beside a table") (by first | assumption | decide +kernel) (by decide +kernel) ⟨rfl, rfl, rfl, rfl, rfl, by decide +kernel⟩ ?hw ?hc))
open_top hd for PySem.Challenge.rw_ij0041_01
end Mine
end

-- part Hf
section
open PySem PySem.W PyProof.Rows
set_option maxRecDepth 100000
set_option maxHeartbeats 8000000
namespace Mine
abbrev lawText : Program := PySem.Challenge.rw_ij0041_01.row.prog
abbrev lawXt (s : Shared) : Bool := xlAt lawView [] s && recOk (RowW.records PySem.Challenge.rw_ij0041_01.row.toRowW) s
/-- the objects that the walk knows -/
noncomputable def lawHook : Hook := kHook hd.heap_39 [2, 3, 15, 17, 18, 20, 21, 32, 34, 35, 37, 38, 39, 41, 42, 44, 45, 46, 48, 49, 51, 52, 53, 55, 56, 58, 59, 60, 62, 63, 65, 66, 67, 69, 70, 72, 73, 74, 76, 77, 79, 80, 81, 82, 83, 84, 85, 88, 90, 91, 93, 94, 95, 97, 98, 100, 101, 109, 110, 112, 113, 115, 116, 117, 119, 120, 122, 123, 124, 126, 127, 129, 130, 131, 133, 134, 135, 136, 137, 138, 139, 142, 144, 145, 147, 148, 149, 151, 152, 154, 155, 156, 158, 159, 161, 162, 163, 165, 166, 168, 169, 170, 172, 173, 175, 176, 177, 179, 180, 182, 183, 184, 186, 187, 189, 190, 191, 193, 194, 196, 197, 198, 201, 202, 203, 206, 207]  (fun _ => by kernel_rfl)
theorem all_false : AllAt lawText lawView [PySem.Str.ofString "Whitespace", PySem.Str.ofString "islice"] lawXt lawHook 2738 "special-get-raises" false := by
  unfold AllAt; intro w; kernel_rfl
theorem all_true : AllAt lawText lawView [PySem.Str.ofString "Whitespace", PySem.Str.ofString "islice"] lawXt lawHook 2738 "special-get-raises" true := by
  unfold AllAt; intro w; kernel_rfl
theorem law_left : LeftO lawText lawView [PySem.Str.ofString "Whitespace", PySem.Str.ofString "islice"] lawXt lawHook.obs lawHook.val 2738 := left2 all_false all_true
end Mine
end

-- part C0
section
open PySem PySem.W PySem.Calls PyProof.Rows
set_option maxRecDepth 100000
set_option maxHeartbeats 4000000
namespace Mine

abbrev Prg : Program := PySem.Challenge.rw_ij0041_01.row.prog
noncomputable abbrev Loo : List Str := looseW lawView [Str.ofString "Whitespace", Str.ofString "islice"]

section
variable {w : World} {A : Around} {R : Result → Shared → Prop} {s : Shared} {K : Frag} {name qual : Str} {params : Arguments} {body : List Stmt} {scope : Scope} {dV kV doc pm cdv ct oc : Value} {an od : Option Addr} {osl : Array (Option Value)} {f : Addr} {args : Args} {binds : List (Str × Value)}

theorem enter (X : K.In s.heap) (hlim : s.heap.NoLimit) (ho : K.lookup f = some ⟨oc, od, .func (fnOf name qual params body scope dV kV doc pm an cdv ct), osl⟩) (hcd : codeIn K cdv qual = true) (hroom : A.depth < recursionLimit)
    (hbind : BindsTo s (fnOf name qual params body scope dV kV doc pm an cdv ct) args binds) (hloc : ∀ y ∈ binds, scope.names.lookup y.1 = some .local)
    (h : ∀ L h₁, Fr s.heap L h₁ (fun y => binds.reverse.lookup y) → News s.heap L h₁ [] →
      wpAny (model Prg w) (A.deeper (envOf qual scope L f cdv)) (execs body (envOf qual scope L f cdv))
        (fun fl s' => R (.ok (.ret (match fl with | .ret v => v | _ => .none))) s')
        (fun e s' => wpAny (model Prg w) (A.deeper (envOf qual scope L f cdv)) (leaving (envOf qual scope L f cdv) e) (fun _ s'' => R (.error e) s'') (fun e' s'' => R (.error e') s'') s')
        { s with heap := h₁, toks := s.toks + binds.length })
    (hcell : ∀ x ∈ scope.names, x.2 ≠ .cell) (hco : scope.isCoroutine = false) (hgen : scope.isGenerator = false) (hk : scope.kind = .function) : codeAny (model Prg w) A (.call (.ref f) args) R s :=
  codeAny_call_def (fd := fnOf name qual params body scope dV kV doc pm an cdv ct) (body := body) (binds := binds) hroom (X _ _ ho) rfl hlim (codeRec_of X hcd) rfl hbind hcell hloc
    (fun h₁ hns hk₁ => h s.heap.objs.size h₁ ⟨hns, hk₁, Nat.le_refl _⟩ .nil) hco hgen hk

/-- the heap without some objects -/
theorem hide_in {K : Frag} {B h : Heap} {news : List (Addr × Obj)} (X : K.In B) (hB : ∀ b o, B.get? b = some o → h.get? b = some o) (hn : ∀ p ∈ news, B.get? p.1 = none) : K.In (hideAll h (news.map (·.1))) :=
  fun a o e => hideAll_get _ (hB _ _ (X a o e)) fun q => by
    obtain ⟨p, hp, rfl⟩ := List.mem_map.mp q
    have := X _ _ e; rw [hn p hp] at this; cases this
theorem hide_keep {B h : Heap} {news : List (Addr × Obj)} (hB : ∀ b o, B.get? b = some o → h.get? b = some o) (hn : ∀ p ∈ news, B.get? p.1 = none) : ∀ b o, B.get? b = some o → (hideAll h (news.map (·.1))).get? b = some o :=
  fun a o e => hideAll_get _ (hB _ _ e) fun q => by
    obtain ⟨p, hp, rfl⟩ := List.mem_map.mp q
    rw [hn p hp] at e; cases e

theorem enterN {B : Heap} {news : List (Addr × Obj)} (X : K.In B) (hlim : B.NoLimit) (hB : ∀ b o, B.get? b = some o → s.heap.get? b = some o) (hnew : ∀ p ∈ news, B.get? p.1 = none) (hget : ∀ p ∈ news, s.heap.get? p.1 = some p.2)
    (ho : K.lookup f = some ⟨oc, od, .func (fnOf name qual params body scope dV kV doc pm an cdv ct), osl⟩) (hcd : codeIn K cdv qual = true) (hroom : A.depth < recursionLimit)
    (hbind : BindsTo s (fnOf name qual params body scope dV kV doc pm an cdv ct) args binds) (hloc : ∀ y ∈ binds, scope.names.lookup y.1 = some .local)
    (h : ∀ L h₁ g, g = hideAll s.heap (news.map (·.1)) → (∀ b o, B.get? b = some o → g.get? b = some o) → K.In g → Fr g L h₁ (fun y => binds.reverse.lookup y) → News g L h₁ news → (∀ p ∈ news, p.1 < L) →
      wpAny (model Prg w) (A.deeper (envOf qual scope L f cdv)) (execs body (envOf qual scope L f cdv))
        (fun fl s' => R (.ok (.ret (match fl with | .ret v => v | _ => .none))) s')
        (fun e s' => wpAny (model Prg w) (A.deeper (envOf qual scope L f cdv)) (leaving (envOf qual scope L f cdv) e) (fun _ s'' => R (.error e) s'') (fun e' s'' => R (.error e') s'') s')
        { s with heap := h₁, toks := s.toks + binds.length })
    (hcell : ∀ x ∈ scope.names, x.2 ≠ .cell) (hco : scope.isCoroutine = false) (hgen : scope.isGenerator = false) (hk : scope.kind = .function) : codeAny (model Prg w) A (.call (.ref f) args) R s :=
  codeAny_call_def (fd := fnOf name qual params body scope dV kV doc pm an cdv ct) (body := body) (binds := binds) hroom (hB _ _ (X _ _ ho)) rfl (hlim.keeps hB) (codeRec_of (X.keeps hB) hcd) rfl hbind hcell hloc
    (fun h₁ hns hk₁ => h s.heap.objs.size h₁ _ rfl (hide_keep hB hnew) (hide_in X hB hnew) ⟨hns, fun b o e => hk₁ b o (of_hideAll _ e), Nat.le_of_eq (hideAll_size _ _)⟩
      (fun p hp => ⟨hk₁ _ _ (hget p hp), Nat.ne_of_lt (Heap.lt_size (hget p hp)), hideAll_none _ (List.mem_map_of_mem hp)⟩) fun p hp => Heap.lt_size (hget p hp)) hco hgen hk

/-- all that was there still is -/
theorem keep_of {h h' g : Heap} {L : Addr} {m : Str → Option Value} {news news' : List (Addr × Obj)} (hg : g = hideAll h (news.map (·.1))) (hget : ∀ p ∈ news, h.get? p.1 = some p.2) (F : Fr g L h' m) (N : News g L h' news') (hs : ∀ p ∈ news, p ∈ news') :
    ∀ b o, h.get? b = some o → h'.get? b = some o := fun b o e => by
  by_cases hb : b ∈ news.map (·.1)
  · obtain ⟨p, hp, rfl⟩ := List.mem_map.mp hb
    have := hget p hp
    rw [this] at e; cases e
    exact (N p (hs p hp)).1
  · exact F.keep _ _ (hg ▸ hideAll_get _ e hb)
/-- all that was there still is, but for the hidden -/
theorem keep_but {h h' g : Heap} {L : Addr} {m : Str → Option Value} {adr : List Addr} (hg : g = hideAll h adr) (F : Fr g L h' m) : ∀ b o, b ∉ adr → h.get? b = some o → h'.get? b = some o := fun b o hb e =>
  F.keep _ _ (hg ▸ hideAll_get _ e hb)
end

def Stop (p : Prop) : Prop := p
theorem stop_here {p : Prop} (h : Stop p) : p := h
theorem news_drop2 {h₀ h : Heap} {L : Addr} {a b : Addr × Obj} {r : List (Addr × Obj)} (N : News h₀ L h (a :: b :: r)) : News h₀ L h (a :: r) := fun p hp => N p (by
  rcases List.mem_cons.mp hp with rfl | h
  · exact .head _
  · exact .tail _ (.tail _ h))
theorem news_neo {h₀ h : Heap} {L : Addr} {a b : Nat} {o o' : Obj} {l : List (Addr × Obj)} (N : News h₀ L h l) (ha : (a, o) ∈ l) (hb : (b, o') ∈ l) (hc : o ≠ o') : @Ne Nat a b := fun e => by
  have h1 := (N _ ha).1
  have h2 := (N _ hb).1
  dsimp only at h1 h2
  rw [e] at h1
  exact hc (Option.some.inj (h1.symm.trans h2))
theorem fresh_of_hide {h g : Heap} {adr : List Addr} {d : Addr} (hg : g = hideAll h adr) (hn : g.get? d = none) (hd : d ∉ adr) : h.get? d = none := by
  cases e : h.get? d with
  | none => rfl
  | some o => have := hideAll_get adr e hd; rw [← hg, hn] at this; cases this
theorem not_mem2 {d x y : Nat} (h1 : d ≠ x) (h2 : d ≠ y) : d ∉ [x, y] := by simp [h1, h2]
theorem news_ne {h₀ h : Heap} {L : Addr} {a b : Nat} {o o' : Obj} {l : List (Addr × Obj)} (N : News h₀ L h l) (ha : (a, o) ∈ l) (hb : (b, o') ∈ l) {x y : String} (hx : o.cls = .type x) (hy : o'.cls = .type y) (hc : x ≠ y) : @Ne Nat a b := fun e => by
  have h1 := (N _ ha).1
  have h2 := (N _ hb).1
  dsimp only at h1 h2
  rw [e] at h1
  have := congrArg Obj.cls (Option.some.inj (h1.symm.trans h2))
  rw [hx, hy] at this
  exact hc (Value.type.inj this)
theorem news_sub {h₀ h : Heap} {L : Addr} {l l' : List (Addr × Obj)} (N : News h₀ L h l) (hs : ∀ p ∈ l', p ∈ l) : News h₀ L h l' := fun p hp => N p (hs p hp)
theorem fr_gen {h₀ h : Heap} {L : Addr} {m : Str → Option Value} (F : Fr h₀ L h m) : ∃ M, M = m ∧ Fr h₀ L h M := ⟨m, rfl, F⟩
theorem size_ok {n : Nat} (h : n ≤ 16384) : n ≤ sizeLine := Nat.le_trans h (by decide)
theorem fr_pin {h₀ h : Heap} {L : Addr} {m : Str → Option Value} {x : Str} {v : Value} (F : Fr h₀ L h m) (hx : m x = some v) : Fr h₀ L h (fun y => if y = x then some v else m y) := by
  have e : (fun y => if y = x then some v else m y) = m := by
    funext y
    by_cases hy : y = x
    · rw [if_pos hy, hy, hx]
    · rw [if_neg hy]
  rw [e]; exact F

section
variable {prog : Program} {w : World} {A : Around} {E : Value → Shared → Prop} {s : Shared} {env : Env} {h₀ : Heap} {x : Str} {body : List Stmt} {Q : Flow → Shared → Prop}
open KStt in
theorem loop_text {xt : Str} {tx : Tok} {m₀ : Str → Option Value} {news : List (Addr × Obj)} (J : List Int → (Str → Option Value) → List (Addr × Obj) → Prop)
    (hh : A.handled = none) (F : Fr h₀ env.locals s.heap m₀) (N : News h₀ env.locals s.heap news) (hj : J [] m₀ news)
    (turn : ∀ (pre post : List Int) (n : Nat) t m₁ nx h tk own, codes xt = pre ++ (n : Int) :: post → OwnOff own (nx.map (·.1)) → J pre m₁ nx → Fr h₀ env.locals h (fun y => if y = x then some (.str ⟨#[n]⟩ t) else m₁ y) → News h₀ env.locals h (nx ++ own) →
      wpAny (model prog w) A (execs body env) (InvPostG h₀ env.locals (J (pre ++ [(n : Int)])) own { s with heap := h, toks := tk } Q) E { s with heap := h, toks := tk })
    (done : ∀ m₁ nx h tk, J (codes xt) m₁ nx → Fr h₀ env.locals h m₁ → News h₀ env.locals h nx → Q .next { s with heap := h, toks := tk }) :
    wpAny (model prog w) A (pyIter (.str xt tx)) (fun it s₂ => LoopAtV prog w A h₀ env x body Q E it s₂) E s := by
  -- the iterator's object is one at the heap's end
  cases ha : xt.cps.all (· < 128)
  · refine wpAny_pyIter_wide ha ?_
    refine kdr_loop (fun i m nx => J ((codes xt).take i) m nx) (Walks.strWide hh _ xt tx) (fun _ h => h) (fun _ h => h) ?_ ?_ ?_ ?_ ⟨_, Heap.get?_push_size _ rfl, rfl, rfl⟩ (F.push _) (fun p hp => ⟨Heap.get?_push_of_some _ (N p hp).1, (N p hp).2⟩) (by simpa using hj) ?_ ?_
    · rintro i h ⟨o, ho, _⟩ b hb
      rw [List.mem_singleton.mp hb]; exact ⟨_, ho⟩
    · intro hm; exact absurd F.ns.lt ((List.mem_singleton.mp hm) ▸ Nat.lt_irrefl _)
    · intro b hb; rw [List.mem_singleton.mp hb]; exact next_is_new F
    · intro p hp hI; exact absurd (Heap.lt_size (N p hp).1) ((List.mem_singleton.mp hI) ▸ Nat.lt_irrefl _)
    · rintro i v m₁ nx h tk own hi ⟨n, u, hn, rfl⟩ hoff hJ F₁ N₁
      have hn' := code_at hn
      have hs : (codes xt).take (i + 1) = (codes xt).take i ++ [(n : Int)] := by simp [List.take_add_one, hn']
      have e : codes xt = (codes xt).take i ++ (n : Int) :: (codes xt).drop (i + 1) := by
        have ht := List.take_append_drop (i + 1) (codes xt)
        rw [hs, List.append_assoc] at ht
        exact ht.symm
      rw [hs]
      exact turn _ _ n u m₁ nx h tk own e hoff hJ F₁ N₁
    · rintro m₁ nx h tk hJ F₁ N₁
      have hl : xt.cps.size = (codes xt).length := (codes_length xt).symm
      rw [hl, List.take_length] at hJ
      exact done m₁ nx h tk hJ F₁ N₁
  · refine wpAny_pyIter_ascii ha ?_
    refine kdr_loop (fun i m nx => J ((codes xt).take i) m nx) (Walks.strAscii hh _ xt tx) (fun _ h => h) (fun _ h => h) ?_ ?_ ?_ ?_ ⟨_, Heap.get?_push_size _ rfl, rfl, rfl⟩ (F.push _) (fun p hp => ⟨Heap.get?_push_of_some _ (N p hp).1, (N p hp).2⟩) (by simpa using hj) ?_ ?_
    · rintro i h ⟨o, ho, _⟩ b hb
      rw [List.mem_singleton.mp hb]; exact ⟨_, ho⟩
    · intro hm; exact absurd F.ns.lt ((List.mem_singleton.mp hm) ▸ Nat.lt_irrefl _)
    · intro b hb; rw [List.mem_singleton.mp hb]; exact next_is_new F
    · intro p hp hI; exact absurd (Heap.lt_size (N p hp).1) ((List.mem_singleton.mp hI) ▸ Nat.lt_irrefl _)
    · rintro i v m₁ nx h tk own hi ⟨n, u, hn, rfl⟩ hoff hJ F₁ N₁
      have hn' := code_at hn
      have hs : (codes xt).take (i + 1) = (codes xt).take i ++ [(n : Int)] := by simp [List.take_add_one, hn']
      have e : codes xt = (codes xt).take i ++ (n : Int) :: (codes xt).drop (i + 1) := by
        have ht := List.take_append_drop (i + 1) (codes xt)
        rw [hs, List.append_assoc] at ht
        exact ht.symm
      rw [hs]
      exact turn _ _ n u m₁ nx h tk own e hoff hJ F₁ N₁
    · rintro m₁ nx h tk hJ F₁ N₁
      have hl : xt.cps.size = (codes xt).length := (codes_length xt).symm
      rw [hl, List.take_length] at hJ
      exact done m₁ nx h tk hJ F₁ N₁

theorem loop_range {r : Addr} {a₀ b₀ c₀ : Int} {t₀ u₀ v₀ : Tok} {n : Nat} {m₀ : Str → Option Value} {news : List (Addr × Obj)} (J : Nat → (Str → Option Value) → List (Addr × Obj) → Prop)
    (hh : A.handled = none) (hr : IsRange s.heap r a₀ b₀ c₀ t₀ u₀ v₀) (hsmall : Builtin.Range.small a₀ b₀ c₀ = true) (hn : Builtin.Range.rangeSize a₀ b₀ c₀ = (n : Int)) (F : Fr h₀ env.locals s.heap m₀) (N : News h₀ env.locals s.heap news) (hj : J 0 m₀ news)
    (turn : ∀ (i : Nat) t m₁ nx h tk own, i < n → OwnOff own (nx.map (·.1)) → J i m₁ nx → Fr h₀ env.locals h (fun y => if y = x then some (.int (a₀ + (i : Int) * c₀) t) else m₁ y) → News h₀ env.locals h (nx ++ own) →
      wpAny (model prog w) A (execs body env) (InvPostG h₀ env.locals (J (i + 1)) own { s with heap := h, toks := tk } Q) E { s with heap := h, toks := tk })
    (done : ∀ m₁ nx h tk, J n m₁ nx → Fr h₀ env.locals h m₁ → News h₀ env.locals h nx → Q .next { s with heap := h, toks := tk }) :
    wpAny (model prog w) A (pyIter (.ref r)) (fun it s₂ => LoopAtV prog w A h₀ env x body Q E it s₂) E s := by
  refine wpAny_pyIter_range hr hsmall ?_
  have W : Walks prog w A s.heap.objs.size [s.heap.objs.size] [s.heap.objs.size] n (fun i v => i < n ∧ ∃ t, v = .int (a₀ + i * c₀) t)
      (fun i h => IsRangeIter h s.heap.objs.size (a₀ + (i : Nat) * c₀) ((n : Int) - (i : Nat)) c₀) := (Walks.range hh _ a₀ c₀ n).bound
  refine kdr_loop J W (fun _ h => h) (fun _ h => h) ?_ ?_ ?_ ?_ (by show IsRangeIter _ _ _ _ _; rw [hn]; simpa using Heap.get?_push_size _ rfl) (F.push _) (fun p hp => ⟨Heap.get?_push_of_some _ (N p hp).1, (N p hp).2⟩) hj ?_ ?_
  · intro i h hi b hb
    rw [List.mem_singleton.mp hb]
    exact ⟨_, hi⟩
  · intro hm; exact absurd F.ns.lt ((List.mem_singleton.mp hm) ▸ Nat.lt_irrefl _)
  · intro b hb; rw [List.mem_singleton.mp hb]; exact next_is_new F
  · intro p hp hI; exact absurd (Heap.lt_size (N p hp).1) ((List.mem_singleton.mp hI) ▸ Nat.lt_irrefl _)
  · rintro i v m₁ nx h tk own hi ⟨_, t, rfl⟩ hoff hJ F₁ N₁
    exact turn i t m₁ nx h tk own hi hoff hJ F₁ N₁
  · rintro m₁ nx h tk hJ F₁ N₁
    exact done m₁ nx h tk hJ F₁ N₁
theorem fr_off {L : Addr} {h : Heap} {m₀ m₁ : Str → Option Value} {v : Value} (hz : ∀ z, z ≠ x → m₁ z = m₀ z) (F : Fr h₀ L h (fun y => if y = x then some v else m₁ y)) : Fr h₀ L h (fun y => if y = x then some v else m₀ y) := by
  have em : (fun y => if y = x then some v else m₀ y) = fun y => if y = x then some v else m₁ y := by
    funext y
    by_cases hy : y = x
    · rw [if_pos hy, if_pos hy]
    · rw [if_neg hy, if_neg hy, hz y hy]
  rw [em]; exact F
theorem fr_out {L : Addr} {h : Heap} {m₀ m₁ : Str → Option Value} (hz : ∀ z, z ≠ x → m₁ z = m₀ z) (F : Fr h₀ L h m₁) : Fr h₀ L h (fun y => if y = x then m₁ y else m₀ y) := by
  have em : (fun y => if y = x then m₁ y else m₀ y) = m₁ := by
    funext y
    by_cases hy : y = x
    · rw [if_pos hy]
    · rw [if_neg hy, hz y hy]
  rw [em]; exact F
/-- a loop over a range that stores nothing but its own name -/
theorem search_range {r : Addr} {a₀ b₀ c₀ : Int} {t₀ u₀ v₀ : Tok} {n : Nat} {m₀ : Str → Option Value} {news : List (Addr × Obj)} (P : Nat → Prop)
    (hh : A.handled = none) (hr : IsRange s.heap r a₀ b₀ c₀ t₀ u₀ v₀) (hsmall : Builtin.Range.small a₀ b₀ c₀ = true) (hn : Builtin.Range.rangeSize a₀ b₀ c₀ = (n : Int)) (F : Fr h₀ env.locals s.heap m₀) (N : News h₀ env.locals s.heap news) (hj : P 0)
    (turn : ∀ (i : Nat) t h tk own, i < n → OwnOff own (news.map (·.1)) → P i → Fr h₀ env.locals h (fun y => if y = x then some (.int (a₀ + (i : Int) * c₀) t) else m₀ y) → News h₀ env.locals h (news ++ own) →
      wpAny (model prog w) A (execs body env) (InvPostG h₀ env.locals (fun m nx => nx = news ∧ (∀ z, z ≠ x → m z = m₀ z) ∧ P (i + 1)) own { s with heap := h, toks := tk } Q) E { s with heap := h, toks := tk })
    (done : ∀ (u : Str → Option Value) h tk, P n → Fr h₀ env.locals h (fun y => if y = x then u y else m₀ y) → News h₀ env.locals h news → Q .next { s with heap := h, toks := tk }) :
    wpAny (model prog w) A (pyIter (.ref r)) (fun it s₂ => LoopAtV prog w A h₀ env x body Q E it s₂) E s := by
  refine loop_range (fun i m nx => nx = news ∧ (∀ z, z ≠ x → m z = m₀ z) ∧ P i) hh hr hsmall hn F N ⟨rfl, fun _ _ => rfl, hj⟩ ?_ ?_
  · rintro i t m₁ nx h tk own hi hoff ⟨rfl, hz, hP⟩ F₁ N₁
    exact turn i t h tk own hi hoff hP (fr_off hz F₁) N₁
  · rintro m₁ nx h tk ⟨rfl, hz, hP⟩ F₁ N₁
    exact done m₁ h tk hP (fr_out hz F₁) N₁
theorem search_end {L : Addr} {h' : Heap} {m₀ : Str → Option Value} {v : Option Value} {news own news' : List (Addr × Obj)} {P : Prop} {s₁ : Shared} {tk : Nat} (F : Fr h₀ L h' (fun y => if y = x then v else m₀ y)) (N : News h₀ L h' news')
    (hP : P) (hoff : OwnOff own (news.map (·.1))) (hn : ∀ p ∈ news, p ∈ news') (ho : ∀ p ∈ own, p ∈ news') : InvEndG h₀ L (fun m nx => nx = news ∧ (∀ z, z ≠ x → m z = m₀ z) ∧ P) own s₁ { s₁ with heap := h', toks := tk } :=
  InvEndG.intro F N ⟨rfl, fun _ hz => if_neg hz, hP⟩ hoff hn ho
end


section
variable {prog : Program} {w : World} {A : Around} {E : Value → Shared → Prop} {s : Shared} {env : Env} {Q : Flow → Shared → Prop} {test : Expr} {body orelse : List Stmt} {pos : Pos}
def WhileEnd {α : Type} (J : α → Heap → Prop) (μ : α → Nat) (a : α) (s : Shared) (f : Flow) (s₃ : Shared) : Prop := f = .next ∧ ∃ a' h' tk', s₃ = { s with heap := h', toks := tk' } ∧ μ a' < μ a ∧ J a' h'
theorem while_by {α : Type} (J : α → Heap → Prop) (μ : α → Nat) (a₀ : α) (hE : PassesOwn (model prog w) A env E) (h0 : J a₀ s.heap)
    (turn : ∀ a h tk, J a h → wpAny (model prog w) A (isTrue test env (eval test env)) (fun b s₂ => WhlIf b (wpAny (model prog w) A (execs body env) (WhileEnd J μ a s) E s₂) (wpAny (model prog w) A (execs orelse env) Q E s₂)) E { s with heap := h, toks := tk }) :
    wpAny (model prog w) A (exec (.While test body orelse pos) env) Q E s := by
  refine whl_start 0 ?_
  have key : ∀ n a h tk, μ a ≤ n → J a h → WhlRest prog w A E env test body orelse Q 0 { s with heap := h, toks := tk } := by
    intro n
    induction n with
    | zero =>
      intro a h tk hm hJ
      refine whl_turn (k := 0) hE (wpAny_mono (turn a h tk hJ) (fun b s₂ hb => ?_) fun _ _ e => e)
      unfold WhlIf at hb ⊢
      split
      · rename_i hb'
        rw [if_pos hb'] at hb
        refine wpAny_mono hb (fun f s₃ h3 => ?_) fun _ _ e => e
        obtain ⟨rfl, a', h', tk', rfl, hl, hJ'⟩ := h3
        omega
      · rename_i hb'
        rw [if_neg hb'] at hb
        exact hb
    | succ n ih =>
      intro a h tk hm hJ
      refine whl_turn (k := 0) hE (wpAny_mono (turn a h tk hJ) (fun b s₂ hb => ?_) fun _ _ e => e)
      unfold WhlIf at hb ⊢
      split
      · rename_i hb'
        rw [if_pos hb'] at hb
        refine wpAny_mono hb (fun f s₃ h3 => ?_) fun _ _ e => e
        obtain ⟨rfl, a', h', tk', rfl, hl, hJ'⟩ := h3
        exact ih a' h' tk' (by omega) hJ'
      · rename_i hb'
        rw [if_neg hb'] at hb
        exact hb
  exact key (μ a₀) a₀ s.heap s.toks (Nat.le_refl _) h0
end

end Mine
end

-- part P1
section
open PySem PySem.W PySem.Calls PyProof.Rows
namespace Mine

/-! Whitespace: what __init__ reckons -/
structure WsSt where
  cs : List Int
  b : Int
  n : Int
  nt : Int
def bump1 (cs : List Int) (b : Int) : List Int := if (cs.length : Int) ≤ b then cs ++ (List.replicate (b - (cs.length : Int) + 1).toNat [0]).flatten else cs
def bump (cs : List Int) (b : Int) : List Int := (bump1 cs b).set b.toNat ((bump1 cs b).getD b.toNat 0 + 1)
def wsStep (σ : WsSt) (c : Int) : WsSt := if c = 32 then ⟨σ.cs, σ.b + 1, σ.n + 1, σ.nt⟩ else ⟨bump σ.cs σ.b, 0, σ.n + 1, σ.nt + 1⟩
def wsRun (cs : List Int) : WsSt := cs.foldl wsStep ⟨[], 0, 0, 0⟩
def Blank (cs : List Int) : Prop := ∀ c ∈ cs, c = 32 ∨ c = 9

theorem wsRun_snoc (cs : List Int) (c : Int) : wsRun (cs ++ [c]) = wsStep (wsRun cs) c := by simp [wsRun, List.foldl_append]
theorem blank_snoc {cs : List Int} {c : Int} (h : Blank cs) (hc : c = 32 ∨ c = 9) : Blank (cs ++ [c]) := fun x hx => by
  rcases List.mem_append.mp hx with h1 | h1
  · exact h x h1
  · rw [List.mem_singleton.mp h1]; exact hc

theorem rep1_length (m : Nat) : ((List.replicate m [(0 : Int)]).flatten).length = m := by simp
theorem bump1_length (cs : List Int) (b : Int) (hb : 0 ≤ b) : ((bump1 cs b).length : Int) ≤ max (cs.length : Int) (b + 1) := by
  unfold bump1
  split
  · rw [List.length_append, rep1_length]; omega
  · omega
theorem bump_length (cs : List Int) (b : Int) : (bump cs b).length = (bump1 cs b).length := by simp [bump]

def WsInv (pre : List Int) (σ : WsSt) : Prop := Blank pre ∧ σ = wsRun pre ∧ 0 ≤ σ.b ∧ σ.b ≤ pre.length ∧ σ.cs.length ≤ pre.length

theorem wsInv_nil : WsInv [] ⟨[], 0, 0, 0⟩ := ⟨fun _ h => (nomatch h), rfl, by simp, by simp, by simp⟩

theorem sign_eq {n c : Nat} {x : String} (h : (({ cps := #[n] } : Str) == Str.ofString x) = true) (hx : Str.ofString x = { cps := #[c] }) : n = c := by
  have := eq_of_beq h
  rw [hx] at this
  simpa using this
theorem sign_ne {n c : Nat} {x : String} (h : (({ cps := #[n] } : Str) == Str.ofString x) = false) (hx : Str.ofString x = { cps := #[c] }) : n ≠ c := by
  rintro rfl
  rw [hx] at h
  simp at h

theorem wsInv_space {pre : List Int} {σ : WsSt} {n : Nat} (a : (({ cps := #[n] } : Str) == Str.ofString " ") = true) (h : WsInv pre σ) : WsInv (pre ++ [(n : Int)]) ⟨σ.cs, σ.b + 1, σ.n + 1, σ.nt⟩ := by
  have e := sign_eq a (c := 32) (by decide)
  subst e
  obtain ⟨h1, h2, h3, h4, h5⟩ := h
  refine ⟨blank_snoc h1 (.inl rfl), ?_, ?_, ?_, ?_⟩
  · rw [wsRun_snoc, ← h2]; rfl
  · show 0 ≤ σ.b + 1; omega
  · show σ.b + 1 ≤ _; simp; omega
  · simp; omega
theorem wsInv_tab {pre : List Int} {σ : WsSt} {n : Nat} (a : (({ cps := #[n] } : Str) == Str.ofString "\t") = true) (h : WsInv pre σ) : WsInv (pre ++ [(n : Int)]) ⟨bump σ.cs σ.b, 0, σ.n + 1, σ.nt + 1⟩ := by
  have e := sign_eq a (c := 9) (by decide)
  subst e
  obtain ⟨h1, h2, h3, h4, h5⟩ := h
  refine ⟨blank_snoc h1 (.inr rfl), ?_, by simp, by simp; omega, ?_⟩
  · rw [wsRun_snoc, ← h2]; rfl
  · have := bump1_length σ.cs σ.b h3
    rw [bump_length]
    simp
    omega
theorem wsInv_step {pre : List Int} {σ : WsSt} {c : Int} (hc : c = 32 ∨ c = 9) (h : WsInv pre σ) : WsInv (pre ++ [c]) (wsStep σ c) := by
  rcases hc with rfl | rfl
  · exact wsInv_space (n := 32) (by decide) h
  · exact wsInv_tab (n := 9) (by decide) h
theorem wsInv_fold : ∀ (post pre : List Int) (σ : WsSt), Blank post → WsInv pre σ → WsInv (pre ++ post) (post.foldl wsStep σ)
  | [], pre, σ, _, h => by simpa using h
  | c :: r, pre, σ, hb, h => by
    have := wsInv_fold r (pre ++ [c]) (wsStep σ c) (fun x hx => hb x (.tail _ hx)) (wsInv_step (hb c (.head _)) h)
    simpa [List.append_assoc] using this
theorem wsInv_run {cs : List Int} (h : Blank cs) : WsInv cs (wsRun cs) := by
  have := wsInv_fold cs [] ⟨[], 0, 0, 0⟩ h wsInv_nil
  rw [List.nil_append] at this
  exact this
theorem wsRun_bounds {cs : List Int} (h : Blank cs) (hl : cs.length ≤ 60) : (wsRun cs).cs.length ≤ 80 ∧ 0 ≤ (wsRun cs).b ∧ (wsRun cs).b ≤ 80 := by
  obtain ⟨_, _, h3, h4, h5⟩ := wsInv_run h
  omega
theorem wsInv_tab1 {pre : List Int} {σ : WsSt} {n : Nat} (a : (({ cps := #[n] } : Str) == Str.ofString "\t") = true) (hc : (σ.cs.length : Int) ≤ σ.b) (h : WsInv pre σ) :
    WsInv (pre ++ [(n : Int)]) ⟨(σ.cs ++ (List.replicate (σ.b - (σ.cs.length : Int) + 1).toNat [0]).flatten).set σ.b.toNat ((σ.cs ++ (List.replicate (σ.b - (σ.cs.length : Int) + 1).toNat [0]).flatten).getD σ.b.toNat 0 + 1), 0, σ.n + 1, σ.nt + 1⟩ := by
  have := wsInv_tab a h
  unfold bump bump1 at this
  rwa [if_pos hc] at this
theorem wsInv_tab2 {pre : List Int} {σ : WsSt} {n : Nat} (a : (({ cps := #[n] } : Str) == Str.ofString "\t") = true) (hc : ¬ (σ.cs.length : Int) ≤ σ.b) (h : WsInv pre σ) :
    WsInv (pre ++ [(n : Int)]) ⟨σ.cs.set σ.b.toNat (σ.cs.getD σ.b.toNat 0 + 1), 0, σ.n + 1, σ.nt + 1⟩ := by
  have := wsInv_tab a h
  unfold bump bump1 at this
  rwa [if_neg hc] at this

theorem blank_split {cs pre post : List Int} {n : Int} (e : cs ++ [120] = pre ++ n :: post) (hc : Blank cs) (hp : Blank pre) (hn : n ≠ 32 ∧ n ≠ 9) : pre = cs := by
  rcases List.append_eq_append_iff.mp e with ⟨d, h1, h2⟩ | ⟨d, h1, h2⟩
  · cases d with
    | nil => simpa using h1
    | cons y d =>
      exfalso
      have hl := congrArg List.length h2
      simp at hl
  · cases d with
    | nil => simpa using h1.symm
    | cons y d =>
      exfalso
      have : n = y := by
        have := congrArg List.head? h2
        simpa using this
      have h3 := hc y (by rw [h1]; simp)
      omega

/-! how a Whitespace lies in the heap -/
def wsDict (P : Params) (raw : Str) (nm : Addr) (σ : WsSt) (t : Nat → Tok) : Obj := dictOf [
  ⟨PyData.keyHash P (Str.ofString "raw"), .str (Str.ofString "raw") (t 0), .str raw (t 1)⟩,
  ⟨PyData.keyHash P (Str.ofString "n"), .str (Str.ofString "n") (t 2), .int σ.n (t 3)⟩,
  ⟨PyData.keyHash P (Str.ofString "nt"), .str (Str.ofString "nt") (t 4), .int σ.nt (t 5)⟩,
  ⟨PyData.keyHash P (Str.ofString "norm"), .str (Str.ofString "norm") (t 6), .ref nm⟩,
  ⟨PyData.keyHash P (Str.ofString "is_simple"), .str (Str.ofString "is_simple") (t 7), .bool (decide ((σ.cs.length : Int) ≤ 1))⟩] 5
abbrev tupO (l : List Value) : Obj := { cls := .type "tuple", data := .seq l.toArray }
/-- the four objects -/
def wsLed (P : Params) (raw : Str) (x dx nm ct : Addr) (vs : List Value) (σ : WsSt) (t : Nat → Tok) : List (Addr × Obj) :=
  [(x, instObj 83 dx), (dx, wsDict P raw nm σ t), (nm, tupO [.ref ct, .int σ.b (t 8)]), (ct, tupO vs)]
theorem wsLed_mk {P : Params} {h : Heap} {raw : Str} {x dx nm ct : Addr} {vs : List Value} {σ : WsSt} {t0 t1 t2 t3 t4 t5 t6 t7 t8 : Tok} (h1 : h.get? x = some (instObj 83 dx))
    (h2 : h.get? dx = some (dictOf [
  ⟨PyData.keyHash P (Str.ofString "raw"), .str (Str.ofString "raw") t0, .str raw t1⟩,
  ⟨PyData.keyHash P (Str.ofString "n"), .str (Str.ofString "n") t2, .int σ.n t3⟩,
  ⟨PyData.keyHash P (Str.ofString "nt"), .str (Str.ofString "nt") t4, .int σ.nt t5⟩,
  ⟨PyData.keyHash P (Str.ofString "norm"), .str (Str.ofString "norm") t6, .ref nm⟩,
  ⟨PyData.keyHash P (Str.ofString "is_simple"), .str (Str.ofString "is_simple") t7, .bool (decide ((σ.cs.length : Int) ≤ 1))⟩] 5))
    (h3 : h.get? nm = some (tupO [.ref ct, .int σ.b t8])) (h4 : h.get? ct = some (tupO vs)) : ∃ t, ∀ p ∈ wsLed P raw x dx nm ct vs σ t, h.get? p.1 = some p.2 := by
  refine ⟨fun i => if i = 0 then t0 else if i = 1 then t1 else if i = 2 then t2 else if i = 3 then t3 else if i = 4 then t4 else if i = 5 then t5 else if i = 6 then t6 else if i = 7 then t7 else t8, ?_⟩
  exact List.forall_mem_cons.mpr ⟨h1, List.forall_mem_cons.mpr ⟨h2, List.forall_mem_cons.mpr ⟨h3, List.forall_mem_cons.mpr ⟨h4, List.forall_mem_nil _⟩⟩⟩⟩
def WsAt (P : Params) (h : Heap) (x : Addr) (σ : WsSt) : Prop :=
  ∃ raw dx nm ct vs t, (∀ p ∈ wsLed P raw x dx nm ct vs σ t, h.get? p.1 = some p.2) ∧ IntsAre vs σ.cs
theorem WsAt.keeps {P : Params} {h h' : Heap} {x : Addr} {σ : WsSt} (H : WsAt P h x σ) (hk : ∀ b o, h.get? b = some o → h'.get? b = some o) : WsAt P h' x σ :=
  let ⟨raw, dx, nm, ct, vs, t, h1, h2⟩ := H; ⟨raw, dx, nm, ct, vs, t, fun p hp => hk _ _ (h1 p hp), h2⟩

end Mine

namespace Mine
section
variable {prog : Program} {w : World} {A : Around} {E : Value → Shared → Prop} {s : Shared} {h₀ : Heap} {L : Addr} {news : List (Addr × Obj)}
theorem my_lenT {t : Addr} {vs : List Value} {cs : List Int} {Q : Value → Shared → Prop} (N : News h₀ L s.heap news) (hm : (t, tupO vs) ∈ news) (hi : IntsAre vs cs) (hz : cs.length ≤ 1000)
    (h : Q (.int (cs.length : Int) (s.toks + 1)) { s with toks := s.toks + 1 + 1 }) : wpAny (model prog w) A (call (.builtin "len") [.ref t]) Q E s :=
  ktm_lenK N hm (by rw [hi.length]; exact hz) (by rw [hi.length]) h
theorem ints_at {vs : List Value} {cs : List Int} (hi : IntsAre vs cs) {i : Nat} (h : i < cs.length) : ∃ t, vs[i]? = some (.int (cs.getD i 0) t) := by
  obtain ⟨t, e⟩ := hi.get i cs[i] (by simp [h])
  exact ⟨t, by rw [e, List.getD_eq_getElem?_getD, List.getElem?_eq_getElem h]; rfl⟩
theorem my_itemT {value slice : Expr} {t : Addr} {vs : List Value} {cs : List Int} {k : Int} {u : Tok} {Q : Value → Shared → Prop} (N : News h₀ L s.heap news) (hm : (t, tupO vs) ∈ news) (hi : IntsAre vs cs)
    (h0 : 0 ≤ k) (h1 : k < (cs.length : Int)) (h2 : k < 1000) (h : ∀ t', Q (.int (cs.getD k.toNat 0) t') s)
    (hs : subscripted slice false (.ref t) (.int k u) = operate [.ref t, .int k u] (getItem (.ref t) (.int k u)) := by with_unfolding_all rfl) :
    wpAny (model prog w) A (subscriptTail value slice (.ref t) (.int k u)) Q E s := by
  obtain ⟨t', e⟩ := ints_at hi (i := k.toNat) (by omega)
  refine item_tupleT (l := vs) (j := k.toNat) (News.isTup N hm) (by omega) (by omega) ?_ e (h t') hs
  have := hi.length
  unfold seqIndex?
  simp only [if_neg (show ¬ k < 0 by omega)]
  have : (decide (0 ≤ k) && decide (k < ((vs.length : Nat) : Int))) = true := by simp; omega
  simp [this]
theorem mul_ok_div {i ts c : Int} (h0 : 0 ≤ i) (h1 : i ≤ 1000) (h2 : 1 ≤ ts) : IntMulOk (i.fdiv ts) c := by
  have e : i.fdiv ts = i / ts := by rw [Int.fdiv_eq_ediv_of_nonneg _ (by omega)]
  have a : 0 ≤ i / ts := Int.ediv_nonneg h0 (by omega)
  have b : i / ts ≤ i := Int.ediv_le_self _ h0
  exact IntMulOk.of_left (intBits_le_64 (by rw [e]; omega) (by rw [e]; omega))
end
end Mine
end

-- part C3
section
open PySem PySem.W PySem.Calls PyProof.Rows
set_option maxRecDepth 100000
set_option maxHeartbeats 4000000
namespace Mine

def InitJ (P : Params) (x dx : Addr) (raw : Str) (pre : List Int) (m : Str → Option Value) (news : List (Addr × Obj)) : Prop :=
  ∃ (ca : Addr) (vs : List Value) (k kt : Nat) (tr : Tok) (tb tn tnt ts tt: Tok) (σ : WsSt),
  news = [(ca, listOf vs.toArray k), (x, instObj 83 dx), (dx, dictOf [⟨PyData.keyHash P (Str.ofString "raw"), .str (Str.ofString "raw") kt, .str raw tr⟩] 1)] ∧ x < ca ∧ IntsAre vs σ.cs ∧
   m (Str.ofString "self") = some (.ref x) ∧ m (Str.ofString "S") = some (.str (Str.ofString " ") ts) ∧ m (Str.ofString "T") = some (.str (Str.ofString "\t") tt) ∧ m (Str.ofString "count") = some (.ref ca) ∧ m (Str.ofString "b") = some (.int σ.b tb) ∧ m (Str.ofString "n") = some (.int σ.n tn) ∧ m (Str.ofString "nt") = some (.int σ.nt tnt) ∧ WsInv pre σ

theorem init_end {P : Params} {g h' : Heap} {L x dx : Addr} {raw : Str} {pre : List Int} {m' : Str → Option Value} {news' own : List (Addr × Obj)} {s₁ : Shared} {tk : Nat} {ca : Addr} {vs : List Value} {k kt : Nat} {tr tb tn tnt ts tt: Tok} {σ : WsSt} (F : Fr g L h' m') (N : News g L h' news')
    (h1 : (ca, listOf vs.toArray k) ∈ news') (h2 : (x, instObj 83 dx) ∈ news') (h3 : (dx, dictOf [⟨PyData.keyHash P (Str.ofString "raw"), .str (Str.ofString "raw") kt, .str raw tr⟩] 1) ∈ news') (ho : ∀ p ∈ own, p ∈ news')
    (hoff : OwnOff own [ca, x, dx]) (hlt : x < ca) (hi : IntsAre vs σ.cs) (hInv : WsInv pre σ)
    (m1 : m' (Str.ofString "self") = some (.ref x)) (m2 : m' (Str.ofString "S") = some (.str (Str.ofString " ") ts)) (m3 : m' (Str.ofString "T") = some (.str (Str.ofString "\t") tt)) (m4 : m' (Str.ofString "count") = some (.ref ca)) (m5 : m' (Str.ofString "b") = some (.int σ.b tb)) (m6 : m' (Str.ofString "n") = some (.int σ.n tn)) (m7 : m' (Str.ofString "nt") = some (.int σ.nt tnt)) :
    InvEndG g L (InitJ P x dx raw pre) own s₁ { s₁ with heap := h', toks := tk } :=
  InvEndG.intro F N ⟨ca, vs, k, kt, tr, tb, tn, tnt, ts, tt, σ, rfl, hlt, hi, m1, m2, m3, m4, m5, m6, m7, hInv⟩ hoff
    (List.forall_mem_cons.mpr ⟨h1, List.forall_mem_cons.mpr ⟨h2, List.forall_mem_cons.mpr ⟨h3, List.forall_mem_nil _⟩⟩⟩) ho
theorem off_of_lt {own : List (Addr × Obj)} {d a b c : Nat} (h : OwnOff own [a, b, c]) (hl : AllLt d own) : OwnOff own [d, b, c] := by
  have hl' : ∀ p ∈ own, @LT.lt Nat _ p.1 d := by
    clear h
    induction own with
    | nil => exact fun _ hp => nomatch hp
    | cons q r ih => exact List.forall_mem_cons.mpr ⟨hl.1, ih hl.2⟩
  intro p hp e he
  rcases List.mem_cons.mp he with rfl | he
  · exact Nat.ne_of_lt (hl' p hp)
  · exact h p hp e (.tail _ he)
theorem init_spec {w : World} {A : Around} {R : Result → Shared → Prop} {s : Shared} {mg mb : Str → Option Value} {B : Heap}
   (X : (hd.heap_39 w.params).In B) (T : TopRead lawView Loo mg mb B) (hB : ∀ b o, B.get? b = some o → s.heap.get? b = some o) (hdep : A.depth + 10 < recursionLimit) (hh : A.handled = none) 
   (x dx : Addr) (hx : s.heap.get? x = some (instObj 83 dx)) (hdx : s.heap.get? dx = some (dictOf [] 0)) (hxB : B.get? x = none) (hdB : B.get? dx = none) (hlt : dx < x)
   (raw : Str) (t : Tok) (hlen : raw.length ≤ 100) (cs : List Int) (hcs : Blank cs) (hraw : KStt.codes raw = cs ++ [120])
   (k : ∀ h' tk nm ct vs, (∃ t, ∀ p ∈ wsLed w.params raw x dx nm ct vs (wsRun cs) t, h'.get? p.1 = some p.2) → IntsAre vs (wsRun cs).cs → s.heap.get? nm = none → s.heap.get? ct = none → (∀ b o, b ≠ dx → s.heap.get? b = some o → h'.get? b = some o) → R (.ok (.ret .none)) {s with heap := h', toks := tk}) :
   codeAny (model PySem.Challenge.rw_ij0041_01.row.prog w) A (.call (.ref 38) ⟨[.ref x, .str raw t], []⟩) R s := by
  obtain ⟨hnd, dep, frs, gds, uns⟩ := A
  dsimp only at hh hdep
  subst hh
  w_on
  revert X T
  k_fill
  intro X T
  refine' enterN (B := B) (news := [(x, instObj 83 dx), (dx, dictOf [] 0)]) (binds := [(Str.ofString "self", .ref x), (Str.ofString "ws", .str raw t)]) ?kX ?klim ?kB ?knew ?kget ?ko ?kcd ?kroom ?kb ?kloc ?_ ?c1 ?c2 ?c3 ?c4
  case kX => exact X
  case ko => k_is
  case klim => exact T.nolimit
  case kB => exact hB
  case knew => exact List.forall_mem_cons.mpr ⟨hxB, List.forall_mem_cons.mpr ⟨hdB, List.forall_mem_nil _⟩⟩
  case kget => exact List.forall_mem_cons.mpr ⟨hx, List.forall_mem_cons.mpr ⟨hdx, List.forall_mem_nil _⟩⟩
  case kcd => k_is
  case kroom => show dep < _; omega
  case kb => exact BindsTo.of_eq rfl
  case kloc => exact locs rfl
  case c1 => decide
  case c2 => rfl
  case c3 => rfl
  case c4 => rfl
  intro L h g hg hBg Xg F N hltL
  have Tg := T.keeps hBg
  clear X T
  simp only [List.map_cons, List.map_nil] at hg
  k_lt hltL
  k_lt2 hlt
  try dsimp only
  try k_fold
  k_steps
  rename Fr _ _ _ _ => F
  rename News _ _ _ _ => N
  have N := news_drop2 N
  have hk := k
  clear k
  refine loop_text (InitJ w.params x dx raw) rfl F N ?_ ?_ ?_
  · refine ⟨_, [], _, _, _, _, _, _, _, _, ⟨[], 0, 0, 0⟩, rfl, ?_, .nil, rfl, rfl, rfl, rfl, rfl, rfl, rfl, wsInv_nil⟩
    refine ltN ?_
    omega
  · rintro pre post n t m₁ nx h tk own hcodes hoff ⟨ca, vs, k, kt, tr, tb, tn, tnt, ts, tt, σ, rfl, hxc, hi, h1, h2, h3, h4, h5, h6, h7, hInv⟩ F N
    have F := fr_pin (fr_pin (fr_pin (fr_pin (fr_pin (fr_pin (fr_pin F (x := Str.ofString "self") h1) (x := Str.ofString "S") h2) (x := Str.ofString "T") h3) (x := Str.ofString "count") h4) (x := Str.ofString "b") h5) (x := Str.ofString "n") h6) (x := Str.ofString "nt") h7
    simp only [List.cons_append, List.nil_append] at N
    simp only [List.map_cons, List.map_nil] at hoff
    obtain ⟨hb0, hb1, hcl⟩ := hInv.2.2
    have hlen := hi.length
    have hpl : pre.length + (post.length + 1) = raw.length := by
      have := congrArg List.length hcodes
      rw [KStt.codes_length] at this
      simpa using this.symm
    k_lt2 hxc
    k_steps
    rotate_left 3
    · rename News _ _ _ _ => N9
      have hD9 := news_ne N9 (.tail _ (.head _)) (.tail _ (.tail _ (.tail _ (.tail _ (.head _))))) (x := "tuple") (y := "dict") rfl rfl (by decide)
      k_steps
      rename Fr _ _ _ _ => F9
      rename News _ _ _ _ => N9
      have e := blank_split (hraw.symm.trans hcodes) hcs hInv.1 ⟨by have := sign_ne (c := 32) (x := " ") (by assumption) (by decide); omega, by have := sign_ne (c := 9) (x := "\t") (by assumption) (by decide); omega⟩
      have e2 := hInv.2.1
      subst e
      subst e2
      have a1 := N9 _ (.tail _ (.tail _ (.tail _ (.head _))))
      have a2 := N9 _ (.tail _ (.tail _ (.tail _ (.tail _ (.head _)))))
      have a3 := N9 _ (.head _)
      have a4 := N9 _ (.tail _ (.head _))
      have ko := keep_but hg F9
      refine hk _ _ _ _ _ (wsLed_mk a1.1 a2.1 a3.1 a4.1) hi ?_ ?_ ?_
      · exact fresh_of_hide hg a3.2.2 (not_mem2 (by omega) (by omega))
      · exact fresh_of_hide hg a4.2.2 (not_mem2 (news_neo N9 (.tail _ (.head _)) (.tail _ (.tail _ (.tail _ (.head _)))) (by nofun)) hD9)
      · intro b o hb e
        by_cases hbx : b = x
        · rw [hbx] at e ⊢
          rw [hx] at e; cases e
          exact a1.1
        · exact ko b o (not_mem2 hbx hb) e
    · rename Fr _ _ _ _ => F9
      rename News _ _ _ _ => N9
      refine init_end (σ := ⟨σ.cs, σ.b + 1, σ.n + 1, σ.nt⟩) F9 N9 (.head _) (.tail _ (.head _)) (.tail _ (.tail _ (.head _))) (fun p hp => .tail _ (.tail _ (.tail _ hp))) hoff hxc hi (wsInv_space (by assumption) hInv) rfl rfl rfl rfl rfl rfl rfl
    · rename Fr _ _ _ _ => F9
      rename News _ _ _ _ => N9
      rename IntsAre (List.set _ _ _) _ => I9
      rename _ ∧ _ ∧ _ ∧ _ ∧ _ ∧ _ => l9
      refine init_end F9 N9 (.head _) (.tail _ (.tail _ (.tail _ (.tail _ (.head _))))) (.tail _ (.tail _ (.tail _ (.tail _ (.tail _ (.head _)))))) (fun p hp => .tail _ (.tail _ (.tail _ (.tail _ (.tail _ (.tail _ hp)))))) (off_of_lt hoff l9.2.2.2.2.2) (ltN (by omega)) I9 (wsInv_tab1 (by assumption) (by assumption) hInv) rfl rfl rfl rfl rfl rfl rfl
    · rename Fr _ _ _ _ => F9
      rename News _ _ _ _ => N9
      rename IntsAre (List.set _ _ _) _ => I9
      refine init_end F9 N9 (.head _) (.tail _ (.head _)) (.tail _ (.tail _ (.head _))) (fun p hp => .tail _ (.tail _ (.tail _ hp))) hoff hxc I9 (wsInv_tab2 (by assumption) (by omega) hInv) rfl rfl rfl rfl rfl rfl rfl
  · intro m₁ nx h tk hJ F N
    exfalso
    obtain ⟨ca, vs, k, kt, tr, tb, tn, tnt, ts, tt, σ, rfl, hxc, hi, h1, h2, h3, h4, h5, h6, h7, hInv⟩ := hJ
    have := hInv.1 120 (by rw [hraw]; simp)
    omega
end Mine
end

-- part C4
section
open PySem PySem.W PySem.Calls PyProof.Rows
set_option maxRecDepth 100000
set_option maxHeartbeats 4000000
namespace Mine

def ilOf (cs : List Int) (ts : Int) (pre : List Int) : Int := pre.foldl (fun a i => a + i.fdiv ts * cs.getD i.toNat 0) 0
theorem il_start {cs : List Int} {ts : Int} : (0 : Int) = ilOf cs ts [] := rfl
theorem il_snoc {cs : List Int} {ts c i : Int} {pre : List Int} (h : c = ilOf cs ts pre) : c + i.fdiv ts * cs.getD i.toNat 0 = ilOf cs ts (pre ++ [i]) := by
  rw [h]; simp [ilOf, List.foldl_append]
def indentOf (σ : WsSt) (ts : Int) : Int := σ.b + ts * (ilOf σ.cs ts (rangeKs ts ((σ.cs.length : Int) - ts).toNat) + σ.nt)
local macro_rules | `(tactic| walk_at "call builtin:len") => `(tactic| (k_here; (with_reducible show wpAny _ _ (call (Value.builtin "len") [Value.ref _]) _ _ _); k_dflt (refine' my_lenT ?k1 ?k2 ?k3 ?k4 ?_; (case k1 => k_asm); (case k2 => k_mem); (case k3 => k_asm); (case k4 => omega))))
local macro_rules | `(tactic| walk_at "subscriptTail") => `(tactic| (k_here; (with_reducible show wpAny _ _ (subscriptTail _ _ (Value.ref _) (Value.int _ _)) _ _ _); k_dflt (refine' my_itemT ?k1 ?k2 ?k3 ?k4 ?k5 ?k6 ?_; (case k1 => k_asm); (case k2 => k_mem); (case k3 => k_asm); (case k4 => omega); (case k5 => omega); (case k6 => omega)); intro _))
local macro_rules | `(tactic| mul_fits) => `(tactic| exact mul_ok_div (by omega) (by omega) (by omega))
theorem indent_spec {w : World} {A : Around} {R : Result → Shared → Prop} {s : Shared} {mg mb : Str → Option Value} {B : Heap}
   (X : (hd.heap_39 w.params).In B) (T : TopRead lawView Loo mg mb B) (hB : ∀ b o, B.get? b = some o → s.heap.get? b = some o) (hdep : A.depth + 10 < recursionLimit) (hh : A.handled = none) 
   (raw : Str) (x dx nm ct : Addr) (vs : List Value) (σ : WsSt) (t : Nat → Tok) (hw : ∀ p ∈ wsLed w.params raw x dx nm ct vs σ t, s.heap.get? p.1 = some p.2) (hwB : ∀ p ∈ wsLed w.params raw x dx nm ct vs σ t, B.get? p.1 = none)
   (hi : IntsAre vs σ.cs) (hlen : σ.cs.length ≤ 100) (ts : Int) (u : Tok) (h1 : 1 ≤ ts) (h2 : ts ≤ 100)
   (k : ∀ h' tk t', (∀ b o, s.heap.get? b = some o → h'.get? b = some o) → R (.ok (.ret (.int (indentOf σ ts) t'))) {s with heap := h', toks := tk}) :
   codeAny (model PySem.Challenge.rw_ij0041_01.row.prog w) A (.call (.ref 52) ⟨[.ref x, .int ts u], []⟩) R s := by
  obtain ⟨hnd, dep, frs, gds, uns⟩ := A
  dsimp only at hh hdep
  subst hh
  w_on
  revert X T
  k_fill
  intro X T
  refine' enterN (B := B) (news := wsLed w.params raw x dx nm ct vs σ t) (binds := [(Str.ofString "self", .ref x), (Str.ofString "tabsize", .int ts u)]) ?kX ?klim ?kB ?knew ?kget ?ko ?kcd ?kroom ?kb ?kloc ?_ ?c1 ?c2 ?c3 ?c4
  case kX => exact X
  case ko => k_is
  case klim => exact T.nolimit
  case kB => exact hB
  case knew => exact hwB
  case kget => exact hw
  case kcd => k_is
  case kroom => show dep < _; omega
  case kb => exact BindsTo.of_eq rfl
  case kloc => exact locs rfl
  case c1 => decide
  case c2 => rfl
  case c3 => rfl
  case c4 => rfl
  intro L h g hg hBg Xg F N hltL
  have Tg := T.keeps hBg
  clear X T hltL
  unfold wsLed wsDict at N
  have hlv := hi.length
  try dsimp only
  try k_fold
  k_with "pyIter ref" => k_state (fun pre il => il = ilOf σ.cs ts pre) "il"
  k_with "state" => first | exact il_start | exact il_snoc (by assumption)
  k_steps
  rename _ = ilOf _ _ _ => hI
  rename Fr _ _ _ _ => F9
  rename News _ _ _ _ => N9
  have hk : ∀ h' tk c t', c = indentOf σ ts → (∀ b o, s.heap.get? b = some o → h'.get? b = some o) → R (.ok (.ret (.int c t'))) {s with heap := h', toks := tk} := fun h' tk c t' e q => e ▸ k h' tk t' q
  refine hk _ _ _ _ ?_ ?_
  · rw [hI]; rfl
  · exact keep_of hg hw F9 N9 (fun p hp => hp)
end Mine
end

-- part C5
section
open PySem PySem.W PySem.Calls PyProof.Rows
set_option maxRecDepth 100000
set_option maxHeartbeats 4000000
namespace Mine

def longestOf (σ : WsSt) : Int := if σ.b > (σ.cs.length : Int) - 1 then σ.b else (σ.cs.length : Int) - 1
local macro_rules | `(tactic| walk_at "call builtin:len") => `(tactic| (k_here; (with_reducible show wpAny _ _ (call (Value.builtin "len") [Value.ref _]) _ _ _); k_dflt (refine' my_lenT ?k1 ?k2 ?k3 ?k4 ?_; (case k1 => k_asm); (case k2 => k_mem); (case k3 => k_asm); (case k4 => omega))))
theorem longest_spec {w : World} {A : Around} {R : Result → Shared → Prop} {s : Shared} {mg mb : Str → Option Value} {B : Heap}
   (X : (hd.heap_39 w.params).In B) (T : TopRead lawView Loo mg mb B) (hB : ∀ b o, B.get? b = some o → s.heap.get? b = some o) (hdep : A.depth + 10 < recursionLimit) (hh : A.handled = none) 
   (raw : Str) (x dx nm ct : Addr) (vs : List Value) (σ : WsSt) (t : Nat → Tok) (hw : ∀ p ∈ wsLed w.params raw x dx nm ct vs σ t, s.heap.get? p.1 = some p.2) (hwB : ∀ p ∈ wsLed w.params raw x dx nm ct vs σ t, B.get? p.1 = none)
   (hi : IntsAre vs σ.cs) (hlen : σ.cs.length ≤ 100)
   (k : ∀ h' tk t', (∀ b o, s.heap.get? b = some o → h'.get? b = some o) → R (.ok (.ret (.int (longestOf σ) t'))) {s with heap := h', toks := tk}) :
   codeAny (model PySem.Challenge.rw_ij0041_01.row.prog w) A (.call (.ref 45) ⟨[.ref x], []⟩) R s := by
  obtain ⟨hnd, dep, frs, gds, uns⟩ := A
  dsimp only at hh hdep
  subst hh
  w_on
  revert X T
  k_fill
  intro X T
  refine' enterN (B := B) (news := wsLed w.params raw x dx nm ct vs σ t) (binds := [(Str.ofString "self", .ref x)]) ?kX ?klim ?kB ?knew ?kget ?ko ?kcd ?kroom ?kb ?kloc ?_ ?c1 ?c2 ?c3 ?c4
  case kX => exact X
  case ko => k_is
  case klim => exact T.nolimit
  case kB => exact hB
  case knew => exact hwB
  case kget => exact hw
  case kcd => k_is
  case kroom => show dep < _; omega
  case kb => exact BindsTo.of_eq rfl
  case kloc => exact locs rfl
  case c1 => decide
  case c2 => rfl
  case c3 => rfl
  case c4 => rfl
  intro L h g hg hBg Xg F N hltL
  have Tg := T.keeps hBg
  clear X T hltL
  unfold wsLed wsDict at N
  have hlv := hi.length
  try dsimp only
  try k_fold
  k_steps
  rename Fr _ _ _ _ => F9
  rename News _ _ _ _ => N9
  have hk : ∀ h' tk c t', c = longestOf σ → (∀ b o, s.heap.get? b = some o → h'.get? b = some o) → R (.ok (.ret (.int c t'))) {s with heap := h', toks := tk} := fun h' tk c t' e q => e ▸ k h' tk t' q
  refine hk _ _ _ _ ?_ ?_
  · rfl
  · exact keep_of hg hw F9 N9 (fun p hp => hp)
end Mine
end

-- part C6
section
open PySem PySem.W PySem.Calls PyProof.Rows
set_option maxRecDepth 100000
set_option maxHeartbeats 4000000
namespace Mine

section
variable {w : World} {A : Around} {E : Value → Shared → Prop} {s : Shared} {mg mb : Str → Option Value} {g : Heap} {L : Addr} {m : Str → Option Value} {news : List (Addr × Obj)} {Q : Value → Shared → Prop} {raw : Str} {x dx nm ct : Addr} {vs : List Value} {σ : WsSt} {t : Nat → Tok}
theorem wsLed_in {P : Params} (hm1 : (x, instObj 83 dx) ∈ news) (hm2 : (dx, wsDict P raw nm σ t) ∈ news) (hm3 : (nm, tupO [.ref ct, .int σ.b (t 8)]) ∈ news) (hm4 : (ct, tupO vs) ∈ news) : ∀ p ∈ wsLed P raw x dx nm ct vs σ t, p ∈ news :=
  List.forall_mem_cons.mpr ⟨hm1, List.forall_mem_cons.mpr ⟨hm2, List.forall_mem_cons.mpr ⟨hm3, List.forall_mem_cons.mpr ⟨hm4, List.forall_mem_nil _⟩⟩⟩⟩
theorem longest_use (F : Fr g L s.heap m) (N : News g L s.heap news) (X : (hd.heap_39 w.params).In g) (T : TopRead lawView Loo mg mb g) (hdep : A.depth + 10 < recursionLimit) (hh : A.handled = none)
    (hm1 : (x, instObj 83 dx) ∈ news) (hm2 : (dx, wsDict w.params raw nm σ t) ∈ news) (hm3 : (nm, tupO [.ref ct, .int σ.b (t 8)]) ∈ news) (hm4 : (ct, tupO vs) ∈ news) (hi : IntsAre vs σ.cs) (hlen : σ.cs.length ≤ 100)
    (h : ∀ h' tk t', Fr g L h' m → News g L h' news → Q (.int (longestOf σ) t') { s with heap := h', toks := tk }) : wpAny (model PySem.Challenge.rw_ij0041_01.row.prog w) A (call (.ref 45) [.ref x] []) Q E s :=
  wpAny_call (longest_spec X T F.keep hdep hh raw x dx nm ct vs σ t (fun p hp => (N p (wsLed_in hm1 hm2 hm3 hm4 p hp)).1) (fun p hp => (N p (wsLed_in hm1 hm2 hm3 hm4 p hp)).2.2) hi hlen
    fun h' tk t' hk => h h' tk t' (F.keeps hk) (News.grown N hk))
theorem indent_use (F : Fr g L s.heap m) (N : News g L s.heap news) (X : (hd.heap_39 w.params).In g) (T : TopRead lawView Loo mg mb g) (hdep : A.depth + 10 < recursionLimit) (hh : A.handled = none)
    (hm1 : (x, instObj 83 dx) ∈ news) (hm2 : (dx, wsDict w.params raw nm σ t) ∈ news) (hm3 : (nm, tupO [.ref ct, .int σ.b (t 8)]) ∈ news) (hm4 : (ct, tupO vs) ∈ news) (hi : IntsAre vs σ.cs) (hlen : σ.cs.length ≤ 100)
    {ts : Int} {u : Tok} (h1 : 1 ≤ ts) (h2 : ts ≤ 100)
    (h : ∀ h' tk t', Fr g L h' m → News g L h' news → Q (.int (indentOf σ ts) t') { s with heap := h', toks := tk }) : wpAny (model PySem.Challenge.rw_ij0041_01.row.prog w) A (call (.ref 52) [.ref x, .int ts u] []) Q E s :=
  wpAny_call (indent_spec X T F.keep hdep hh raw x dx nm ct vs σ t (fun p hp => (N p (wsLed_in hm1 hm2 hm3 hm4 p hp)).1) (fun p hp => (N p (wsLed_in hm1 hm2 hm3 hm4 p hp)).2.2) hi hlen ts u h1 h2
    fun h' tk t' hk => h h' tk t' (F.keeps hk) (News.grown N hk))
end

local macro_rules | `(tactic| walk_at "call ref") => `(tactic| (k_here; (try dsimp only [List.append_nil, List.cons_append, List.nil_append]); (with_reducible show wpAny _ _ (call (Value.ref 45) _ _) _ _ _); k_dflt (refine' longest_use ?F ?N ?X ?T ?hd ?hh ?m1 ?m2 ?m3 ?m4 ?hi ?hl ?_; (case F => k_asm); (case N => k_asm); (case X => k_asm); (case T => k_asm); (case hh => rfl); (case m1 => k_mem); (case m2 => k_mem); (case m3 => k_mem); (case m4 => k_mem); (case hi => assumption); (case hl => assumption); (case hd => ((try simp only [depth_under_make, depth_under_kw, depth_in1, depth_deeper, depth_caller]); (try dsimp only); omega))); intro h' tk' t' F' N'))
local macro_rules | `(tactic| walk_at "call ref") => `(tactic| (k_here; (try dsimp only [List.append_nil, List.cons_append, List.nil_append]); (with_reducible show wpAny _ _ (call (Value.ref 52) _ _) _ _ _); k_dflt (refine' indent_use ?F ?N ?X ?T ?hd ?hh ?m1 ?m2 ?m3 ?m4 ?hi ?hl ?h1 ?h2 ?_; (case F => k_asm); (case N => k_asm); (case X => k_asm); (case T => k_asm); (case hh => rfl); (case m1 => k_mem); (case m2 => k_mem); (case m3 => k_mem); (case m4 => k_mem); (case hi => assumption); (case hl => assumption); (case h1 => omega); (case h2 => omega); (case hd => ((try simp only [depth_under_make, depth_under_kw, depth_in1, depth_deeper, depth_caller]); (try dsimp only); omega))); intro h' tk' t' F' N'))

def runMax (σ σ2 : WsSt) : Int := if longestOf σ2 > longestOf σ then longestOf σ2 else longestOf σ
def Lower (σ σ2 : WsSt) (i : Nat) : Prop := ∀ j < i, indentOf σ (2 + (j : Int) * 1) < indentOf σ2 (2 + (j : Int) * 1)
/-- what less answers -/
def LessIs (σ σ2 : WsSt) (b : Bool) : Prop :=
  (σ.n ≥ σ2.n ∧ b = false) ∨ (σ.n < σ2.n ∧ ((σ.cs.length ≤ 1 ∧ σ2.cs.length ≤ 1 ∧ b = decide (σ.nt ≤ σ2.nt)) ∨ (¬ (σ.cs.length ≤ 1 ∧ σ2.cs.length ≤ 1) ∧ (b = true ↔ Lower σ σ2 (runMax σ σ2).toNat))))
theorem longest_le (σ : WsSt) (h1 : σ.cs.length ≤ 80) (h2 : 0 ≤ σ.b ∧ σ.b ≤ 80) : 0 ≤ longestOf σ ∧ longestOf σ ≤ 80 := by
  unfold longestOf; split <;> omega
theorem runMax_le (σ σ2 : WsSt) (h1 : σ.cs.length ≤ 80) (h2 : 0 ≤ σ.b ∧ σ.b ≤ 80) (h3 : σ2.cs.length ≤ 80) (h4 : 0 ≤ σ2.b ∧ σ2.b ≤ 80) : 0 ≤ runMax σ σ2 ∧ runMax σ σ2 ≤ 80 := by
  have := longest_le σ h1 h2
  have := longest_le σ2 h3 h4
  unfold runMax; split <;> omega
theorem lower_succ {σ σ2 : WsSt} {i : Nat} (h : Lower σ σ2 i) (hi : ¬ indentOf σ (2 + (i : Int) * 1) ≥ indentOf σ2 (2 + (i : Int) * 1)) : Lower σ σ2 (i + 1) := fun j hj => by
  rcases Nat.lt_succ_iff_lt_or_eq.mp hj with h1 | rfl
  · exact h j h1
  · omega
theorem less_ret0 {σ σ2 : WsSt} (h : σ2.n ≤ σ.n) : LessIs σ σ2 false := .inl ⟨h, rfl⟩
theorem less_ret1 {σ σ2 : WsSt} (h : ¬ σ2.n ≤ σ.n) (h1 : (σ.cs.length : Int) ≤ 1) (h2 : (σ2.cs.length : Int) ≤ 1) : LessIs σ σ2 (decide (σ.nt ≤ σ2.nt)) := .inr ⟨by omega, .inl ⟨by omega, by omega, rfl⟩⟩
theorem less_retF {σ σ2 : WsSt} (h : ¬ σ2.n ≤ σ.n) (h1 : ¬ (σ.cs.length ≤ 1 ∧ σ2.cs.length ≤ 1)) (h2 : ¬ Lower σ σ2 (runMax σ σ2).toNat) : LessIs σ σ2 false := .inr ⟨by omega, .inr ⟨h1, ⟨fun e => absurd e (by decide), fun e => absurd e h2⟩⟩⟩
theorem less_retT {σ σ2 : WsSt} (h : ¬ σ2.n ≤ σ.n) (h1 : ¬ (σ.cs.length ≤ 1 ∧ σ2.cs.length ≤ 1)) (h2 : Lower σ σ2 (runMax σ σ2).toNat) : LessIs σ σ2 true := .inr ⟨by omega, .inr ⟨h1, ⟨fun _ => h2, fun _ => rfl⟩⟩⟩
theorem lower_not {σ σ2 : WsSt} {i n : Nat} (hn : i < n) (hi : indentOf σ (2 + (i : Int) * 1) ≥ indentOf σ2 (2 + (i : Int) * 1)) : ¬ Lower σ σ2 n := fun h => by
  have := h i hn; omega

theorem less_spec {w : World} {A : Around} {R : Result → Shared → Prop} {s : Shared} {mg mb : Str → Option Value} {B : Heap}
   (X : (hd.heap_39 w.params).In B) (T : TopRead lawView Loo mg mb B) (hB : ∀ b o, B.get? b = some o → s.heap.get? b = some o) (hdep : A.depth + 20 < recursionLimit) (hh : A.handled = none) 
   (raw : Str) (x dx nm ct : Addr) (vs : List Value) (σ : WsSt) (t : Nat → Tok) (hw : ∀ p ∈ wsLed w.params raw x dx nm ct vs σ t, s.heap.get? p.1 = some p.2) (hwB : ∀ p ∈ wsLed w.params raw x dx nm ct vs σ t, B.get? p.1 = none)
   (hi : IntsAre vs σ.cs) (hlen : σ.cs.length ≤ 80) (hb : 0 ≤ σ.b ∧ σ.b ≤ 80)
   (raw2 : Str) (x2 dx2 nm2 ct2 : Addr) (vs2 : List Value) (σ2 : WsSt) (t2 : Nat → Tok) (hw2 : ∀ p ∈ wsLed w.params raw2 x2 dx2 nm2 ct2 vs2 σ2 t2, s.heap.get? p.1 = some p.2) (hwB2 : ∀ p ∈ wsLed w.params raw2 x2 dx2 nm2 ct2 vs2 σ2 t2, B.get? p.1 = none)
   (hi2 : IntsAre vs2 σ2.cs) (hlen2 : σ2.cs.length ≤ 80) (hb2 : 0 ≤ σ2.b ∧ σ2.b ≤ 80)
   (k : ∀ h' tk b, LessIs σ σ2 b → (∀ b o, s.heap.get? b = some o → h'.get? b = some o) → R (.ok (.ret (.bool b))) {s with heap := h', toks := tk}) :
   codeAny (model PySem.Challenge.rw_ij0041_01.row.prog w) A (.call (.ref 73) ⟨[.ref x, .ref x2], []⟩) R s := by
  obtain ⟨hnd, dep, frs, gds, uns⟩ := A
  dsimp only at hh hdep
  subst hh
  w_on
  revert X T
  k_fill
  intro X T
  refine' enterN (B := B) (news := wsLed w.params raw x dx nm ct vs σ t ++ wsLed w.params raw2 x2 dx2 nm2 ct2 vs2 σ2 t2) (binds := [(Str.ofString "self", .ref x), (Str.ofString "other", .ref x2)]) ?kX ?klim ?kB ?knew ?kget ?ko ?kcd ?kroom ?kb ?kloc ?_ ?c1 ?c2 ?c3 ?c4
  case kX => exact X
  case ko => k_is
  case klim => exact T.nolimit
  case kB => exact hB
  case knew => exact fun p hp => (List.mem_append.mp hp).elim (hwB p) (hwB2 p)
  case kget => exact fun p hp => (List.mem_append.mp hp).elim (hw p) (hw2 p)
  case kcd => k_is
  case kroom => show dep < _; omega
  case kb => exact BindsTo.of_eq rfl
  case kloc => exact locs rfl
  case c1 => decide
  case c2 => rfl
  case c3 => rfl
  case c4 => rfl
  intro L h g hg hBg Xg F N hltL
  have Tg := T.keeps hBg
  clear X T hltL
  unfold wsLed wsDict at N
  simp only [List.cons_append, List.nil_append] at N
  have hw12 : ∀ p ∈ wsLed w.params raw x dx nm ct vs σ t ++ wsLed w.params raw2 x2 dx2 nm2 ct2 vs2 σ2 t2, s.heap.get? p.1 = some p.2 := fun p hp => (List.mem_append.mp hp).elim (hw p) (hw2 p)
  have hlv := hi.length
  have hlv2 := hi2.length
  have hlen' : σ.cs.length ≤ 100 := by omega
  have hlen2' : σ2.cs.length ≤ 100 := by omega
  try dsimp only
  try k_fold
  k_steps
  · rename Fr _ _ _ _ => F1
    rename News _ _ _ _ => N1
    exact k _ _ _ (less_ret0 (by omega)) (keep_of hg hw12 F1 N1 (fun p hp => hp))
  · rename Fr _ _ _ _ => F1
    rename News _ _ _ _ => N1
    exact k _ _ _ (less_ret1 (by omega) (by omega) (by omega)) (keep_of hg hw12 F1 N1 (fun p hp => hp))
  iterate 2
    rename IsRange _ _ _ _ _ _ _ _ => hr
    rename Fr _ _ _ _ => F1
    rename News _ _ _ _ => N1
    have hM := runMax_le σ σ2 hlen hb hlen2 hb2
    have hsm : Builtin.Range.small 2 (runMax σ σ2 + 1 + 1) 1 = true := small_one (by omega) (by omega) (by omega) (by omega)
    have hsz : Builtin.Range.rangeSize 2 (runMax σ σ2 + 1 + 1) 1 = ((runMax σ σ2).toNat : Int) := (rangeSize_nat _ _).trans (by omega)
    have hns : ¬ (σ.cs.length ≤ 1 ∧ σ2.cs.length ≤ 1) := by omega
    have hnn : ¬ σ2.n ≤ σ.n := by omega
    refine search_range (Lower σ σ2) rfl hr hsm hsz F1 N1 (fun _ h => absurd h (Nat.not_lt_zero _)) ?_ ?_
    · intro i t h tk own hin hoff hP F N
      simp only [List.map_cons, List.map_nil] at hoff
      simp only [List.cons_append, List.nil_append] at N
      k_steps
      · rename Fr _ _ _ _ => F9
        rename News _ _ _ _ => N9
        exact k _ _ _ (less_retF hnn hns (lower_not hin (by omega))) (keep_of hg hw12 F9 N9 (fun p hp => List.mem_append_left own hp))
      · rename Fr _ _ _ _ => F9
        rename News _ _ _ _ => N9
        refine search_end F9 N9 (lower_succ hP (by omega)) hoff (fun p hp => List.mem_append_left own hp) (fun p hp => List.mem_append_right (wsLed w.params raw x dx nm ct vs σ _ ++ wsLed w.params raw2 x2 dx2 nm2 ct2 vs2 σ2 t2) hp)
    · intro u h tk hP F N
      k_steps
      rename Fr _ _ _ _ => F9
      rename News _ _ _ _ => N9
      exact k _ _ _ (less_retT hnn hns hP) (keep_of hg hw12 F9 N9 (fun p hp => hp))
end Mine
end

-- part C7
section
open PySem PySem.W PySem.Calls PyProof.Rows
set_option maxRecDepth 100000
set_option maxHeartbeats 4000000
namespace Mine

section
variable {w : World} {A : Around} {E : Value → Shared → Prop} {s : Shared} {mg mb : Str → Option Value} {g : Heap} {L : Addr} {m : Str → Option Value} {news : List (Addr × Obj)} {Q : Value → Shared → Prop}
theorem ws_make (F : Fr g L s.heap m) (N : News g L s.heap news) (X : (hd.heap_39 w.params).In g) (T : TopRead lawView Loo mg mb g) (hdep : A.depth + 20 < recursionLimit) (hh : A.handled = none)
    (hm : makesIn (hd.heap_39 w.params) 83 = true) (hi : findIn (hd.heap_39 w.params) (.ref 83) "__init__" = some (some (.ref 38))) (hf : isFn (hd.heap_39 w.params) (.ref 38) = true)
    (raw : Str) (t : Tok) (hlen : raw.length ≤ 100) (cs : List Int) (hcs : Blank cs) (hraw : KStt.codes raw = cs ++ [120])
    (h : ∀ h' tk x dx nm ct vs t', Fr g L h' m → News g L h' (wsLed w.params raw x dx nm ct vs (wsRun cs) t' ++ news) → IntsAre vs (wsRun cs).cs → (∀ p ∈ wsLed w.params raw x dx nm ct vs (wsRun cs) t', s.heap.get? p.1 = none) → Q (.ref x) { s with heap := h', toks := tk }) :
    wpAny (model PySem.Challenge.rw_ij0041_01.row.prog w) A (call (.ref 83) [.str raw t] []) Q E s := by
  obtain ⟨hp, gs, d, tk, os⟩ := s
  have X' := X.keeps F.keep
  have k1 : ∀ b o, hp.get? b = some o → ((hp.push emptyDict).push (instObj 83 hp.objs.size)).get? b = some o := fun b o e => Heap.get?_push_of_some _ (Heap.get?_push_of_some _ e)
  have fresh : ∀ a, hp.objs.size ≤ a → hp.get? a = none := fun a ha => by
    cases e : hp.get? a with
    | none => rfl
    | some o => exact absurd (Heap.lt_size e) (Nat.not_lt.mpr ha)
  have gnone : ∀ a, hp.get? a = none → g.get? a = none := fun a ha => by
    cases e : g.get? a with
    | none => rfl
    | some o => have := F.keep _ _ e; dsimp only at this; rw [ha] at this; cases this
  have hx0 := fresh (hp.objs.size + 1) (Nat.le_succ _)
  have hd0 := fresh hp.objs.size (Nat.le_refl _)
  have hxx : ((hp.push emptyDict).push (instObj 83 hp.objs.size)).get? (hp.objs.size + 1) = some (instObj 83 hp.objs.size) := by
    have := Heap.get?_push_size (o := instObj 83 hp.objs.size) (hp.push emptyDict) rfl
    rwa [Heap.size_push] at this
  have hdd : ((hp.push emptyDict).push (instObj 83 hp.objs.size)).get? hp.objs.size = some (dictOf [] 0) := Heap.get?_push_of_some _ (Heap.get?_push_size _ rfl)
  refine wpAny_call (make_core (makes_of X' hm) (looks_findIn X' hi) (fun self => bind_fn X' self (beq_iff_eq.mp hf)) (.inl rfl) ?_)
  refine init_spec (s := ⟨(hp.push emptyDict).push (instObj 83 hp.objs.size), gs, d, tk, os⟩) X T (fun b o e => k1 b o (F.keep b o e)) ?_ (show (A.under (.builtin "type.__call__" ⟨[.ref 83, .str raw t], []⟩)).handled = none from hh) (hp.objs.size + 1) hp.objs.size hxx hdd (gnone _ hx0) (gnone _ hd0) (Nat.lt_succ_self _) raw t hlen cs hcs hraw ?_
  · rw [depth_under_make]; omega
  intro h' tk' nm ct vs ⟨t', ht'⟩ hvs hnm hct hk
  have hk2 : ∀ b o, hp.get? b = some o → h'.get? b = some o := fun b o e => hk b o (Nat.ne_of_lt (Heap.lt_size e)) (k1 b o e)
  have old : ∀ a, ((hp.push emptyDict).push (instObj 83 hp.objs.size)).get? a = none → hp.get? a = none := fun a ha => by
    cases e : hp.get? a with
    | none => rfl
    | some o => rw [k1 a o e] at ha; cases ha
  have hfr : ∀ p ∈ wsLed w.params raw (hp.objs.size + 1) hp.objs.size nm ct vs (wsRun cs) t', hp.get? p.1 = none :=
    List.forall_mem_cons.mpr ⟨hx0, List.forall_mem_cons.mpr ⟨hd0, List.forall_mem_cons.mpr ⟨old _ hnm, List.forall_mem_cons.mpr ⟨old _ hct, List.forall_mem_nil _⟩⟩⟩⟩
  refine ⟨rfl, h h' tk' _ _ _ _ _ t' (F.keeps hk2) (fun p hp' => ?_) hvs hfr⟩
  rcases List.mem_append.mp hp' with h1 | h1
  · refine ⟨ht' p h1, fun e => ?_, gnone _ (hfr p h1)⟩
    obtain ⟨oL, _, _, hL, _⟩ := F.ns
    have := hfr p h1
    rw [e, show hp.get? L = some oL from hL] at this
    cases this
  · exact ⟨hk2 _ _ (N p h1).1, (N p h1).2⟩
end

open Classical in
noncomputable def lessB (σ σ2 : WsSt) : Bool := decide (LessIs σ σ2 true)
theorem lessIs_eq {σ σ2 : WsSt} {b : Bool} (h : LessIs σ σ2 b) : b = lessB σ σ2 := by
  unfold lessB
  cases b with
  | true => simp [h]
  | false =>
    have : ¬ LessIs σ σ2 true := by
      rintro (⟨h1, h2⟩ | ⟨h1, h2⟩)
      · cases h2
      · rcases h with ⟨h3, _⟩ | ⟨_, h3⟩
        · omega
        · rcases h2 with ⟨a, b, c⟩ | ⟨a, c⟩
          · rcases h3 with ⟨a', b', c'⟩ | ⟨a', c'⟩
            · rw [← c] at c'; cases c'
            · exact a' ⟨a, b⟩
          · rcases h3 with ⟨a', b', c'⟩ | ⟨a', c'⟩
            · exact a ⟨a', b'⟩
            · have := c'.mpr (c.mp rfl); cases this
    simp [this]

section
variable {w : World} {A : Around} {E : Value → Shared → Prop} {s : Shared} {mg mb : Str → Option Value} {g : Heap} {L : Addr} {m : Str → Option Value} {news : List (Addr × Obj)} {Q : Value → Shared → Prop}
theorem less_use (F : Fr g L s.heap m) (N : News g L s.heap news) (X : (hd.heap_39 w.params).In g) (T : TopRead lawView Loo mg mb g) (hdep : A.depth + 20 < recursionLimit) (hh : A.handled = none)
    {raw : Str} {x dx nm ct : Addr} {vs : List Value} {σ : WsSt} {t : Nat → Tok}
    (hw : ∀ p ∈ wsLed w.params raw x dx nm ct vs σ t, p ∈ news) (hi : IntsAre vs σ.cs) (hlen : σ.cs.length ≤ 80) (hb : 0 ≤ σ.b ∧ σ.b ≤ 80)
    {raw2 : Str} {x2 dx2 nm2 ct2 : Addr} {vs2 : List Value} {σ2 : WsSt} {t2 : Nat → Tok}
    (hw2 : ∀ p ∈ wsLed w.params raw2 x2 dx2 nm2 ct2 vs2 σ2 t2, p ∈ news) (hi2 : IntsAre vs2 σ2.cs) (hlen2 : σ2.cs.length ≤ 80) (hb2 : 0 ≤ σ2.b ∧ σ2.b ≤ 80)
    (h : ∀ h' tk, Fr g L h' m → News g L h' news → Q (.bool (lessB σ σ2)) { s with heap := h', toks := tk }) : wpAny (model PySem.Challenge.rw_ij0041_01.row.prog w) A (call (.ref 73) [.ref x, .ref x2] []) Q E s :=
  wpAny_call (less_spec X T F.keep hdep hh raw x dx nm ct vs σ t (fun p hp => (N p (hw p hp)).1) (fun p hp => (N p (hw p hp)).2.2) hi hlen hb
    raw2 x2 dx2 nm2 ct2 vs2 σ2 t2 (fun p hp => (N p (hw2 p hp)).1) (fun p hp => (N p (hw2 p hp)).2.2) hi2 hlen2 hb2
    fun h' tk b hl hk => by
      rw [lessIs_eq hl]
      exact h h' tk (F.keeps hk) (News.grown N hk))

/-- an item of a list of texts -/
theorem strs_at {vs : List Value} {ws : List Str} (hi : StrsAre vs ws) {i : Nat} (h : i < ws.length) : ∃ t, vs[i]? = some (.str (ws.getD i Str.empty) t) := by
  induction hi generalizing i with
  | nil => simp at h
  | cons y t r ih =>
    cases i with
    | zero => exact ⟨t, rfl⟩
    | succ i =>
      obtain ⟨t', e⟩ := ih (i := i) (by simpa using h)
      exact ⟨t', by simpa using e⟩
theorem my_itemS {prog : Program} {value slice : Expr} {l : Addr} {vs : List Value} {ws : List Str} {k : Int} {u : Tok} (hl : s.heap.IsList l vs.toArray) (hi : StrsAre vs ws)
    (h0 : 0 ≤ k) (h1 : k < (ws.length : Int)) (h2 : k < 1000) (h : ∀ t', Q (.str (ws.getD k.toNat Str.empty) t') s)
    (hs : subscripted slice false (.ref l) (.int k u) = operate [.ref l, .int k u] (getItem (.ref l) (.int k u)) := by with_unfolding_all rfl) :
    wpAny (model prog w) A (subscriptTail value slice (.ref l) (.int k u)) Q E s := by
  obtain ⟨t', e⟩ := strs_at hi (i := k.toNat) (by omega)
  exact tail_any hl.typeIs slot_list_getitem.lookup (wpAny_getItem_list hl h0 (by omega) (by simpa using e) (h t')) hs
theorem my_lenApp {prog : Program} {l : Addr} {us : List Value} {v : Value} {n : Nat} (N : News g L s.heap news) (hm : (l, listOf (us ++ [v]).toArray n) ∈ news) (hz : us.length ≤ 1000) (h : Q (.int ((us.length : Int) + 1) (s.toks + 1)) { s with toks := s.toks + 1 + 1 }) :
    wpAny (model prog w) A (call (.builtin "len") [.ref l]) Q E s := by
  have e : (us ++ [v]).length = us.length + 1 := by simp
  refine kst_len N hm e (by omega) ?_
  have e2 : ((us.length + 1 : Nat) : Int) = (us.length : Int) + 1 := by omega
  rw [e2]; exact h
/-- the last item of a list of the ledger -/
theorem my_last {prog : Program} {value slice : Expr} {l : Addr} {us : List Value} {v : Value} {n : Nat} {u : Tok} (N : News g L s.heap news) (hm : (l, listOf (us ++ [v]).toArray n) ∈ news) (hz : us.length ≤ 1000) (h : Q v s)
    (hs : subscripted slice false (.ref l) (.int (-1) u) = operate [.ref l, .int (-1) u] (getItem (.ref l) (.int (-1) u)) := by with_unfolding_all rfl) :
    wpAny (model prog w) A (subscriptTail value slice (.ref l) (.int (-1) u)) Q E s := by
  refine kde_neg (News.isList N hm) (by decide) (by decide) (j := us.length) ?_ (by simp) h hs
  unfold seqIndex?
  simp only [List.length_append, List.length_cons, List.length_nil]
  have e : (-1 : Int) + ((us.length + (0 + 1) : Nat) : Int) = (us.length : Int) := by omega
  simp only [if_pos (show (-1 : Int) < 0 by decide), e]
  rw [if_pos (by simp; omega)]
  simp
theorem my_pop {prog : Program} {l : Addr} {us : List Value} {y : Value} {n : Nat} {news' : List (Addr × Obj)} (F : Fr g L s.heap m) (N : News g L s.heap news) (U : Upd l (listOf (us ++ [y]).toArray n) (listOf us.toArray (n + 1)) news news') (hz : us.length ≤ 1000)
    (h : ∀ h', Fr g L h' m → News g L h' news' → Q y { s with heap := h' }) : wpAny (model prog w) A (call (.builtin "list.pop") [.ref l]) Q E s :=
  kl_pop F N (p := us) (y := y) (by rw [List.toList_toArray]; exact kpa_last y us) U (size_ok (by simp; omega)) h
end
end Mine
end

-- part C8
section
open PySem PySem.W PySem.Calls PyProof.Rows
set_option maxRecDepth 100000
set_option maxHeartbeats 4000000
namespace Mine

local macro_rules | `(tactic| k_mem) => `(tactic| assumption)
local macro_rules | `(tactic| walk_at "pyIter ref") => `(tactic| (k_here; (with_reducible show wpAny _ _ (pyIter (Value.ref _)) (fun _ _ => LoopAtV _ _ _ _ _ _ _ _ _ _ _) _ _); refine stop_here ?_))
local macro_rules | `(tactic| walk_at "exec While BoolOp cons nil") => `(tactic| (k_here; refine stop_here ?_))
local macro_rules | `(tactic| size_fits) => `(tactic| exact size_ok (by first | omega | (simp only [List.size_toArray, List.length_append, List.length_cons, List.length_nil]; omega)))
local macro_rules | `(tactic| walk_at "call builtin:len") => `(tactic| (k_here; (with_reducible show wpAny _ _ (call (Value.builtin "len") [Value.ref _]) _ _ _); k_dflt (refine' my_lenApp ?k1 ?k2 ?k3 ?_; (case k1 => k_asm); (case k2 => k_mem); (case k3 => omega))))
local macro_rules | `(tactic| walk_at "subscriptTail") => `(tactic| (k_here; (with_reducible show wpAny _ _ (subscriptTail _ _ (Value.ref _) (Value.int (-1) _)) _ _ _); k_dflt (refine' my_last ?k1 ?k2 ?k3 ?_; (case k1 => k_asm); (case k2 => k_mem); (case k3 => omega))))
local macro_rules | `(tactic| walk_at "call builtin:list.pop") => `(tactic| (k_here; (try dsimp only); (with_reducible show wpAny _ _ (call (Value.builtin "list.pop") [Value.ref _]) _ _ _); k_dflt (refine' my_pop ?k1 ?k2 ?k3 ?k4 ?_; (case k1 => k_asm); (case k2 => k_asm); (case k3 => k_upd); (case k4 => omega)); intro h' F' N'))
local macro_rules | `(tactic| k_all) => `(tactic| assumption)

def Small (n : Nat) : Prop := n ≤ 8

/-! the pile and the paths, as plain lists -/
abbrev codesAt (ls : List Str) (j : Nat) : List Int := KStt.codes (ls.getD j Str.empty)
noncomputable def ltB (ls : List Str) (j i : Nat) : Bool := lessB (wsRun (codesAt ls j)) (wsRun (codesAt ls i))
noncomputable def popTo (ls : List Str) (i : Nat) (st : List Nat) : List Nat := st.dropWhile fun j => !ltB ls j i
noncomputable def stAt (ls : List Str) : Nat → List Nat
  | 0 => []
  | i + 1 => i :: popTo ls i (stAt ls i)
def slashes (n : Int) : Str := Txt.mul (Str.ofString "/") ((n.fdiv 16).fmod 3 + 1)
def letter (i : Nat) : Str := { cps := #[(97 + (i : Int)).toNat] }
def mkPath (ns : List Int) (i : Nat) (st : List Nat) (ps : List Str) : Str := match st with
  | [] => letter i
  | j :: _ => ps.getD j Str.empty ++ slashes (ns.getD i 0) ++ letter i
noncomputable def psAt (ls : List Str) (ns : List Int) : Nat → List Str
  | 0 => []
  | i + 1 => psAt ls ns i ++ [mkPath ns i (popTo ls i (stAt ls i)) (psAt ls ns i)]

/-- a Whitespace among the ledger's entries -/
def WsIn (P : Params) (rest : List (Addr × Obj)) (x : Addr) (cs : List Int) : Prop :=
  ∃ raw dx nm ct vs t, (∀ p ∈ wsLed P raw x dx nm ct vs (wsRun cs) t, p ∈ rest) ∧ IntsAre vs (wsRun cs).cs
inductive PileAre (P : Params) (rest : List (Addr × Obj)) (ls ps : List Str) : List Nat → List Value → Prop
  | nil : PileAre P rest ls ps [] []
  | cons {st qv j t x tk} : PileAre P rest ls ps st qv → j < ps.length → (t, tupO [.ref x, .str (ps.getD j Str.empty) tk]) ∈ rest → WsIn P rest x (codesAt ls j) → PileAre P rest ls ps (j :: st) (qv ++ [.ref t])

theorem WsIn.mono {P : Params} {rest rest' : List (Addr × Obj)} {x : Addr} {cs : List Int} (h : WsIn P rest x cs) (hs : ∀ p ∈ rest, p ∈ rest') : WsIn P rest' x cs :=
  let ⟨raw, dx, nm, ct, vs, t, h1, h2⟩ := h; ⟨raw, dx, nm, ct, vs, t, fun p hp => hs p (h1 p hp), h2⟩
theorem PileAre.mono {P : Params} {rest rest' : List (Addr × Obj)} {ls ps : List Str} {st : List Nat} {qv : List Value} (h : PileAre P rest ls ps st qv) (hs : ∀ p ∈ rest, p ∈ rest') : PileAre P rest' ls ps st qv := by
  induction h with
  | nil => exact .nil
  | cons _ hj ht hw ih => exact .cons ih hj (hs _ ht) (hw.mono hs)
theorem PileAre.length {P : Params} {rest : List (Addr × Obj)} {ls ps : List Str} {st : List Nat} {qv : List Value} (h : PileAre P rest ls ps st qv) : qv.length = st.length := by
  induction h with
  | nil => rfl
  | cons _ _ _ _ ih => simp [ih]
theorem popTo_nil (ls : List Str) (i : Nat) : popTo ls i [] = [] := rfl
theorem popTo_stop {ls : List Str} {i j : Nat} {st : List Nat} (h : ltB ls j i = true) : popTo ls i (j :: st) = j :: st := by simp [popTo, List.dropWhile, h]
theorem popTo_go {ls : List Str} {i j : Nat} {st : List Nat} (h : ltB ls j i = false) : popTo ls i (j :: st) = popTo ls i st := by simp [popTo, List.dropWhile, h]

theorem stAt_length (ls : List Str) : ∀ i, (stAt ls i).length ≤ i
  | 0 => Nat.le_refl _
  | i + 1 => Nat.succ_le_succ (Nat.le_trans (List.dropWhile_sublist _).length_le (stAt_length ls i))

theorem psAt_length (ls : List Str) (ns : List Int) : ∀ i, (psAt ls ns i).length = i
  | 0 => rfl
  | i + 1 => by rw [psAt, List.length_append, psAt_length ls ns i]; rfl
theorem slashes_length (n : Int) : (slashes n).length ≤ 3 := by
  unfold slashes
  refine len_mul_one (y := Str.ofString "/") (c := 47) (by decide) ?_
  have := Int.fmod_lt_of_pos (n.fdiv 16) (show (0 : Int) < 3 by decide)
  omega
theorem getD_le {ps : List Str} {k : Nat} (h : ∀ p ∈ ps, p.length ≤ k) (j : Nat) : (ps.getD j Str.empty).length ≤ k := by
  rw [List.getD_eq_getElem?_getD]
  cases e : ps[j]? with
  | none => exact Nat.zero_le _
  | some p => exact h p (List.mem_of_getElem? e)
theorem mkPath_length {ns : List Int} {i : Nat} {st : List Nat} {ps : List Str} {k : Nat} (h : ∀ p ∈ ps, p.length ≤ k) : (mkPath ns i st ps).length ≤ k + 4 := by
  have hl : (letter i).length = 1 := rfl
  cases st with
  | nil => show (letter i).length ≤ _; omega
  | cons j r =>
    show (ps.getD j Str.empty ++ slashes (ns.getD i 0) ++ letter i).length ≤ _
    rw [Str.length_append, Str.length_append]
    have := getD_le h j
    have := slashes_length (ns.getD i 0)
    omega
theorem psAt_le (ls : List Str) (ns : List Int) : ∀ i, ∀ p ∈ psAt ls ns i, p.length ≤ 4 * i
  | 0 => fun _ h => nomatch h
  | i + 1 => fun p hp => by
    rcases List.mem_append.mp hp with h | h
    · have := psAt_le ls ns i p h; omega
    · rw [List.mem_singleton.mp h]
      have := mkPath_length (ns := ns) (i := i) (st := popTo ls i (stAt ls i)) (psAt_le ls ns i)
      omega
theorem lead_bounds {ls : List Str} (hln : ∀ x ∈ ls, x.length ≤ 60 ∧ Blank (KStt.codes x)) {j : Nat} (hj : j < ls.length) : (wsRun (codesAt ls j)).cs.length ≤ 80 ∧ 0 ≤ (wsRun (codesAt ls j)).b ∧ (wsRun (codesAt ls j)).b ≤ 80 := by
  have hm : ls.getD j Str.empty ∈ ls := by
    rw [List.getD_eq_getElem?_getD, List.getElem?_eq_getElem hj]; exact List.getElem_mem hj
  exact wsRun_bounds (hln _ hm).2 (by rw [KStt.codes_length]; exact (hln _ hm).1)

def PathsJ (P : Params) (nA lA pA qA : Addr) (ls : List Str) (ns : List Int) (i : Nat) (m : Str → Option Value) (nx : List (Addr × Obj)) : Prop :=
  ∃ (pv qv : List Value) (k1 k2 : Nat) (rest : List (Addr × Obj)),
    nx = (pA, listOf pv.toArray k1) :: (qA, listOf qv.toArray k2) :: rest ∧ OwnOff rest [pA, qA] ∧ StrsAre pv (psAt ls ns i) ∧ PileAre P rest ls (psAt ls ns i) (stAt ls i) qv ∧
    m (Str.ofString "numbers") = some (.ref nA) ∧ m (Str.ofString "leads") = some (.ref lA) ∧ m (Str.ofString "paths") = some (.ref pA) ∧ m (Str.ofString "pile") = some (.ref qA)

theorem PileAre.more {P : Params} {rest : List (Addr × Obj)} {ls ps : List Str} {st : List Nat} {qv : List Value} (p : Str) (h : PileAre P rest ls ps st qv) : PileAre P rest ls (ps ++ [p]) st qv := by
  induction h with
  | nil => exact .nil
  | @cons st qv j t x tk _ hj ht hw ih =>
    refine .cons ih (by simp; omega) (tk := tk) ?_ hw
    have e : (ps ++ [p]).getD j Str.empty = ps.getD j Str.empty := by
      rw [List.getD_eq_getElem?_getD, List.getD_eq_getElem?_getD, List.getElem?_append_left hj]
    rw [e]; exact ht
theorem StrsAre.snoc {us : List Value} {ws : List Str} {x : Str} {t : Tok} (h : StrsAre us ws) : StrsAre (us ++ [.str x t]) (ws ++ [x]) := h.append' (.cons _ _ .nil)

theorem paths_end {P : Params} {g h' : Heap} {L nA lA pA qA D x : Addr} {ls : List Str} {ns : List Int} {i : Nat} {m' : Str → Option Value} {news' own restA rest2 : List (Addr × Obj)} {s₁ : Shared} {tk : Nat} {pv qv : List Value} {ap aq : Array Value} {k1 k2 : Nat} {path : Str} {tp td : Tok} {st : List Nat}
    (F : Fr g L h' m') (N : News g L h' news') (hp : (pA, listOf ap k1) ∈ news') (hq : (qA, listOf aq k2) ∈ news') (hD : (D, tupO [Value.ref x, Value.str path td]) ∈ news') (hr : ∀ p ∈ rest2, p ∈ news')
    (ea : ap = (pv ++ [Value.str path tp]).toArray) (eq : aq = (qv ++ [Value.ref D]).toArray)
    (hA2 : ∀ p ∈ restA, p ∈ rest2) (hown : ∀ p ∈ own, p ∈ rest2) (hro : OwnOff rest2 [pA, qA]) (hoA : OwnOff own (restA.map (·.1))) (hDn : @LT.lt Nat _ pA D ∧ @LT.lt Nat _ qA D ∧ AllLt D rest2)
    (hpv : StrsAre pv (psAt ls ns i)) (hqv : PileAre P restA ls (psAt ls ns i) st qv) (hpop : popTo ls i (stAt ls i) = st) (hpath : mkPath ns i st (psAt ls ns i) = path) (hwx : WsIn P restA x (codesAt ls i))
    (m1 : m' (Str.ofString "numbers") = some (.ref nA)) (m2 : m' (Str.ofString "leads") = some (.ref lA)) (m3 : m' (Str.ofString "paths") = some (.ref pA)) (m4 : m' (Str.ofString "pile") = some (.ref qA)) :
    InvEndG g L (PathsJ P nA lA pA qA ls ns (i + 1)) own s₁ { s₁ with heap := h', toks := tk } := by
  have hlt : ∀ p ∈ rest2, @LT.lt Nat _ p.1 D := by
    have := hDn.2.2
    clear hA2 hown hro hr
    induction rest2 with
    | nil => exact fun _ hp => nomatch hp
    | cons q r ih => exact List.forall_mem_cons.mpr ⟨this.1, ih ⟨hDn.1, hDn.2.1, this.2⟩ this.2⟩
  have e1 : psAt ls ns (i + 1) = psAt ls ns i ++ [path] := by rw [psAt, hpop, hpath]
  have e2 : stAt ls (i + 1) = i :: st := by rw [stAt, hpop]
  have e3 : (psAt ls ns i ++ [path]).getD i Str.empty = path := by
    rw [List.getD_eq_getElem?_getD, List.getElem?_append_right (by rw [psAt_length]; exact Nat.le_refl _), psAt_length, Nat.sub_self]; rfl
  subst ea eq
  refine InvEndG.intro F N (nx := (pA, listOf (pv ++ [Value.str path tp]).toArray k1) :: (qA, listOf (qv ++ [Value.ref D]).toArray k2) :: (restA ++ [(D, tupO [Value.ref x, Value.str path td])])) ⟨_, _, k1, k2, _, rfl, ?_, ?_, ?_, m1, m2, m3, m4⟩ ?_ ?_ (fun p h => hr p (hown p h))
  · intro p h b hb
    rcases List.mem_append.mp h with h | h
    · exact hro p (hA2 p h) b hb
    · rw [List.mem_singleton.mp h]
      rcases List.mem_cons.mp hb with rfl | hb
      · exact Nat.ne_of_gt hDn.1
      · rw [List.mem_singleton.mp hb]; exact Nat.ne_of_gt hDn.2.1
  · rw [e1]; exact StrsAre.snoc hpv
  · rw [e1, e2]
    refine .cons ((hqv.mono fun p h => List.mem_append_left _ h).more path) (by rw [List.length_append, psAt_length]; exact Nat.lt_succ_self _) (tk := td) (x := x) ?_ (hwx.mono fun p h => List.mem_append_left _ h)
    rw [e3]; exact List.mem_append_right _ (.head _)
  · intro p h b hb
    simp only [List.map_cons, List.map_append, List.map_nil] at hb
    rcases List.mem_cons.mp hb with rfl | hb
    · exact hro p (hown p h) _ (.head _)
    · rcases List.mem_cons.mp hb with rfl | hb
      · exact hro p (hown p h) _ (.tail _ (.head _))
      · rcases List.mem_append.mp hb with hb | hb
        · exact hoA p h b hb
        · rw [List.mem_singleton.mp hb]; exact Nat.ne_of_lt (hlt p (hown p h))
  · intro p h
    rcases List.mem_cons.mp h with rfl | h
    · exact hp
    · rcases List.mem_cons.mp h with rfl | h
      · exact hq
      · rcases List.mem_append.mp h with h | h
        · exact hr p (hA2 p h)
        · rw [List.mem_singleton.mp h]; exact hD

theorem codes_x (a : Str) : KStt.codes (a ++ Str.ofString "x") = KStt.codes a ++ [120] := by
  unfold KStt.codes
  rw [Str.cps_append, Array.toList_append, List.map_append]
  rfl

theorem paths_spec {w : World} {A : Around} {R : Result → Shared → Prop} {s : Shared} {mg mb : Str → Option Value}
   (X : (hd.heap_39 w.params).In s.heap) (T : TopRead lawView Loo mg mb s.heap) (hdep : A.depth + 40 < recursionLimit) (hh : A.handled = none) 
   (nA lA : Addr) (nv lv : List Value) (ns : List Int) (ls : List Str) (hn : s.heap.IsList nA nv.toArray) (hni : IntsAre nv ns) (hl : s.heap.IsList lA lv.toArray) (hls : StrsAre lv ls)
   (hlen : ls.length = ns.length) (hmax : Small ns.length) (hln : ∀ x ∈ ls, x.length ≤ 60 ∧ Blank (KStt.codes x))
   (k : ∀ h' tk o pv n, (∀ b o, s.heap.get? b = some o → h'.get? b = some o) → s.heap.get? o = none → h'.get? o = some (listOf pv.toArray n) → StrsAre pv (psAt ls ns ls.length) → R (.ok (.ret (.ref o))) {s with heap := h', toks := tk}) :
   codeAny (model PySem.Challenge.rw_ij0041_01.row.prog w) A (.call (.ref 190) ⟨[.ref nA, .ref lA], []⟩) R s := by
  obtain ⟨hnd, dep, frs, gds, uns⟩ := A
  dsimp only at hh hdep
  subst hh
  w_on
  revert X T
  k_fill
  intro X T
  refine' enter (binds := [(Str.ofString "numbers", .ref nA), (Str.ofString "leads", .ref lA)]) ?kX ?klim ?ko ?kcd ?kroom ?kb ?kloc ?_ ?c1 ?c2 ?c3 ?c4
  case kX => exact X
  case ko => k_is
  case klim => exact T.nolimit
  case kcd => k_is
  case kroom => show dep < _; omega
  case kb => exact BindsTo.of_eq rfl
  case kloc => exact locs rfl
  case c1 => decide
  case c2 => rfl
  case c3 => rfl
  case c4 => rfl
  intro L h F N
  have hlv := hls.length
  have hlb : ls.length ≤ 1000 := by unfold Small at hmax; omega
  try dsimp only
  try k_fold
  k_steps
  unfold Stop
  rename IsRange _ _ _ _ _ _ _ _ => hr
  rename Fr _ _ _ _ => F1
  rename News _ _ _ _ => N1
  rename_i pA _ _ qA _ _ dA _ _ _ _ _ _ _ _ _ _ _ _ _
  have hsm : Builtin.Range.small 0 (ls.length : Int) 1 = true := small_one (by omega) (by omega) (by omega) (by unfold Small at hmax; omega)
  have hsz : Builtin.Range.rangeSize 0 (ls.length : Int) 1 = (ls.length : Int) := (rangeSize_nat _ _).trans (by omega)
  have N1 := news_sub N1 (fun p hp => .tail _ hp)
  refine loop_range (PathsJ w.params nA lA _ _ ls ns) rfl hr hsm hsz F1 (news_sub N1 (l' := [(_, listOf [].toArray 0), (_, listOf [].toArray 0)]) (List.forall_mem_cons.mpr ⟨.tail _ (.head _), List.forall_mem_cons.mpr ⟨.head _, List.forall_mem_nil _⟩⟩)) ⟨[], [], 0, 0, [], rfl, fun _ h => (nomatch h), .nil, .nil, rfl, rfl, rfl, rfl⟩ ?_ ?_
  · rintro i t m₁ nx h tk own hin hoff ⟨pv, qv, k1, k2, rest, rfl, hro, hpv, hqv, h1, h2, h3, h4⟩ F N
    have F := fr_pin (fr_pin (fr_pin (fr_pin F (x := Str.ofString "numbers") h1) (x := Str.ofString "leads") h2) (x := Str.ofString "paths") h3) (x := Str.ofString "pile") h4
    have hpvl := hpv.length
    have hpvK : True → StrsAre pv (psAt ls ns i) := fun _ => hpv
    have ei : (0 : Int) + (i : Int) * 1 = (i : Int) := by omega
    rw [ei] at F
    simp only [List.cons_append, List.nil_append] at N
    simp only [List.map_cons, List.map_nil] at hoff
    generalize hrest : rest ++ own = rest' at N
    have hro' : OwnOff rest' [_, _] := fun p hp => (List.mem_append.mp (hrest ▸ hp)).elim (hro p) fun h b hb => hoff p h b (by rcases List.mem_cons.mp hb with rfl | hb; exact .head _; rw [List.mem_singleton.mp hb]; exact .tail _ (.head _))
    have hmemi : ls.getD (i : Int).toNat Str.empty ∈ ls := by
      rw [Int.toNat_natCast, List.getD_eq_getElem?_getD, List.getElem?_eq_getElem hin]; exact List.getElem_mem hin
    have hx0 := (hln _ hmemi).1
    have hx2 := (hln _ hmemi).2
    k_steps
    rename Fr _ _ _ _ => F2
    rename News _ _ _ _ => N2
    refine ws_make F2 N2 X T ?_ rfl (by k_is) (by k_is) (by k_is) _ _ ?_ (KStt.codes (ls.getD (i : Int).toNat Str.empty)) hx2 ?_ ?_
    · simp only [depth_deeper]; omega
    · rw [Str.length_append]
      have : (Str.ofString "x").length = 1 := by decide
      omega
    · exact codes_x _
    intro h2 tk2 x dx nm ct vs t' F N hvs hfr
    have hwx : WsIn w.params (wsLed w.params (ls.getD (i : Int).toNat Str.empty ++ Str.ofString "x") x dx nm ct vs (wsRun (KStt.codes (ls.getD (i : Int).toNat Str.empty))) t' ++ rest) x (codesAt ls i) := ⟨_, dx, nm, ct, vs, t', fun p hp => List.mem_append_left _ hp, hvs⟩
    generalize hled : wsLed w.params (ls.getD (i : Int).toNat Str.empty ++ Str.ofString "x") x dx nm ct vs (wsRun (KStt.codes (ls.getD (i : Int).toNat Str.empty))) t' = led at N hfr hwx
    have hro2 : OwnOff (led ++ rest') [pA, qA] := fun p hp => (List.mem_append.mp hp).elim (fun h b hb e => by
      have h0 := hfr p h
      rcases List.mem_cons.mp hb with rfl | hb
      · have := (N2 _ (.head _)).1
        rw [e] at h0
        exact absurd (h0.symm.trans this) (by nofun)
      · rw [List.mem_singleton.mp hb] at e
        have := (N2 _ (.tail _ (.head _))).1
        rw [e] at h0
        exact absurd (h0.symm.trans this) (by nofun)) (hro' p)
    have hoA : OwnOff own ((led ++ rest).map (·.1)) := fun p hp b hb => by
      rw [List.map_append] at hb
      rcases List.mem_append.mp hb with hb | hb
      · intro e
        obtain ⟨q, hq, hqe⟩ := List.mem_map.mp hb
        have h0 := hfr q hq
        have h1 := (N2 p (.tail _ (.tail _ (hrest ▸ List.mem_append_right _ hp)))).1
        rw [hqe, ← e] at h0
        exact absurd (h0.symm.trans h1) (by nofun)
      · exact hoff p hp b (.tail _ (.tail _ hb))
    clear N2 F2
    have N3 := news_sub N (l' := (pA, listOf pv.toArray k1) :: (qA, listOf qv.toArray k2) :: (led ++ rest')) (fun p hp => by
      rcases List.mem_cons.mp hp with rfl | hp
      · exact List.mem_append_right _ (.head _)
      · rcases List.mem_cons.mp hp with rfl | hp
        · exact List.mem_append_right _ (.tail _ (.head _))
        · exact (List.mem_append.mp hp).elim (fun h => List.mem_append_left _ h) fun h => List.mem_append_right _ (.tail _ (.tail _ h)))
    clear N
    have hq2 : PileAre w.params (led ++ rest) ls (psAt ls ns i) (stAt ls i) qv := hqv.mono fun p hp => List.mem_append_right _ hp
    have hA2 : ∀ p ∈ led ++ rest, p ∈ led ++ rest' := fun p hp => (List.mem_append.mp hp).elim (fun h => List.mem_append_left _ h) fun h => List.mem_append_right _ (hrest ▸ List.mem_append_left _ h)
    have hsub : ∀ p ∈ own, p ∈ led ++ rest' := fun p hp => List.mem_append_right _ (hrest ▸ List.mem_append_right _ hp)
    generalize hr2 : led ++ rest' = rest2 at N3 hro2 hA2 hsub
    generalize hrA : led ++ rest = restA at hwx hq2 hA2 hoA
    clear hr2 hled hfr hrest hro' hqv hrA
    k_steps
    rename Fr _ _ _ _ => F3
    rename News _ _ _ _ => N3
    unfold Stop
    obtain ⟨M, hM, F3⟩ := fr_gen F3
    have hsl := stAt_length ls i
    have hi8 : i < 8 := by unfold Small at hmax; omega
    have hpsl := psAt_length ls ns i
    obtain ⟨rawx, dxx, nmx, ctx, vsx, tx, hwx1, hix⟩ := id hwx
    refine while_by (fun (st : List Nat) h => ∃ qv k2, PileAre w.params restA ls (psAt ls ns i) st qv ∧ st.length ≤ 8 ∧ popTo ls i (stAt ls i) = popTo ls i st ∧ Fr s.heap L h M ∧ News s.heap L h ((pA, listOf pv.toArray k1) :: (qA, listOf qv.toArray k2) :: rest2)) List.length (stAt ls i) (by first | passes_own | with_unfolding_all passes_own) ⟨qv, k2, hq2, by omega, rfl, F3, N3⟩ ?_
    clear F3 N3 hq2
    rintro st h3 tk3 ⟨qv, k2, hq, hst8, hpop, F, N⟩
    rw [hM] at F
    cases hq with
    | nil =>
      k_steps
      rename Fr _ _ _ _ => F9
      rename News _ _ _ _ => N9
      rename _ ∧ _ ∧ AllLt _ _ => l9
      refine paths_end F9 N9 (.tail _ (.head _)) (.tail _ (.tail _ (.head _))) (.head _) (fun p hp => .tail _ (.tail _ (.tail _ hp))) (List.push_toArray _ _) rfl hA2 hsub hro2 hoA l9 (hpvK trivial) .nil hpop rfl hwx rfl rfl rfl rfl
    | @cons st qv j ta xa tka hq hj hta hwa =>
      have hwa0 := hwa
      obtain ⟨raw1, dx1, nm1, ct1, vs1, t1, hw1, hi1⟩ := hwa
      have e1 := hA2 _ (hw1 _ (.head _))
      have e2 := hA2 _ (hw1 _ (.tail _ (.head _)))
      have hta0 := hta
      have hta := hA2 _ hta
      unfold wsDict at e2
      have hql := hq.length
      have hql2 : qv.length ≤ 8 := by have := hst8; simp only [List.length_cons] at this; omega
      have hjl : j < ls.length := by omega
      have b1 := lead_bounds hln hjl
      have hpj : ((psAt ls ns i).getD j Str.empty).length ≤ 32 := Nat.le_trans (getD_le (psAt_le ls ns i) j) (by omega)
      have b2 := lead_bounds hln hin
      have hl1 : ({ cps := #[(97 + (i : Int)).toNat] } : Str).length ≤ 1 := Nat.le_refl 1
      k_steps
      rename Fr _ _ _ _ => F4
      rename News _ _ _ _ => N4
      refine less_use F4 N4 X T ?_ rfl (fun p hp => .tail _ (.tail _ (hA2 _ (hw1 p hp)))) hi1 b1.1 b1.2 (fun p hp => .tail _ (.tail _ (hA2 _ (hwx1 p hp)))) hix b2.1 b2.2 ?_
      · simp only [depth_deeper]; omega
      intro h5 tk5 F5 N5
      clear F4 N4
      cases hb : lessB (wsRun (codesAt ls j)) (wsRun (codesAt ls i)) with
      | true =>
        k_steps
        rename Fr _ _ _ _ => F9
        rename News _ _ _ _ => N9
        rename _ ∧ _ ∧ AllLt _ _ => l9
        refine paths_end F9 N9 (.tail _ (.head _)) (.tail _ (.tail _ (.head _))) (.head _) (fun p hp => .tail _ (.tail _ (.tail _ hp))) (List.push_toArray _ _) (List.push_toArray _ _) hA2 hsub hro2 hoA l9 (hpvK trivial) (.cons hq hj hta0 hwa0) (hpop.trans (popTo_stop hb)) rfl hwx rfl rfl rfl rfl
      | false =>
        k_steps
        rename Fr _ _ _ _ => F9
        rename News _ _ _ _ => N9
        refine ⟨rfl, st, _, _, rfl, Nat.lt_succ_self _, qv, _, hq, ?_, hpop.trans (popTo_go hb), by rw [hM]; exact F9, N9⟩
        simp only [List.length_cons] at hst8; omega
  · intro m₁ nx h tk ⟨pv, qv, k1, k2, rest, hnx, hro, hpv, hqv, h1, h2, h3, h4⟩ F N
    subst hnx
    have F := fr_pin F (x := Str.ofString "paths") h3
    have hpvK : True → StrsAre pv (psAt ls ns ls.length) := fun _ => hpv
    k_steps
    rename Fr _ _ _ _ => F9
    rename News _ _ _ _ => N9
    exact k _ _ _ _ _ F9.keep (N9 _ (.head _)).2.2 (N9 _ (.head _)).1 (hpvK trivial)
end Mine
end

-- part C1
section
open PySem PySem.W PySem.Calls PyProof.Rows
set_option maxRecDepth 100000
set_option maxHeartbeats 4000000
namespace Mine

def colStep (size : Int) (c : Int) (x : Int) : Int := if x = 9 then c + (size - c % size) else c + 1
def colOf (size : Int) (cs : List Int) : Int := cs.foldl (colStep size) 0

theorem sign_eq_tab {n : Nat} (h : (({ cps := #[n] } : Str) == Str.ofString "\t") = true) : n = 9 := by
  have := eq_of_beq h
  have h2 : Str.ofString "\t" = { cps := #[9] } := by decide
  rw [h2] at this
  simpa using this
theorem sign_ne_tab {n : Nat} (h : ¬ (({ cps := #[n] } : Str) == Str.ofString "\t") = true) : n ≠ 9 := by
  rintro rfl
  exact h (by decide)

theorem col_tab {size c : Int} {pre : List Int} {n : Nat} (hs : 1 ≤ size) (a : (({ cps := #[n] } : Str) == Str.ofString "\t") = true) (h : c = colOf size pre) :
    c + (size - c.fmod size) = colOf size (pre ++ [(n : Int)]) := by
  have := sign_eq_tab a
  subst this
  subst h
  simp only [colOf, List.foldl_append, List.foldl_cons, List.foldl_nil, colStep]
  rw [if_pos (by rfl), Int.fmod_eq_emod_of_nonneg _ (by omega)]
theorem col_one {size c : Int} {pre : List Int} {n : Nat} (a : (({ cps := #[n] } : Str) == Str.ofString "\t") = false) (h : c = colOf size pre) :
    c + 1 = colOf size (pre ++ [(n : Int)]) := by
  have := sign_ne_tab (by rw [a]; exact Bool.false_ne_true)
  subst h
  simp only [colOf, List.foldl_append, List.foldl_cons, List.foldl_nil, colStep]
  rw [if_neg (by omega)]

theorem column_spec {w : World} {A : Around} {R : Result → Shared → Prop} {s : Shared} {mg mb : Str → Option Value}
   (X : (hd.heap_39 w.params).In s.heap) (T : TopRead lawView (looseW lawView [Str.ofString "Whitespace", Str.ofString "islice"]) mg mb s.heap) (hdep : A.depth + 10 < recursionLimit) (hh : A.handled = none) 
   (lead : Str) (t u : Tok) (size : Int) (hs : 1 ≤ size) (hs2 : size ≤ 100) (hl : lead.length ≤ 100)
   (k : ∀ h' tk t', (∀ b o, s.heap.get? b = some o → h'.get? b = some o) → R (.ok (.ret (.int (colOf size (KStt.codes lead)) t'))) {s with heap := h', toks := tk}) :
   codeAny (model PySem.Challenge.rw_ij0041_01.row.prog w) A (.call (.ref 197) ⟨[.str lead t, .int size u], []⟩) R s := by
  obtain ⟨hnd, dep, frs, gds, uns⟩ := A
  dsimp only at hh hdep
  subst hh
  w_on
  revert X T
  k_fill
  intro X T
  refine' enter (binds := [(Str.ofString "lead", .str lead t), (Str.ofString "size", .int size u)]) ?kX ?klim ?ko ?kcd ?kroom ?kb ?kloc ?_ ?c1 ?c2 ?c3 ?c4
  case kX => exact X
  case ko => k_is
  case klim => exact T.nolimit
  case kcd => k_is
  case kroom => show dep < _; omega
  case kb => exact BindsTo.of_eq rfl
  case kloc => exact locs rfl
  case c1 => decide
  case c2 => rfl
  case c3 => rfl
  case c4 => rfl
  intro L h F N
  try dsimp only
  try k_fold
  k_with "pyIter str" => k_state (fun pre c => c = colOf size pre) "column"
  k_with "state" => first | exact col_tab hs (by assumption) (by assumption) | exact col_one (by assumption) (by assumption) | exact rfl
  k_steps
  have hk : ∀ h' tk c t', c = colOf size (KStt.codes lead) → (∀ b o, s.heap.get? b = some o → h'.get? b = some o) → R (.ok (.ret (.int c t'))) {s with heap := h', toks := tk} := fun h' tk c t' e q => e ▸ k h' tk t' q
  refine hk _ _ _ _ (by assumption) ?_
  exact Fr.keep (by assumption)
end Mine
end

-- part C9
section
open PySem PySem.W PySem.Calls PyProof.Rows
set_option maxRecDepth 100000
set_option maxHeartbeats 4000000
namespace Mine

section
variable {prog : Program} {w : World} {A : Around} {E : Value → Shared → Prop} {s : Shared} {h₀ : Heap} {L qA a : Addr} {m : Str → Option Value} {news : List (Addr × Obj)} {Q : Value → Shared → Prop}

/-- the items are two-int tuples; these are their places -/
def PlacesIn (h : Heap) : List Value → List Int → Prop
  | [], [] => True
  | v :: qv, i :: idx => (∃ t c tc tp, v = .ref t ∧ h.get? t = some (tupO [.int c tc, .int i tp])) ∧ PlacesIn h qv idx
  | _, _ => False
def PlaceOf (h : Heap) (v y : Value) : Prop := ∃ t c tc i tp, v = .ref t ∧ h.get? t = some (tupO [.int c tc, .int i tp]) ∧ y = .int i tp
theorem places_ints {h : Heap} : ∀ {qv ys : List Value} {idx : List Int}, Paired (PlaceOf h) qv ys → PlacesIn h qv idx → IntsAre ys idx
  | [], [], [], _, _ => .nil
  | v :: qv, y :: ys, i :: idx, .cons hv hp, ⟨⟨t, c, tc, tp, e1, e2⟩, hr⟩ => by
    obtain ⟨t', c', tc', i', tp', e3, e4, e5⟩ := hv
    rw [e1] at e3; cases e3
    rw [e2] at e4
    have := congrArg Obj.data (Option.some.inj e4)
    simp only [Data.seq.injEq] at this
    have := congrArg Array.toList this.1
    simp only [List.toList_toArray, List.cons.injEq, Value.int.injEq] at this
    subst e5
    rw [← this.2.1.1]
    exact .cons i tp' (places_ints hp hr)
theorem places_at {h : Heap} : ∀ {qv : List Value} {idx : List Int} (j : Nat) (v : Value), PlacesIn h qv idx → qv[j]? = some v → ∃ t c tc i tp, v = .ref t ∧ h.get? t = some (tupO [.int c tc, .int i tp])
  | v :: qv, i :: idx, 0, v', ⟨⟨t, c, tc, tp, e1, e2⟩, _⟩, e => by cases e; exact ⟨t, c, tc, i, tp, e1, e2⟩
  | v :: qv, i :: idx, j + 1, v', ⟨_, hr⟩, e => places_at j v' hr (by simpa using e)
theorem list_eq_of_get {α : Type} {l1 l2 : List α} (hl : l1.length = l2.length) (h : ∀ (j : Nat) (v : α), l1[j]? = some v → l2[j]? = some v) : l1 = l2 := by
  refine List.ext_getElem? fun j => ?_
  cases e : l1[j]? with
  | some v => exact (h j v e).symm
  | none =>
    have := List.getElem?_eq_none_iff.mp e
    exact (List.getElem?_eq_none (by omega)).symm

theorem comp_pile {name : Str} {scope : Scope} {cd : Value} {sc : Scope} {p1 p2 p3 p4 p5 p6 : Pos} {k0 k : Nat} {qv : List Value} {idx : List Int} (F : Fr h₀ L s.heap m) (N : News h₀ L s.heap news) (hh : A.handled = none) (hv : m (Str.ofString "pile") = some (.ref qA)) (hm : (qA, listOf qv.toArray k) ∈ news)
    (hit : PlacesIn s.heap qv idx) (hz : qv.length ≤ 1000)
    (hk : scope.kind = .function) (hl : (envOf name scope L a cd).kindOf (Str.ofString "pile") = some .local)
    (hsn : sc.names = [(Str.ofString ".0", .local), (Str.ofString "entry", .local)]) (hsk : sc.kind = .function)
    (h : ∀ h' tk D ys n, Fr h₀ L h' m → News h₀ L h' ((D, listOf ys.toArray n) :: news) → s.heap.get? D = none → IntsAre ys idx → Q (.ref D) { s with heap := h', toks := tk }) :
    wpAny (model prog w) A (eval (.ListComp (.Subscript (.Name (Str.ofString "entry") p1) (.Constant (.int 1) k0 p2) p3) [⟨.Name (Str.ofString "entry") p4, .Name (Str.ofString "pile") p5, [], 0⟩] sc p6) (envOf name scope L a cd)) Q E s := by
  have hlist : s.heap.IsList qA qv.toArray := News.isList N hm
  have hq0 := (N _ hm).1
  refine wpAny_ListComp_walk (fun _ => true) (PlaceOf s.heap) (by rw [hsn]; decide) (by rw [hsn]; decide) hsk (by rw [hsn]; decide) (by rw [hsn]; decide) ?_
  refine ld F hv ?_ hk hl (by decide)
  refine wpAny_pyIter_list hlist ?_
  have hne : qA ≠ s.heap.objs.size := Nat.ne_of_lt (Heap.lt_size hq0)
  refine ⟨s.heap.objs.size, [s.heap.objs.size, qA], [s.heap.objs.size], qv.toArray.size, _, _, rfl, Walks.list hh s.heap.objs.size qA hne qv.toArray, size_ok (by simp; omega), ⟨⟨_, Heap.get?_push_size _ rfl, rfl, rfl⟩, hlist.at fun o e => Heap.get?_push_of_some _ e⟩, ?_, ?_, ?_⟩
  · intro b hb
    rw [Heap.size_push]
    rcases List.mem_cons.mp hb with rfl | hb
    · exact Nat.lt_succ_self _
    · rw [List.mem_singleton.mp hb]; exact Nat.lt_succ_of_lt (Heap.lt_size hq0)
  · constructor
    · intro C i v s₃ m₃ E' hP hn hm3 hk3 htk
      exact wpAny_pure ⟨rfl, s₃.heap, s₃.toks, rfl, fun _ _ e => e⟩
    · intro C i v s₃ m₃ E' hP _ hn hm3 hk3 htk
      have hP' : qv[i]? = some v := by simpa using hP
      obtain ⟨t, c, tc, i', tp, rfl, ht⟩ := places_at i v hit hP'
      have ht3 : s₃.heap.get? t = some (tupO [.int c tc, .int i' tp]) := hk3 t _ (by
        intro hb; rw [List.mem_singleton.mp hb] at ht
        exact absurd (Heap.lt_size ht) (Nat.lt_irrefl _)) (Heap.get?_push_of_some _ ht)
      refine Subscript_ ?_
      refine wpAny_Name (wpAny_loadName_local (env := compEnv sc C _) hsk ?_ hn hm3 ?_) (by decide)
      · show sc.names.lookup _ = _
        rw [hsn]; decide
      · refine wpAny_Constant_int ?_
        refine item_tupleT (l := [.int c tc, .int i' tp]) (j := 1) ⟨_, ht3, rfl, 0, rfl⟩ (by decide) (by decide) rfl rfl ?_
        exact ⟨⟨t, c, tc, i', tp, rfl, ht, rfl⟩, s₃.heap, _, rfl, fun _ _ e => e⟩
  · intro D h' tk ys vs hD hl' hpl hlen hP hF hk'
    have hk2 : ∀ b o, s.heap.get? b = some o → h'.get? b = some o := fun b o e => hk' b o (by
      intro hb; rw [List.mem_singleton.mp hb] at e
      exact absurd (Heap.lt_size e) (Nat.lt_irrefl _)) (Heap.get?_push_of_some _ e)
    have hvs : vs = qv := list_eq_of_get (by rw [hlen]; simp) fun j v e => by simpa using hP j v e
    have hF' : Paired (PlaceOf s.heap) qv ys.toList := by
      have : vs.filter (fun _ => true) = vs := by simp
      rw [this, hvs] at hF; exact hF
    obtain ⟨n, hpl⟩ := hpl
    have hD0 : s.heap.get? D = none := by
      cases e : s.heap.get? D with
      | none => rfl
      | some o => rw [Heap.get?_push_of_some _ e] at hD; cases hD
    refine h h' tk D ys.toList n (F.keeps hk2) (fun p hp => ?_) hD0 (places_ints hF' hit)
    rcases List.mem_cons.mp hp with rfl | hp
    · refine ⟨by simpa using hpl, fun e => ?_, ?_⟩
      · obtain ⟨oL, _, _, hL, _⟩ := F.ns
        rw [show D = L from e, hL] at hD0; cases hD0
      · cases e : h₀.get? D with
        | none => rfl
        | some o => have := F.keep _ _ e; rw [hD0] at this; cases this
    · exact ⟨hk2 _ _ (N p hp).1, (N p hp).2⟩
end
end Mine
end

-- part C10
section
open PySem PySem.W PySem.Calls PyProof.Rows
set_option maxRecDepth 100000
set_option maxHeartbeats 4000000
namespace Mine

section
variable {w : World} {A : Around} {E : Value → Shared → Prop} {s : Shared} {mg mb : Str → Option Value} {g : Heap} {L : Addr} {m : Str → Option Value} {news : List (Addr × Obj)} {Q : Value → Shared → Prop}
theorem column_use (F : Fr g L s.heap m) (N : News g L s.heap news) (X : (hd.heap_39 w.params).In g) (T : TopRead lawView Loo mg mb g) (hdep : A.depth + 10 < recursionLimit) (hh : A.handled = none)
    {lead : Str} {t u : Tok} {size : Int} (hs : 1 ≤ size) (hs2 : size ≤ 100) (hl : lead.length ≤ 60)
    (h : ∀ h' tk t', Fr g L h' m → News g L h' news → Q (.int (colOf size (KStt.codes lead)) t') { s with heap := h', toks := tk }) : wpAny (model PySem.Challenge.rw_ij0041_01.row.prog w) A (call (.ref 197) [.str lead t, .int size u] []) Q E s :=
  wpAny_call (column_spec (X.keeps F.keep) (T.keeps F.keep) hdep hh lead t u size hs hs2 (by omega) fun h' tk t' hk => h h' tk t' (F.keeps hk) (News.grown N hk))
end

/-! the plain side of _law_above -/
def colAt (ls : List Str) (size : Int) (j : Nat) : Int := colOf size (codesAt ls j)
def abPop (ls : List Str) (size : Int) (i : Nat) (st : List Nat) : List Nat := st.dropWhile fun j => decide (colAt ls size j ≥ colAt ls size i)
def abAt (ls : List Str) (size : Int) : Nat → List Nat
  | 0 => []
  | i + 1 => i :: abPop ls size i (abAt ls size i)
def idxOf (st : List Nat) : List Int := st.reverse.map fun (j : Nat) => (j : Int)
theorem abPop_stop {ls : List Str} {size : Int} {i j : Nat} {st : List Nat} (h : ¬ colAt ls size j ≥ colAt ls size i) : abPop ls size i (j :: st) = j :: st := by
  unfold abPop; rw [List.dropWhile, decide_eq_false h]
theorem abPop_go {ls : List Str} {size : Int} {i j : Nat} {st : List Nat} (h : colAt ls size j ≥ colAt ls size i) : abPop ls size i (j :: st) = abPop ls size i st := by
  unfold abPop; rw [List.dropWhile, decide_eq_true h]
theorem abAt_length (ls : List Str) (size : Int) : ∀ i, (abAt ls size i).length ≤ i
  | 0 => Nat.le_refl _
  | i + 1 => Nat.succ_le_succ (Nat.le_trans (List.dropWhile_sublist _).length_le (abAt_length ls size i))

inductive AbPile (rest : List (Addr × Obj)) (ls : List Str) (size : Int) : List Nat → List Value → Prop
  | nil : AbPile rest ls size [] []
  | cons {st qv} {j : Nat} {t tc tp} : AbPile rest ls size st qv → (t, tupO [.int (colAt ls size j) tc, .int (j : Int) tp]) ∈ rest → AbPile rest ls size (j :: st) (qv ++ [.ref t])
theorem AbPile.mono {rest rest' : List (Addr × Obj)} {ls : List Str} {size : Int} {st : List Nat} {qv : List Value} (h : AbPile rest ls size st qv) (hs : ∀ p ∈ rest, p ∈ rest') : AbPile rest' ls size st qv := by
  induction h with
  | nil => exact .nil
  | cons _ ht ih => exact .cons ih (hs _ ht)
theorem AbPile.length {rest : List (Addr × Obj)} {ls : List Str} {size : Int} {st : List Nat} {qv : List Value} (h : AbPile rest ls size st qv) : qv.length = st.length := by
  induction h with
  | nil => rfl
  | cons _ _ ih => simp [ih]
theorem places_snoc {h : Heap} {v : Value} {i : Int} (hv : ∃ t c tc tp, v = .ref t ∧ h.get? t = some (tupO [.int c tc, .int i tp])) : ∀ {qv : List Value} {idx : List Int}, PlacesIn h qv idx → PlacesIn h (qv ++ [v]) (idx ++ [i])
  | [], [], _ => ⟨hv, trivial⟩
  | _ :: _, _ :: _, ⟨a, r⟩ => ⟨a, places_snoc hv r⟩
theorem AbPile.places {rest : List (Addr × Obj)} {ls : List Str} {size : Int} {st : List Nat} {qv : List Value} {h : Heap} (hp : AbPile rest ls size st qv) (hg : ∀ p ∈ rest, h.get? p.1 = some p.2) : PlacesIn h qv (idxOf st) := by
  induction hp with
  | nil => exact trivial
  | @cons st qv j t tc tp _ ht ih =>
    have e : idxOf (j :: st) = idxOf st ++ [(j : Int)] := by simp [idxOf]
    rw [e]
    exact places_snoc ⟨t, _, tc, tp, rfl, hg _ ht⟩ ih

inductive AnsAre (rest : List (Addr × Obj)) (ls : List Str) (size : Int) : Nat → List Value → Prop
  | nil : AnsAre rest ls size 0 []
  | cons {i av a vs n} : AnsAre rest ls size i av → (a, listOf vs.toArray n) ∈ rest → IntsAre vs (idxOf (abPop ls size i (abAt ls size i))) → AnsAre rest ls size (i + 1) (av ++ [.ref a])
theorem AnsAre.mono {rest rest' : List (Addr × Obj)} {ls : List Str} {size : Int} {i : Nat} {av : List Value} (h : AnsAre rest ls size i av) (hs : ∀ p ∈ rest, p ∈ rest') : AnsAre rest' ls size i av := by
  induction h with
  | nil => exact .nil
  | cons _ ht hi ih => exact .cons ih (hs _ ht) hi
theorem AnsAre.length {rest : List (Addr × Obj)} {ls : List Str} {size : Int} {i : Nat} {av : List Value} (h : AnsAre rest ls size i av) : av.length = i := by
  induction h with
  | nil => rfl
  | cons _ _ _ ih => simp [ih]

def AboveJ (lA aA qA : Addr) (ls : List Str) (size : Int) (i : Nat) (m : Str → Option Value) (nx : List (Addr × Obj)) : Prop :=
  ∃ (av qv : List Value) (k1 k2 : Nat) (u : Tok) (rest : List (Addr × Obj)),
    nx = (aA, listOf av.toArray k1) :: (qA, listOf qv.toArray k2) :: rest ∧ OwnOff rest [aA, qA] ∧ AnsAre rest ls size i av ∧ AbPile rest ls size (abAt ls size i) qv ∧
    m (Str.ofString "leads") = some (.ref lA) ∧ m (Str.ofString "size") = some (.int size u) ∧ m (Str.ofString "answer") = some (.ref aA) ∧ m (Str.ofString "pile") = some (.ref qA)

local macro_rules | `(tactic| k_mem) => `(tactic| assumption)
local macro_rules | `(tactic| walk_at "pyIter ref") => `(tactic| (k_here; (with_reducible show wpAny _ _ (pyIter (Value.ref _)) (fun _ _ => LoopAtV _ _ _ _ _ _ _ _ _ _ _) _ _); refine stop_here ?_))
local macro_rules | `(tactic| walk_at "exec While BoolOp cons nil") => `(tactic| (k_here; refine stop_here ?_))
local macro_rules | `(tactic| walk_at "eval ListComp") => `(tactic| (k_here; refine stop_here ?_))
local macro_rules | `(tactic| size_fits) => `(tactic| exact size_ok (by first | omega | (simp only [List.size_toArray, List.length_append, List.length_cons, List.length_nil]; omega)))
local macro_rules | `(tactic| walk_at "call builtin:len") => `(tactic| (k_here; (with_reducible show wpAny _ _ (call (Value.builtin "len") [Value.ref _]) _ _ _); k_dflt (refine' my_lenApp ?k1 ?k2 ?k3 ?_; (case k1 => k_asm); (case k2 => k_mem); (case k3 => omega))))
local macro_rules | `(tactic| walk_at "subscriptTail") => `(tactic| (k_here; (with_reducible show wpAny _ _ (subscriptTail _ _ (Value.ref _) (Value.int (-1) _)) _ _ _); k_dflt (refine' my_last ?k1 ?k2 ?k3 ?_; (case k1 => k_asm); (case k2 => k_mem); (case k3 => omega))))
local macro_rules | `(tactic| walk_at "call builtin:list.pop") => `(tactic| (k_here; (try dsimp only); (with_reducible show wpAny _ _ (call (Value.builtin "list.pop") [Value.ref _]) _ _ _); k_dflt (refine' my_pop ?k1 ?k2 ?k3 ?k4 ?_; (case k1 => k_asm); (case k2 => k_asm); (case k3 => k_upd); (case k4 => omega)); intro h' F' N'))
local macro_rules | `(tactic| walk_at "call ref") => `(tactic| (k_here; (try dsimp only [List.append_nil, List.cons_append, List.nil_append]); (with_reducible show wpAny _ _ (call (Value.ref 197) _ _) _ _ _); k_dflt (refine' column_use ?F ?N ?X ?T ?hd ?hh ?m1 ?m2 ?m3 ?_; (case F => k_asm); (case N => k_asm); (case X => k_asm); (case T => k_asm); (case hh => rfl); (case m1 => omega); (case m2 => omega); (case m3 => assumption); (case hd => (simp only [depth_deeper]; omega))); intro h' tk' t' F' N'))
local macro_rules | `(tactic| k_all) => `(tactic| assumption)

theorem above_end {g h' : Heap} {L lA aA qA D1 D2 : Addr} {ls : List Str} {size : Int} {i : Nat} {m' : Str → Option Value} {news' own rest rest2 : List (Addr × Obj)} {s₁ : Shared} {tk : Nat} {av qv vs : List Value} {aa aq : Array Value} {k1 k2 n : Nat} {tc tp u : Tok} {st : List Nat}
    (F : Fr g L h' m') (N : News g L h' news') (hp : (aA, listOf aa k1) ∈ news') (hq : (qA, listOf aq k2) ∈ news') (hD1 : (D1, listOf vs.toArray n) ∈ news') (hD2 : (D2, tupO [.int (colAt ls size i) tc, .int (i : Int) tp]) ∈ news') (hr : ∀ p ∈ rest2, p ∈ news')
    (ea : aa = (av ++ [Value.ref D1]).toArray) (eq : aq = (qv ++ [Value.ref D2]).toArray)
    (hA2 : ∀ p ∈ rest, p ∈ rest2) (hown : ∀ p ∈ own, p ∈ rest2) (hro : OwnOff rest [aA, qA]) (hoff : OwnOff own (aA :: qA :: rest.map (·.1))) (hD1n : D1 ≠ aA ∧ D1 ≠ qA ∧ ∀ p ∈ rest2, p.1 ≠ D1) (hDn : @LT.lt Nat _ aA D2 ∧ @LT.lt Nat _ qA D2 ∧ AllLt D2 rest2)
    (hav : AnsAre rest ls size i av) (hqv : AbPile rest ls size st qv) (hpop : abPop ls size i (abAt ls size i) = st) (hvs : IntsAre vs (idxOf st))
    (m1 : m' (Str.ofString "leads") = some (.ref lA)) (m2 : m' (Str.ofString "size") = some (.int size u)) (m3 : m' (Str.ofString "answer") = some (.ref aA)) (m4 : m' (Str.ofString "pile") = some (.ref qA)) :
    InvEndG g L (AboveJ lA aA qA ls size (i + 1)) own s₁ { s₁ with heap := h', toks := tk } := by
  have hlt : ∀ p ∈ rest2, @LT.lt Nat _ p.1 D2 := by
    have := hDn.2.2
    clear hA2 hown hr hD1n
    induction rest2 with
    | nil => exact fun _ hp => nomatch hp
    | cons q r ih => exact List.forall_mem_cons.mpr ⟨this.1, ih ⟨hDn.1, hDn.2.1, this.2⟩ this.2⟩
  have e2 : abAt ls size (i + 1) = i :: st := by rw [abAt, hpop]
  subst ea eq
  refine InvEndG.intro F N (nx := (aA, listOf (av ++ [Value.ref D1]).toArray k1) :: (qA, listOf (qv ++ [Value.ref D2]).toArray k2) :: (rest ++ [(D1, listOf vs.toArray n), (D2, tupO [.int (colAt ls size i) tc, .int (i : Int) tp])])) ⟨_, _, k1, k2, u, _, rfl, ?_, ?_, ?_, m1, m2, m3, m4⟩ ?_ ?_ (fun p h => hr p (hown p h))
  · intro p h b hb
    have hb' : b = aA ∨ b = qA := by simpa using hb
    rcases List.mem_append.mp h with h | h
    · exact hro p h b hb
    · rcases List.mem_cons.mp h with rfl | h
      · rcases hb' with rfl | rfl
        · exact hD1n.1
        · exact hD1n.2.1
      · rw [List.mem_singleton.mp h]
        rcases hb' with rfl | rfl
        · exact Nat.ne_of_gt hDn.1
        · exact Nat.ne_of_gt hDn.2.1
  · exact .cons (n := n) (vs := vs) (hav.mono fun p h => List.mem_append_left _ h) (List.mem_append_right _ (.head _)) (by rw [hpop]; exact hvs)
  · rw [e2]
    exact .cons (tc := tc) (tp := tp) (hqv.mono fun p h => List.mem_append_left _ h) (List.mem_append_right _ (.tail _ (.head _)))
  · intro p h b hb
    simp only [List.map_cons, List.map_append, List.map_nil] at hb
    rcases List.mem_cons.mp hb with rfl | hb
    · exact hoff p h _ (.head _)
    · rcases List.mem_cons.mp hb with rfl | hb
      · exact hoff p h _ (.tail _ (.head _))
      · rcases List.mem_append.mp hb with hb | hb
        · exact hoff p h b (.tail _ (.tail _ hb))
        · rcases List.mem_cons.mp hb with rfl | hb
          · exact hD1n.2.2 p (hown p h)
          · rw [List.mem_singleton.mp hb]; exact Nat.ne_of_lt (hlt p (hown p h))
  · intro p h
    rcases List.mem_cons.mp h with rfl | h
    · exact hp
    · rcases List.mem_cons.mp h with rfl | h
      · exact hq
      · rcases List.mem_append.mp h with h | h
        · exact hr p (hA2 p h)
        · rcases List.mem_cons.mp h with rfl | h
          · exact hD1
          · rw [List.mem_singleton.mp h]; exact hD2

theorem above_spec {w : World} {A : Around} {R : Result → Shared → Prop} {s : Shared} {mg mb : Str → Option Value}
   (X : (hd.heap_39 w.params).In s.heap) (T : TopRead lawView Loo mg mb s.heap) (hdep : A.depth + 40 < recursionLimit) (hh : A.handled = none) 
   (lA : Addr) (lv : List Value) (ls : List Str) (size : Int) (u : Tok) (hs1 : 1 ≤ size) (hs2 : size ≤ 100) (hl : s.heap.IsList lA lv.toArray) (hls : StrsAre lv ls)
   (hmax : Small ls.length) (hln : ∀ x ∈ ls, x.length ≤ 60)
   (k : ∀ h' tk o av n rest, (∀ b o, s.heap.get? b = some o → h'.get? b = some o) → s.heap.get? o = none → h'.get? o = some (listOf av.toArray n) → AnsAre rest ls size ls.length av → (∀ p ∈ rest, h'.get? p.1 = some p.2 ∧ s.heap.get? p.1 = none) → R (.ok (.ret (.ref o))) {s with heap := h', toks := tk}) :
   codeAny (model PySem.Challenge.rw_ij0041_01.row.prog w) A (.call (.ref 202) ⟨[.ref lA, .int size u], []⟩) R s := by
  obtain ⟨hnd, dep, frs, gds, uns⟩ := A
  dsimp only at hh hdep
  subst hh
  w_on
  revert X T
  k_fill
  intro X T
  refine' enter (binds := [(Str.ofString "leads", .ref lA), (Str.ofString "size", .int size u)]) ?kX ?klim ?ko ?kcd ?kroom ?kb ?kloc ?_ ?c1 ?c2 ?c3 ?c4
  case kX => exact X
  case ko => k_is
  case klim => exact T.nolimit
  case kcd => k_is
  case kroom => show dep < _; omega
  case kb => exact BindsTo.of_eq rfl
  case kloc => exact locs rfl
  case c1 => decide
  case c2 => rfl
  case c3 => rfl
  case c4 => rfl
  intro L h F N
  have hlv := hls.length
  have hlb : ls.length ≤ 1000 := by unfold Small at hmax; omega
  try dsimp only
  try k_fold
  k_steps
  unfold Stop
  rename IsRange _ _ _ _ _ _ _ _ => hr
  rename Fr _ _ _ _ => F1
  rename News _ _ _ _ => N1
  rename_i aA _ _ qA _ _ dA _ _ _ _ _ _ _ _ _ _ _ _ _
  have hsm : Builtin.Range.small 0 (ls.length : Int) 1 = true := small_one (by omega) (by omega) (by omega) (by unfold Small at hmax; omega)
  have hsz : Builtin.Range.rangeSize 0 (ls.length : Int) 1 = (ls.length : Int) := (rangeSize_nat _ _).trans (by omega)
  have N1 := news_sub N1 (fun p hp => .tail _ hp)
  refine loop_range (AboveJ lA aA qA ls size) rfl hr hsm hsz F1 (news_sub N1 (l' := [(aA, listOf [].toArray 0), (qA, listOf [].toArray 0)]) (List.forall_mem_cons.mpr ⟨.tail _ (.head _), List.forall_mem_cons.mpr ⟨.head _, List.forall_mem_nil _⟩⟩)) ⟨[], [], 0, 0, u, [], rfl, fun _ h => (nomatch h), .nil, .nil, rfl, rfl, rfl, rfl⟩ ?_ ?_
  · rintro i t m₁ nx h tk own hin hoff ⟨av, qv, k1, k2, u2, rest, rfl, hro, hav, hqv, h1, h2, h3, h4⟩ F N
    have F := fr_pin (fr_pin (fr_pin (fr_pin F (x := Str.ofString "leads") h1) (x := Str.ofString "size") h2) (x := Str.ofString "answer") h3) (x := Str.ofString "pile") h4
    have ei : (0 : Int) + (i : Int) * 1 = (i : Int) := by omega
    rw [ei] at F
    simp only [List.cons_append] at N
    simp only [List.map_cons] at hoff
    generalize hrest : rest ++ own = rest' at N
    have hro' : OwnOff rest' [_, _] := fun p hp => (List.mem_append.mp (hrest ▸ hp)).elim (hro p) fun h b hb => hoff p h b (by rcases List.mem_cons.mp hb with rfl | hb; exact .head _; rw [List.mem_singleton.mp hb]; exact .tail _ (.head _))
    have hA2 : ∀ p ∈ rest, p ∈ rest' := fun p hp => hrest ▸ List.mem_append_left _ hp
    have hsub : ∀ p ∈ own, p ∈ rest' := fun p hp => hrest ▸ List.mem_append_right _ hp
    have hx0 : (ls.getD (i : Int).toNat Str.empty).length ≤ 60 := getD_le hln _
    have havl := hav.length
    k_steps
    unfold Stop
    rename Fr _ _ _ _ => F3
    rename News _ _ _ _ => N3
    obtain ⟨M, hM, F3⟩ := fr_gen F3
    have hsl := abAt_length ls size i
    have hi8 : i < 8 := by unfold Small at hmax; omega
    refine while_by (fun (st : List Nat) h => ∃ qv k2, AbPile rest ls size st qv ∧ st.length ≤ 8 ∧ abPop ls size i (abAt ls size i) = abPop ls size i st ∧ Fr s.heap L h M ∧ News s.heap L h ((aA, listOf av.toArray k1) :: (qA, listOf qv.toArray k2) :: rest')) List.length (abAt ls size i) (by first | passes_own | with_unfolding_all passes_own) ⟨qv, k2, hqv, by omega, rfl, F3, N3⟩ ?_
    clear F3 N3 hqv
    rintro st h3 tk3 ⟨qv, k2, hq, hst8, hpop, F, N⟩
    rw [hM] at F
    cases hq with
    | nil =>
      k_steps
      unfold Stop
      rename Fr _ _ _ _ => F6
      rename News _ _ _ _ => N6
      refine comp_pile F6 N6 rfl rfl (.tail _ (.head _)) (AbPile.places (ls := ls) (size := size) .nil (fun p hp => (N6 _ (.tail _ (.tail _ (hA2 p hp)))).1)) ?_ rfl rfl rfl rfl ?_
      · exact Nat.zero_le _
      intro h7 tk7 D1 ys n7 F N hD1 hys
      have d1 : @Ne Nat D1 aA := fun e => by
        have := (N6 _ (.head _)).1
        rw [e] at hD1; exact absurd (hD1.symm.trans this) (by nofun)
      have d2 : @Ne Nat D1 qA := fun e => by
        have := (N6 _ (.tail _ (.head _))).1
        rw [e] at hD1; exact absurd (hD1.symm.trans this) (by nofun)
      have d3 : ∀ p ∈ rest', p.1 ≠ D1 := fun p hp e => by
        have := (N6 p (.tail _ (.tail _ hp))).1
        rw [e] at this; exact absurd (hD1.symm.trans this) (by nofun)
      clear F6 N6
      k_steps
      rename Fr _ _ _ _ => F9
      rename News _ _ _ _ => N9
      rename _ ∧ _ ∧ _ ∧ AllLt _ _ => l9
      refine above_end F9 N9 (.tail _ (.tail _ (.head _))) (.tail _ (.tail _ (.tail _ (.head _)))) (.tail _ (.head _)) (.head _) (fun p hp => .tail _ (.tail _ (.tail _ (.tail _ hp)))) (List.push_toArray _ _) rfl hA2 hsub hro hoff ⟨d1, d2, d3⟩ ⟨l9.2.1, l9.2.2.1, l9.2.2.2⟩ hav .nil hpop hys rfl rfl rfl rfl
    | @cons st qv j ta tca tpa hq hta0 =>
      have hta := hA2 _ hta0
      have hql := hq.length
      have hql2 : qv.length ≤ 8 := by have := hst8; simp only [List.length_cons] at this; omega
      k_steps
      · rename Fr _ _ _ _ => F9
        rename News _ _ _ _ => N9
        refine ⟨rfl, st, _, _, rfl, Nat.lt_succ_self _, qv, _, hq, ?_, hpop.trans (abPop_go (by assumption)), by rw [hM]; exact F9, N9⟩
        simp only [List.length_cons] at hst8; omega
      unfold Stop
      rename Fr _ _ _ _ => F6
      rename News _ _ _ _ => N6
      refine comp_pile F6 N6 rfl rfl (.tail _ (.head _)) (AbPile.places (ls := ls) (size := size) (.cons hq hta0) (fun p hp => (N6 _ (.tail _ (.tail _ (hA2 p hp)))).1)) ?_ rfl rfl rfl rfl ?_
      · simp only [List.length_append, List.length_cons, List.length_nil]; omega
      intro h7 tk7 D1 ys n7 F N hD1 hys
      have d1 : @Ne Nat D1 aA := fun e => by
        have := (N6 _ (.head _)).1
        rw [e] at hD1; exact absurd (hD1.symm.trans this) (by nofun)
      have d2 : @Ne Nat D1 qA := fun e => by
        have := (N6 _ (.tail _ (.head _))).1
        rw [e] at hD1; exact absurd (hD1.symm.trans this) (by nofun)
      have d3 : ∀ p ∈ rest', p.1 ≠ D1 := fun p hp e => by
        have := (N6 p (.tail _ (.tail _ hp))).1
        rw [e] at this; exact absurd (hD1.symm.trans this) (by nofun)
      clear F6 N6
      k_steps
      rename Fr _ _ _ _ => F9
      rename News _ _ _ _ => N9
      rename _ ∧ _ ∧ _ ∧ AllLt _ _ => l9
      refine above_end F9 N9 (.tail _ (.tail _ (.head _))) (.tail _ (.tail _ (.tail _ (.head _)))) (.tail _ (.head _)) (.head _) (fun p hp => .tail _ (.tail _ (.tail _ (.tail _ hp)))) (List.push_toArray _ _) (List.push_toArray _ _) hA2 hsub hro hoff ⟨d1, d2, d3⟩ ⟨l9.2.1, l9.2.2.1, l9.2.2.2⟩ hav (.cons hq hta0) (hpop.trans (abPop_stop (by assumption))) hys rfl rfl rfl rfl
  · intro m₁ nx h tk ⟨av, qv, k1, k2, u2, rest, hnx, hro, hav, hqv, h1, h2, h3, h4⟩ F N
    subst hnx
    have F := fr_pin F (x := Str.ofString "answer") h3
    k_steps
    rename Fr _ _ _ _ => F9
    rename News _ _ _ _ => N9
    exact k _ _ _ _ _ rest F9.keep (N9 _ (.head _)).2.2 (N9 _ (.head _)).1 hav (fun p hp => ⟨(N9 _ (.tail _ (.tail _ hp))).1, (N9 _ (.tail _ (.tail _ hp))).2.2⟩)
end Mine
end

-- part M1
section
open PySem PySem.W PySem.Calls PyProof.Rows
namespace Mine

/-! a pile that pops what is not less than the new one: what stays is told by the relation alone -/
section
variable (r : Nat → Nat → Bool)
def pileAt : Nat → List Nat
  | 0 => []
  | i + 1 => i :: (pileAt i).dropWhile fun j => !r j i
def Trans3 (n : Nat) : Prop := ∀ a b c, a < n → b < n → c < n → r a b = true → r b c = true → r a c = true
variable {r}
theorem pileAt_lt : ∀ i, ∀ a ∈ pileAt r i, a < i
  | 0, a, h => nomatch h
  | i + 1, a, h => by
    rcases List.mem_cons.mp h with rfl | h
    · exact Nat.lt_succ_self _
    · exact Nat.lt_succ_of_lt (pileAt_lt i a ((List.dropWhile_sublist _).subset h))
/-- in a row in which each is less than those ahead of it, what a new one leaves is what is less than it -/
theorem drop_filter {n i : Nat} (ht : Trans3 r n) (hi : i < n) : ∀ l : List Nat, (∀ a ∈ l, a < n) → l.Pairwise (fun x y => r y x = true) → (l.dropWhile fun j => !r j i) = l.filter fun j => r j i
  | [], _, _ => rfl
  | x :: l, hn, hp => by
    rw [List.pairwise_cons] at hp
    by_cases hx : r x i = true
    · have e : (x :: l).filter (fun j => r j i) = x :: l := by
        refine List.filter_eq_self.mpr fun y hy => ?_
        rcases List.mem_cons.mp hy with rfl | hy
        · exact hx
        · exact ht y x i (hn y (.tail _ hy)) (hn x (.head _)) hi (hp.1 y hy) hx
      rw [e, List.dropWhile, hx]; rfl
    · have hx : r x i = false := by simpa using hx
      rw [List.dropWhile, hx, List.filter_cons_of_neg (by rw [hx]; exact Bool.false_ne_true)]
      exact drop_filter ht hi l (fun a ha => hn a (.tail _ ha)) hp.2
theorem pile_pair {n : Nat} (ht : Trans3 r n) : ∀ i, i ≤ n → (pileAt r i).Pairwise (fun x y => r y x = true)
  | 0, _ => .nil
  | i + 1, h => by
    have ih := pile_pair ht i (by omega)
    have e := drop_filter ht (show i < n by omega) (pileAt r i) (fun a ha => by have := pileAt_lt i a ha; omega) ih
    rw [pileAt, e]
    refine List.pairwise_cons.mpr ⟨fun y hy => (List.mem_filter.mp hy).2, ih.filter _⟩
theorem pile_pop {n i : Nat} (ht : Trans3 r n) (hi : i < n) : ((pileAt r i).dropWhile fun j => !r j i) = (pileAt r i).filter fun j => r j i :=
  drop_filter ht hi _ (fun a ha => by have := pileAt_lt i a ha; omega) (pile_pair ht i (by omega))
theorem pile_filter {n : Nat} (ht : Trans3 r n) : ∀ i, i ≤ n → pileAt r i = (List.range i).reverse.filter fun a => decide (∀ k, k < i → a < k → r a k = true)
  | 0, _ => rfl
  | i + 1, h => by
    rw [pileAt, pile_pop ht (by omega), pile_filter ht i (by omega), List.range_succ, List.reverse_append, List.reverse_cons, List.reverse_nil, List.nil_append, List.singleton_append,
      List.filter_cons_of_pos (by simp; intro k hk hik; omega), List.filter_filter]
    congr 1
    refine List.filter_congr fun a ha => ?_
    have ha' : a < i := by simpa using ha
    rw [Bool.eq_iff_iff]
    simp only [Bool.and_eq_true, decide_eq_true_eq]
    constructor
    · rintro ⟨h1, h2⟩ k hk hak
      rcases Nat.lt_or_ge k i with h3 | h3
      · exact h2 k h3 hak
      · have : k = i := by omega
        rw [this]; exact h1
    · intro h1
      exact ⟨h1 i (by omega) ha', fun k hk hak => h1 k (by omega) hak⟩
theorem pop_filter {n i : Nat} (ht : Trans3 r n) (hi : i < n) : ((pileAt r i).dropWhile fun j => !r j i) = (List.range i).reverse.filter fun a => decide (∀ k, k ≤ i → a < k → r a k = true) := by
  rw [pile_pop ht hi, pile_filter ht i (by omega), List.filter_filter]
  refine List.filter_congr fun a ha => ?_
  have ha' : a < i := by simpa using ha
  rw [Bool.eq_iff_iff]
  simp only [Bool.and_eq_true, decide_eq_true_eq]
  constructor
  · rintro ⟨h1, h2⟩ k hk hak
    rcases Nat.lt_or_ge k i with h3 | h3
    · exact h2 k h3 hak
    · have : k = i := by omega
      rw [this]; exact h1
  · intro h1
    exact ⟨h1 i (by omega) ha', fun k hk hak => h1 k (by omega) hak⟩
theorem pop_mem {n i a : Nat} (ht : Trans3 r n) (hi : i < n) : a ∈ ((pileAt r i).dropWhile fun j => !r j i) ↔ a < i ∧ ∀ k, k ≤ i → a < k → r a k = true := by
  rw [pop_filter ht hi]; simp
end
/-- the pile by r against many piles by rs -/
theorem pile_law {α : Type} {r : Nat → Nat → Bool} {rs : α → Nat → Nat → Bool} {S : List α} {n i : Nat} (hr : ∀ a k, a < n → k < n → (r a k = true ↔ ∀ t ∈ S, rs t a k = true)) (ht : ∀ t ∈ S, Trans3 (rs t) n) (hi : i < n) :
    ((pileAt r i).dropWhile fun j => !r j i) = (List.range i).reverse.filter fun a => decide (∀ t ∈ S, a ∈ ((pileAt (rs t) i).dropWhile fun j => !rs t j i)) := by
  have h3 : Trans3 r n := fun a b c ha hb hc h1 h2 => (hr a c ha hc).mpr fun t hS => ht t hS a b c ha hb hc ((hr a b ha hb).mp h1 t hS) ((hr b c hb hc).mp h2 t hS)
  rw [pop_filter h3 hi]
  refine List.filter_congr fun a ha => ?_
  have ha' : a < i := by simpa using ha
  rw [Bool.eq_iff_iff]
  simp only [decide_eq_true_eq]
  constructor
  · intro h t hS
    exact (pop_mem (ht t hS) hi).mpr ⟨ha', fun k hk hak => (hr a k (by omega) (by omega)).mp (h k hk hak) t hS⟩
  · intro h k hk hak
    exact (hr a k (by omega) (by omega)).mpr fun t hS => ((pop_mem (ht t hS) hi).mp (h t hS)).2 k hk hak

/-! the columns of a blank text -/
def colSum (ts : Int) (k : Int) : List Int → Int
  | [] => 0
  | c :: r => k.fdiv ts * c + colSum ts (k + 1) r
theorem colSum_append (ts : Int) : ∀ (l m : List Int) (k : Int), colSum ts k (l ++ m) = colSum ts k l + colSum ts (k + (l.length : Int)) m
  | [], m, k => by simp [colSum]
  | c :: l, m, k => by
    rw [List.cons_append, colSum, colSum, colSum_append ts l m (k + 1)]
    have : k + 1 + (l.length : Int) = k + ((c :: l).length : Int) := by simp; omega
    rw [this]; omega
theorem colSum_zeros (ts : Int) : ∀ (n : Nat) (k : Int), colSum ts k (List.replicate n 0) = 0
  | 0, _ => rfl
  | n + 1, k => by rw [List.replicate_succ, colSum, colSum_zeros ts n]; omega
theorem colSum_set (ts v : Int) : ∀ (l : List Int) (j : Nat) (k : Int), j < l.length → colSum ts k (l.set j (l.getD j 0 + v)) = colSum ts k l + (k + (j : Int)).fdiv ts * v
  | [], _, _, h => absurd h (by simp)
  | c :: l, 0, k, _ => by
    rw [List.set_cons_zero, colSum, colSum]
    have : (c :: l).getD 0 0 = c := rfl
    rw [this, Int.mul_add]
    simp only [Int.natCast_zero, Int.add_zero]
    omega
  | c :: l, j + 1, k, h => by
    rw [List.set_cons_succ, colSum, colSum]
    have : (c :: l).getD (j + 1) 0 = l.getD j 0 := by simp [List.getD]
    rw [this, colSum_set ts v l j (k + 1) (by simpa using h)]
    have e : k + 1 + (j : Int) = k + ((j + 1 : Nat) : Int) := by omega
    rw [e]; omega
theorem colSum_small {ts : Int} (hts : 1 ≤ ts) : ∀ (l : List Int) (k : Int), 0 ≤ k → k + (l.length : Int) ≤ ts → colSum ts k l = 0
  | [], _, _, _ => rfl
  | c :: l, k, h0, h => by
    have hl : ((c :: l).length : Int) = (l.length : Int) + 1 := by simp
    rw [colSum, colSum_small hts l (k + 1) (by omega) (by omega), Int.fdiv_eq_ediv_of_nonneg _ (by omega), Int.ediv_eq_zero_of_lt h0 (by omega)]
    omega
theorem colSum_bump {ts : Int} {cs : List Int} {b : Int} (hb : 0 ≤ b) : colSum ts 0 (bump cs b) = colSum ts 0 cs + b.fdiv ts := by
  have h1 : b.toNat < (bump1 cs b).length := by
    unfold bump1
    split
    · rw [List.length_append, rep1_length]; omega
    · omega
  have h2 : colSum ts 0 (bump1 cs b) = colSum ts 0 cs := by
    unfold bump1
    split
    · have e : (List.replicate (b - (cs.length : Int) + 1).toNat [(0 : Int)]).flatten = List.replicate (b - (cs.length : Int) + 1).toNat 0 := by
        generalize (b - (cs.length : Int) + 1).toNat = m
        induction m with
        | zero => rfl
        | succ m ih => rw [List.replicate_succ, List.flatten_cons, ih, List.replicate_succ]; rfl
      rw [colSum_append, e, colSum_zeros]; omega
    · rfl
  unfold bump
  rw [colSum_set ts 1 _ _ 0 h1, h2]
  have : (0 : Int) + ((b.toNat : Nat) : Int) = b := by omega
  rw [this]; omega

theorem fdiv_fmod_tab {ts b : Int} (hts : 1 ≤ ts) (Z : Int) : b + ts * Z + (ts - (b + ts * Z) % ts) = ts * (Z + 1 + b.fdiv ts) := by
  rw [Int.add_mul_emod_self_left, Int.fdiv_eq_ediv_of_nonneg _ (by omega), Int.mul_add, Int.mul_add]
  have := Int.emod_add_mul_ediv b ts
  omega
/-- after the signs so far -/
def ColInv (ts : Int) (pre : List Int) (σ : WsSt) : Prop := colOf ts pre = σ.b + ts * (colSum ts 0 σ.cs + σ.nt)
theorem colOf_snoc (ts : Int) (pre : List Int) (c : Int) : colOf ts (pre ++ [c]) = colStep ts (colOf ts pre) c := by simp [colOf, List.foldl_append]
theorem col_inv_step {ts c : Int} {pre : List Int} {σ : WsSt} (hts : 1 ≤ ts) (hc : c = 32 ∨ c = 9) (hw : WsInv pre σ) (h : ColInv ts pre σ) : ColInv ts (pre ++ [c]) (wsStep σ c) := by
  unfold ColInv at h ⊢
  rw [colOf_snoc, h]
  rcases hc with rfl | rfl
  · unfold colStep wsStep
    rw [if_neg (by decide), if_pos rfl]
    dsimp only
    omega
  · unfold colStep wsStep
    rw [if_pos rfl, if_neg (by decide)]
    dsimp only
    rw [fdiv_fmod_tab hts, colSum_bump hw.2.2.1]
    have : colSum ts 0 σ.cs + σ.nt + 1 + σ.b.fdiv ts = colSum ts 0 σ.cs + σ.b.fdiv ts + (σ.nt + 1) := by omega
    rw [this]; omega
theorem col_inv_fold {ts : Int} (hts : 1 ≤ ts) : ∀ (post pre : List Int) (σ : WsSt), Blank post → WsInv pre σ → ColInv ts pre σ → ColInv ts (pre ++ post) (post.foldl wsStep σ)
  | [], pre, σ, _, _, h => by simpa using h
  | c :: r, pre, σ, hb, hw, h => by
    have := col_inv_fold hts r (pre ++ [c]) (wsStep σ c) (fun x hx => hb x (.tail _ hx)) (wsInv_step (hb c (.head _)) hw) (col_inv_step hts (hb c (.head _)) hw h)
    simpa [List.append_assoc] using this
theorem col_inv {ts : Int} {cs : List Int} (hts : 1 ≤ ts) (h : Blank cs) : colOf ts cs = (wsRun cs).b + ts * (colSum ts 0 (wsRun cs).cs + (wsRun cs).nt) := by
  have := col_inv_fold hts cs [] ⟨[], 0, 0, 0⟩ h wsInv_nil (by simp [ColInv, colOf, colSum])
  rw [List.nil_append] at this
  exact this
theorem ilOf_sum {cs : List Int} {ts : Int} : ∀ m, ts.toNat + m ≤ cs.length → 1 ≤ ts → ilOf cs ts (rangeKs ts m) = colSum ts 0 (cs.take (ts.toNat + m))
  | 0, h, hts => by
    rw [colSum_small hts _ 0 (Int.le_refl _) (by simp; omega)]; rfl
  | m + 1, h, hts => by
    have e : rangeKs ts (m + 1) = rangeKs ts m ++ [ts + (m : Int)] := by simp [rangeKs, List.range_succ]
    have hlt : ts.toNat + m < cs.length := by omega
    have e2 : cs.take (ts.toNat + (m + 1)) = cs.take (ts.toNat + m) ++ [cs.getD (ts.toNat + m) 0] := by
      rw [← Nat.add_assoc, List.take_add_one, List.getD_eq_getElem?_getD, List.getElem?_eq_getElem hlt]; rfl
    rw [e, ← il_snoc rfl, ilOf_sum m (by omega) hts, e2, colSum_append, List.length_take, Nat.min_eq_left (by omega)]
    have e3 : (ts + (m : Int)).toNat = ts.toNat + m := by omega
    have e4 : (0 : Int) + ((ts.toNat + m : Nat) : Int) = ts + (m : Int) := by omega
    rw [e3, e4, colSum, colSum]; omega
theorem indent_sum {σ : WsSt} {ts : Int} (hts : 1 ≤ ts) : indentOf σ ts = σ.b + ts * (colSum ts 0 σ.cs + σ.nt) := by
  unfold indentOf
  rcases (show (σ.cs.length : Int) ≤ ts ∨ ts < (σ.cs.length : Int) by omega) with h | h
  · rw [colSum_small hts σ.cs 0 (Int.le_refl _) (by omega)]
    have : ((σ.cs.length : Int) - ts).toNat = 0 := by omega
    rw [this]; rfl
  · rw [ilOf_sum _ (by omega) hts, List.take_of_length_le (by omega)]
theorem indent_col {cs : List Int} {ts : Int} (hts : 1 ≤ ts) (h : Blank cs) : indentOf (wsRun cs) ts = colOf ts cs := by rw [indent_sum hts, col_inv hts h]

theorem n_len : ∀ (cs : List Int) (σ : WsSt), (cs.foldl wsStep σ).n = σ.n + (cs.length : Int)
  | [], σ => by simp
  | c :: r, σ => by
    rw [List.foldl_cons, n_len r]
    have : (wsStep σ c).n = σ.n + 1 := by unfold wsStep; split <;> rfl
    rw [this]; simp; omega
theorem col_one_len : ∀ (cs : List Int) (c0 : Int), cs.foldl (colStep 1) c0 = c0 + (cs.length : Int)
  | [], c0 => by simp
  | c :: r, c0 => by
    rw [List.foldl_cons, col_one_len r]
    have : colStep 1 c0 c = c0 + 1 := by unfold colStep; split <;> omega
    rw [this]; simp; omega
theorem run_n (cs : List Int) : (wsRun cs).n = colOf 1 cs := by
  unfold wsRun colOf
  rw [n_len, col_one_len]
theorem nt_nonneg : ∀ (cs : List Int) (σ : WsSt), 0 ≤ σ.nt → 0 ≤ (cs.foldl wsStep σ).nt
  | [], σ, h => h
  | c :: r, σ, h => by
    rw [List.foldl_cons]
    refine nt_nonneg r _ ?_
    unfold wsStep; split
    · exact h
    · show 0 ≤ σ.nt + 1; omega
end Mine
end

-- part C2
section
open PySem PySem.W PySem.Calls PyProof.Rows
set_option maxRecDepth 100000
set_option maxHeartbeats 4000000
namespace Mine

def leadStep (lead : Str) (x : Int) : Str :=
  Txt.slice lead none (some (if (lead.length : Int) - (x.fdiv 4).fmod 4 > 0 then (lead.length : Int) - (x.fdiv 4).fmod 4 else 0)) ++
    [Str.ofString " ", Str.ofString "\t", Str.ofString " \t", Str.ofString "\t "].getD (x.fmod 4).toNat Str.empty
def leadsFrom (lead : Str) : List Int → List Str
  | [] => []
  | x :: xs => leadStep lead x :: leadsFrom (leadStep lead x) xs
theorem leadsFrom_length (lead : Str) : ∀ xs : List Int, (leadsFrom lead xs).length = xs.length
  | [] => rfl
  | x :: xs => congrArg (· + 1) (leadsFrom_length _ xs)
theorem leadsFrom_snoc (lead : Str) (x : Int) : ∀ xs : List Int, leadsFrom lead (xs ++ [x]) = leadsFrom lead xs ++ [leadStep (xs.foldl leadStep lead) x]
  | [] => rfl
  | y :: ys => congrArg (leadStep lead y :: ·) (leadsFrom_snoc _ x ys)
theorem menu_len (n : Nat) : ([Str.ofString " ", Str.ofString "\t", Str.ofString " \t", Str.ofString "\t "].getD n Str.empty).length ≤ 2 := by
  rcases n with _ | _ | _ | _ | n
  · decide
  · decide
  · decide
  · decide
  · simp [List.getD, Str.empty, Str.length]
def LeadsInv (pre : List Int) (leads : List Str) (lead : Str) : Prop := leads = leadsFrom (Str.ofString "") pre ∧ lead = pre.foldl leadStep (Str.ofString "")
theorem leads_len {pre : List Int} {leads : List Str} {lead : Str} (h : LeadsInv pre leads lead) : leads.length = pre.length := by rw [h.1, leadsFrom_length]

theorem leads_start : ([] : List Str).length = ([] : List Int).length ∧ (Str.ofString "").length ≤ 2 * ([] : List Int).length ∧ LeadsInv [] [] (Str.ofString "") := ⟨rfl, by decide, rfl, rfl⟩
theorem leads_turn {pre : List Int} {leads : List Str} {lead : Str} {x : Int} (h1 : leads.length = pre.length) (h2 : lead.length ≤ 2 * pre.length) (h3 : LeadsInv pre leads lead) :
    (leads ++ [leadStep lead x]).length = (pre ++ [x]).length ∧ (leadStep lead x).length ≤ 2 * (pre ++ [x]).length ∧ LeadsInv (pre ++ [x]) (leads ++ [leadStep lead x]) (leadStep lead x) := by
  refine ⟨by simp [h1], ?_, ?_, ?_⟩
  · have a := PyProof.Txt.length_slice_le lead none (some (if (lead.length : Int) - (x.fdiv 4).fmod 4 > 0 then (lead.length : Int) - (x.fdiv 4).fmod 4 else 0))
    have b := menu_len (x.fmod 4).toNat
    unfold leadStep
    rw [Str.length_append]
    simp only [List.length_append, List.length_cons, List.length_nil]
    omega
  · rw [leadsFrom_snoc, ← h3.1, ← h3.2]
  · rw [List.foldl_append, ← h3.2]; rfl
theorem leads_spec {w : World} {A : Around} {R : Result → Shared → Prop} {s : Shared} {mg mb : Str → Option Value}
   (X : (hd.heap_39 w.params).In s.heap) (T : TopRead lawView (looseW lawView [Str.ofString "Whitespace", Str.ofString "islice"]) mg mb s.heap) (hdep : A.depth + 10 < recursionLimit) (hh : A.handled = none) 
   (l : Addr) (vs : List Value) (ns : List Int) (hl : s.heap.IsList l vs.toArray) (hi : IntsAre vs ns) (hn : ns.length ≤ 8)
   (k : ∀ h' tk o vs' n, (∀ b o, s.heap.get? b = some o → h'.get? b = some o) → s.heap.get? o = none → h'.get? o = some (listOf vs'.toArray n) → StrsAre vs' (leadsFrom (Str.ofString "") ns) → R (.ok (.ret (.ref o))) {s with heap := h', toks := tk}) :
   codeAny (model PySem.Challenge.rw_ij0041_01.row.prog w) A (.call (.ref 183) ⟨[.ref l], []⟩) R s := by
  obtain ⟨hnd, dep, frs, gds, uns⟩ := A
  dsimp only at hh hdep
  subst hh
  w_on
  revert X T
  k_fill
  intro X T
  refine' enter (binds := [(Str.ofString "numbers", .ref l)]) ?kX ?klim ?ko ?kcd ?kroom ?kb ?kloc ?_ ?c1 ?c2 ?c3 ?c4
  case kX => exact X
  case ko => k_is
  case klim => exact T.nolimit
  case kcd => k_is
  case kroom => show dep < _; omega
  case kb => exact BindsTo.of_eq rfl
  case kloc => exact locs rfl
  case c1 => decide
  case c2 => rfl
  case c3 => rfl
  case c4 => rfl
  intro L h F N
  try dsimp only
  try k_fold
  k_with "state" => first | exact leads_start | exact leads_turn (by assumption) (by assumption) (by assumption)
  k_with "table" => skip
  k_with "pyIter ref" => k_state (fun pre leads lead => leads.length = pre.length ∧ lead.length ≤ 2 * pre.length ∧ LeadsInv pre leads lead) "leads$" "lead"
  k_steps
  rename LeadsInv _ _ _ => hI
  rename StrsAre _ _ => hS
  rename Fr _ _ _ _ => hF
  rename News _ _ _ _ => hN
  refine k _ _ _ _ _ hF.keep (hN.fresh (by k_mem)) (hN.get (by k_mem)) (hI.1 ▸ hS)
end Mine
end

-- part D1
section
open PySem PySem.W PySem.Calls PyProof.Rows
set_option maxRecDepth 100000
set_option maxHeartbeats 4000000
namespace Mine

theorem kind_spec {w : World} {A : Around} {R : Result → Shared → Prop} {s : Shared} {mg mb : Str → Option Value}
   (X : (hd.heap_39 w.params).In s.heap) (T : TopRead lawView Loo mg mb s.heap) (hdep : A.depth + 40 < recursionLimit) (hh : A.handled = none) 
   (nm x : Str) (tn tx : Tok)
   (k : ∀ h' tk t', (∀ b o, s.heap.get? b = some o → h'.get? b = some o) → R (.ok (.ret (.str (Str.ofString "") t'))) {s with heap := h', toks := tk}) :
   codeAny (model PySem.Challenge.rw_ij0041_01.row.prog w) A (.call (.ref 155) ⟨[.str nm tn, .str x tx], []⟩) R s := by
  obtain ⟨hnd, dep, frs, gds, uns⟩ := A
  dsimp only at hh hdep
  subst hh
  w_on
  revert X T
  k_fill
  intro X T
  refine' enter (binds := [(Str.ofString "name", .str nm tn), (Str.ofString "x", .str x tx)]) ?kX ?klim ?ko ?kcd ?kroom ?kb ?kloc ?_ ?c1 ?c2 ?c3 ?c4
  case kX => exact X
  case ko => k_is
  case klim => exact T.nolimit
  case kcd => k_is
  case kroom => show dep < _; omega
  case kb => exact BindsTo.of_eq rfl
  case kloc => exact locs rfl
  case c1 => decide
  case c2 => rfl
  case c3 => rfl
  case c4 => rfl
  intro L h F N
  try dsimp only
  try k_fold
  k_steps
  exact k _ _ _ (Fr.keep (by assumption))
theorem kind_use {w : World} {A : Around} {E : Value → Shared → Prop} {s : Shared} {mg mb : Str → Option Value} {g : Heap} {L : Addr} {m : Str → Option Value} {news : List (Addr × Obj)} {Q : Value → Shared → Prop} {nm x : Str} {tn tx : Tok}
    (F : Fr g L s.heap m) (N : News g L s.heap news) (X : (hd.heap_39 w.params).In g) (T : TopRead lawView Loo mg mb g) (hdep : A.depth + 40 < recursionLimit) (hh : A.handled = none)
    (h : ∀ h' tk t', Fr g L h' m → News g L h' news → Q (.str (Str.ofString "") t') { s with heap := h', toks := tk }) : wpAny (model PySem.Challenge.rw_ij0041_01.row.prog w) A (call (.ref 155) [.str nm tn, .str x tx] []) Q E s :=
  wpAny_call (kind_spec (X.keeps F.keep) (T.keeps F.keep) hdep hh nm x tn tx fun h' tk t' hk => h h' tk t' (F.keeps hk) (News.grown N hk))

local macro_rules | `(tactic| walk_at "call ref") => `(tactic| (k_here; (try dsimp only [List.append_nil, List.cons_append, List.nil_append]); (with_reducible show wpAny _ _ (call (Value.ref 155) _ _) _ _ _); k_dflt (refine' kind_use ?F ?N ?X ?T ?hd ?hh ?_; (case F => k_asm); (case N => k_asm); (case X => k_asm); (case T => k_asm); (case hh => rfl); (case hd => (simp only [depth_deeper]; omega))); intro h' tk' t' F' N'))
theorem fspath_spec {w : World} {A : Around} {R : Result → Shared → Prop} {s : Shared} {mg mb : Str → Option Value}
   (X : (hd.heap_39 w.params).In s.heap) (T : TopRead lawView Loo mg mb s.heap) (hdep : A.depth + 60 < recursionLimit) (hh : A.handled = none) 
   (nm x : Str) (tn tx : Tok)
   (k : ∀ h' tk t', (∀ b o, s.heap.get? b = some o → h'.get? b = some o) → R (.ok (.ret (.str x t'))) {s with heap := h', toks := tk}) :
   codeAny (model PySem.Challenge.rw_ij0041_01.row.prog w) A (.call (.ref 162) ⟨[.str nm tn, .str x tx], []⟩) R s := by
  obtain ⟨hnd, dep, frs, gds, uns⟩ := A
  dsimp only at hh hdep
  subst hh
  w_on
  revert X T
  k_fill
  intro X T
  refine' enter (binds := [(Str.ofString "name", .str nm tn), (Str.ofString "x", .str x tx)]) ?kX ?klim ?ko ?kcd ?kroom ?kb ?kloc ?_ ?c1 ?c2 ?c3 ?c4
  case kX => exact X
  case ko => k_is
  case klim => exact T.nolimit
  case kcd => k_is
  case kroom => show dep < _; omega
  case kb => exact BindsTo.of_eq rfl
  case kloc => exact locs rfl
  case c1 => decide
  case c2 => rfl
  case c3 => rfl
  case c4 => rfl
  intro L h F N
  try dsimp only
  try k_fold
  k_steps
  exact k _ _ _ (Fr.keep (by assumption))
theorem fspath_use {w : World} {A : Around} {E : Value → Shared → Prop} {s : Shared} {mg mb : Str → Option Value} {g : Heap} {L : Addr} {m : Str → Option Value} {news : List (Addr × Obj)} {Q : Value → Shared → Prop} {nm x : Str} {tn tx : Tok}
    (F : Fr g L s.heap m) (N : News g L s.heap news) (X : (hd.heap_39 w.params).In g) (T : TopRead lawView Loo mg mb g) (hdep : A.depth + 60 < recursionLimit) (hh : A.handled = none)
    (h : ∀ h' tk t', Fr g L h' m → News g L h' news → Q (.str x t') { s with heap := h', toks := tk }) : wpAny (model PySem.Challenge.rw_ij0041_01.row.prog w) A (call (.ref 162) [.str nm tn, .str x tx] []) Q E s :=
  wpAny_call (fspath_spec (X.keeps F.keep) (T.keeps F.keep) hdep hh nm x tn tx fun h' tk t' hk => h h' tk t' (F.keeps hk) (News.grown N hk))

local macro_rules | `(tactic| walk_at "call ref") => `(tactic| (k_here; (try dsimp only [List.append_nil, List.cons_append, List.nil_append]); (with_reducible show wpAny _ _ (call (Value.ref 162) _ _) _ _ _); k_dflt (refine' fspath_use ?F ?N ?X ?T ?hd ?hh ?_; (case F => k_asm); (case N => k_asm); (case X => k_asm); (case T => k_asm); (case hh => rfl); (case hd => (simp only [depth_deeper]; omega))); intro h' tk' t' F' N'))
def headCut (p : Str) : Str := Txt.slice p none (some (Txt.rfind p (Str.ofString "/") + 1))
def headOf (p : Str) : Str := if ((headCut p).length : Int) ≠ 0 ∧ (headCut p != Txt.mul (Str.ofString "/") ((headCut p).length : Int)) = true then Txt.rstripChars (headCut p) (Str.ofString "/") else headCut p
def tailOf (p : Str) : Str := Txt.slice p (some (Txt.rfind p (Str.ofString "/") + 1)) none
theorem headOf1 {p : Str} (h1 : ((headCut p).length : Int) ≠ 0) (h2 : (headCut p != Txt.mul (Str.ofString "/") ((headCut p).length : Int)) = true) : Txt.rstripChars (headCut p) (Str.ofString "/") = headOf p := by unfold headOf; rw [if_pos ⟨h1, h2⟩]
theorem headOf2 {p : Str} (h2 : (headCut p != Txt.mul (Str.ofString "/") ((headCut p).length : Int)) = false) : headCut p = headOf p := by
  unfold headOf; rw [if_neg fun h => by rw [h2] at h; exact absurd h.2 (by decide)]
theorem headOf3 {p : Str} (h1 : ((headCut p).length : Int) = 0) : headCut p = headOf p := by unfold headOf; rw [if_neg fun h => h.1 h1]
theorem split_spec {w : World} {A : Around} {R : Result → Shared → Prop} {s : Shared} {mg mb : Str → Option Value}
   (X : (hd.heap_39 w.params).In s.heap) (T : TopRead lawView Loo mg mb s.heap) (hdep : A.depth + 80 < recursionLimit) (hh : A.handled = none) 
   (p : Str) (tp : Tok) (hp : p.length ≤ 100)
   (k : ∀ h' tk o hd t1 t2, hd = headOf p → (∀ b o, s.heap.get? b = some o → h'.get? b = some o) → s.heap.get? o = none → h'.get? o = some (tupO [.str hd t1, .str (tailOf p) t2]) → R (.ok (.ret (.ref o))) {s with heap := h', toks := tk}) :
   codeAny (model PySem.Challenge.rw_ij0041_01.row.prog w) A (.call (.ref 169) ⟨[.str p tp], []⟩) R s := by
  obtain ⟨hnd, dep, frs, gds, uns⟩ := A
  dsimp only at hh hdep
  subst hh
  w_on
  revert X T
  k_fill
  intro X T
  refine' enter (binds := [(Str.ofString "p", .str p tp)]) ?kX ?klim ?ko ?kcd ?kroom ?kb ?kloc ?_ ?c1 ?c2 ?c3 ?c4
  case kX => exact X
  case ko => k_is
  case klim => exact T.nolimit
  case kcd => k_is
  case kroom => show dep < _; omega
  case kb => exact BindsTo.of_eq rfl
  case kloc => exact locs rfl
  case c1 => decide
  case c2 => rfl
  case c3 => rfl
  case c4 => rfl
  intro L h F N
  try dsimp only
  try k_fold
  k_steps
  · rename Fr _ _ _ _ => F9
    rename News _ _ _ _ => N9
    exact k _ _ _ _ _ _ (headOf1 (by assumption) (by assumption)) F9.keep (N9 _ (.head _)).2.2 (N9 _ (.head _)).1
  · rename Fr _ _ _ _ => F9
    rename News _ _ _ _ => N9
    exact k _ _ _ _ _ _ (headOf2 (by assumption)) F9.keep (N9 _ (.head _)).2.2 (N9 _ (.head _)).1
  · rename Fr _ _ _ _ => F9
    rename News _ _ _ _ => N9
    exact k _ _ _ _ _ _ (headOf3 (by assumption)) F9.keep (N9 _ (.head _)).2.2 (N9 _ (.head _)).1
end Mine
end

-- part P2
section
open PySem PySem.W PySem.Calls PyProof.Rows
namespace Mine

/-! texts with slashes -/
def Slashes (r : List Nat) : Prop := ∀ c ∈ r, c = 47
theorem takeWhile_pre {r b : List Nat} (hr : Slashes r) (hb : b.head? ≠ some 47) : (r ++ b).takeWhile (fun c => (#[47] : Array Nat).contains c) = r := by
  induction r with
  | nil =>
    cases b with
    | nil => rfl
    | cons x b =>
      have : x ≠ 47 := fun e => hb (by rw [e]; rfl)
      simp [List.takeWhile, this]
  | cons x r ih =>
    have e : x = 47 := hr x (.head _)
    subst e
    have := ih (fun c hc => hr c (.tail _ hc))
    simp only [List.cons_append, List.takeWhile]
    rw [this]; simp
theorem str_ext {x y : Str} (h : x.cps.toList = y.cps.toList) : x = y := Str.ext' (Array.toList_inj.mp h)

theorem rstrip_spec {x a : Str} {r : List Nat} (h : x.cps.toList = a.cps.toList ++ r) (hr : Slashes r) (ha : a.cps.toList.getLast? ≠ some 47) : Txt.rstripChars x (Str.ofString "/") = a := by
  refine str_ext ?_
  unfold Txt.rstripChars
  rw [PyProof.Rows.stripBy_eq, StrLaws.strSub_toList]
  have e1 : (Str.ofString "/").cps = #[47] := by decide
  rw [e1]
  have e2 : PySem.stripLo (fun c => (#[47] : Array Nat).contains c) false x = 0 := rfl
  show List.take (PySem.stripHi (fun c => (#[47] : Array Nat).contains c) true x (PySem.stripLo (fun c => (#[47] : Array Nat).contains c) false x) - PySem.stripLo (fun c => (#[47] : Array Nat).contains c) false x) (List.drop (PySem.stripLo (fun c => (#[47] : Array Nat).contains c) false x) x.cps.toList) = a.cps.toList
  rw [e2]
  unfold PySem.stripHi
  simp only [if_true, List.drop_zero, Nat.sub_zero]
  rw [h, List.reverse_append]
  have hr' : Slashes r.reverse := fun c hc => hr c (List.mem_reverse.mp hc)
  rw [takeWhile_pre hr' (by rw [List.head?_reverse]; exact ha), List.length_reverse]
  have hl : x.length = a.cps.toList.length + r.length := by
    have := congrArg List.length h
    rw [List.length_append] at this
    simpa [Str.length] using this
  have : x.length - r.length = a.cps.toList.length := by omega
  rw [this, List.take_left']
  rfl
theorem at_slash {x : Str} {i : Nat} : StrLaws.At x (Str.ofString "/") x.length i ↔ x.cps.toList[i]? = some 47 := by
  have hl : (Str.ofString "/").length = 1 := by decide
  have hc : (Str.ofString "/").cps.toList = [47] := by decide
  have hx : x.length = x.cps.toList.length := by simp [Str.length]
  unfold StrLaws.At
  rw [StrLaws.subAt_eq, hl, hc, hx]
  constructor
  · rintro ⟨h1, h2⟩
    have := eq_of_beq h2
    have h3 := congrArg (·[0]?) this
    simpa [List.getElem?_take, List.getElem?_drop] using h3
  · intro h
    have hlt : i < x.cps.toList.length := by
      rcases Nat.lt_or_ge i x.cps.toList.length with h1 | h1
      · exact h1
      · rw [List.getElem?_eq_none h1] at h; cases h
    refine ⟨hlt, ?_⟩
    rw [List.drop_eq_getElem_cons hlt]
    rw [List.getElem?_eq_getElem hlt] at h
    simp [Option.some.inj h]
theorem rfind_none {x : Str} (h : ∀ c ∈ x.cps.toList, c ≠ 47) : Txt.rfind x (Str.ofString "/") = -1 := by
  unfold Txt.rfind
  rcases StrLaws.last_spec x (Str.ofString "/") with ⟨h0, _⟩ | ⟨i, h0, hi, _⟩
  · rw [h0]
  · exfalso
    exact h 47 (List.mem_of_getElem? (at_slash.mp hi)) rfl
theorem rfind_at {x : Str} {a : List Nat} {c : Nat} (h : x.cps.toList = a ++ [47, c]) (hc : c ≠ 47) : Txt.rfind x (Str.ofString "/") = (a.length : Int) := by
  unfold Txt.rfind
  have hat : x.cps.toList[a.length]? = some 47 := by rw [h]; simp
  have hnot : ∀ k, a.length < k → x.cps.toList[k]? ≠ some 47 := by
    intro k hk e
    rw [h, List.getElem?_append_right (by omega)] at e
    rcases hq : k - a.length with _ | _ | _ | n
    · omega
    · rw [hq] at e; simp at e; exact hc e
    · rw [hq] at e; simp at e
    · rw [hq] at e; simp at e
  rcases StrLaws.last_spec x (Str.ofString "/") with ⟨_, hn⟩ | ⟨i, h0, hi, hn⟩
  · exact absurd (at_slash.mpr hat) (hn a.length)
  · rw [h0]
    have : i = a.length := by
      rcases Nat.lt_trichotomy i a.length with h1 | h1 | h1
      · exact absurd (at_slash.mpr hat) (hn a.length h1)
      · exact h1
      · exact absurd (at_slash.mp hi) (hnot i h1)
    rw [this]
theorem slice_to {x : Str} {j : Int} (h : 0 ≤ j ∧ j ≤ x.cps.toList.length) : (Txt.slice x none (some j)).cps.toList = x.cps.toList.take j.toNat := by
  have := eq_of_beq (slice_closes_to h)
  rw [this]; simp

inductive Anc : Str → List Str → Prop
  | one {p : Str} {c : Nat} : p.cps.toList = [c] → c ≠ 47 → Anc p [p]
  | cons {p q : Str} {r : List Str} {k c : Nat} : Anc q r → p.cps.toList = q.cps.toList ++ List.replicate k 47 ++ [47, c] → c ≠ 47 → Anc p (p :: r)
theorem anc_last {p : Str} {r : List Str} (h : Anc p r) : ∃ l c, p.cps.toList = l ++ [c] ∧ c ≠ 47 := by
  cases h with
  | one h hc => exact ⟨[], _, h, hc⟩
  | @cons p q r k c _ h hc => exact ⟨q.cps.toList ++ List.replicate k 47 ++ [47], c, by rw [h]; simp, hc⟩
theorem anc_getLast {p : Str} {r : List Str} (h : Anc p r) : p.cps.toList.getLast? ≠ some 47 := by
  obtain ⟨l, c, e, hc⟩ := anc_last h
  rw [e]; simpa using hc
theorem anc_ne {p : Str} {r : List Str} (h : Anc p r) : p.length ≠ 0 := by
  obtain ⟨l, c, e, hc⟩ := anc_last h
  have := congrArg List.length e
  rw [List.length_append] at this
  intro e0
  simp [Str.length] at this e0
  rw [e0] at this
  simp at this
theorem anc_rstrip {p : Str} {r : List Str} (h : Anc p r) : Txt.rstripChars p (Str.ofString "/") = p := rstrip_spec (r := []) (by simp) (fun _ h => nomatch h) (anc_getLast h)
theorem anc_rstrip_more {p x : Str} {r : List Str} {k : Nat} (h : Anc p r) (hx : x.cps.toList = p.cps.toList ++ List.replicate k 47) : Txt.rstripChars x (Str.ofString "/") = p :=
  rstrip_spec hx (fun c hc => (List.mem_replicate.mp hc).2) (anc_getLast h)
theorem head_one {p : Str} {c : Nat} (h : p.cps.toList = [c]) (hc : c ≠ 47) : headOf p = Str.empty := by
  have h1 : Txt.rfind p (Str.ofString "/") = -1 := rfind_none (by rw [h]; simpa using hc)
  have h2 : headCut p = Str.empty := by
    refine str_ext ?_
    unfold headCut
    rw [h1, slice_to ⟨by decide, by rw [h]; simp⟩]
    simp [Str.empty]
  unfold headOf
  rw [h2]
  rw [if_neg (by decide)]
theorem head_cons {p q : Str} {r : List Str} {k c : Nat} (hq : Anc q r) (h : p.cps.toList = q.cps.toList ++ List.replicate k 47 ++ [47, c]) (hc : c ≠ 47) : headOf p = q := by
  have h1 := rfind_at h hc
  have hl : (q.cps.toList ++ List.replicate k 47).length = q.cps.toList.length + k := by simp
  have h2 : (headCut p).cps.toList = q.cps.toList ++ List.replicate (k + 1) 47 := by
    unfold headCut
    rw [h1, slice_to ⟨by omega, by rw [h]; simp only [List.length_append, List.length_cons, List.length_nil]; omega⟩, h]
    have : ((((q.cps.toList ++ List.replicate k 47).length : Nat) : Int) + 1).toNat = (q.cps.toList ++ List.replicate k 47 ++ [47]).length := by rw [List.length_append]; simp; omega
    rw [this]
    have e : q.cps.toList ++ List.replicate k 47 ++ [47, c] = (q.cps.toList ++ List.replicate k 47 ++ [47]) ++ [c] := by simp
    rw [e, List.take_left']
    · rw [List.replicate_succ']; simp
    · rfl
  have h3 : (headCut p).length = q.cps.toList.length + (k + 1) := by
    have := congrArg List.length h2
    simpa [Str.length] using this
  have hcond : (headCut p != Txt.mul (Str.ofString "/") ((headCut p).length : Int)) = true := by
    rw [bne_iff_ne]
    intro e
    have e1 : Str.ofString "/" = ⟨#[47]⟩ := by decide
    have := congrArg (fun s : Str => s.cps.toList) e
    rw [h2, e1, mul_one_list] at this
    obtain ⟨l, d, ed, hd⟩ := anc_last hq
    rw [ed] at this
    have hm : d ∈ List.replicate ((headCut p).length : Int).toNat 47 := by rw [← this]; simp
    exact hd (List.mem_replicate.mp hm).2
  unfold headOf
  rw [if_pos ⟨by rw [h3]; omega, hcond⟩]
  exact anc_rstrip_more hq h2
end Mine
end

-- part P3
section
open PySem PySem.W PySem.Calls PyProof.Rows
namespace Mine
def BlankS (s : Str) : Prop := ∀ c ∈ s.cps.toList, c = 32 ∨ c = 9
theorem blank_of {s : Str} (h : BlankS s) : Blank (KStt.codes s) := by
  intro c hc
  unfold KStt.codes at hc
  obtain ⟨d, hd, rfl⟩ := List.mem_map.mp hc
  rcases h d hd with rfl | rfl
  · exact .inl rfl
  · exact .inr rfl
theorem blank_menu (n : Nat) : BlankS ([Str.ofString " ", Str.ofString "\t", Str.ofString " \t", Str.ofString "\t "].getD n Str.empty) := by
  rcases n with _ | _ | _ | _ | n
  · intro c hc; have : c ∈ [32] := hc; simp at this; omega
  · intro c hc; have : c ∈ [9] := hc; simp at this; omega
  · intro c hc; have : c ∈ [32, 9] := hc; simp at this; omega
  · intro c hc; have : c ∈ [9, 32] := hc; simp at this; omega
  · intro c hc
    simp [List.getD, Str.empty] at hc
theorem fmod4 (y : Int) : 0 ≤ y.fmod 4 := Int.fmod_nonneg_of_pos y (by decide)
theorem blank_step {lead : Str} (h : BlankS lead) (x : Int) : BlankS (leadStep lead x) := by
  intro c hc
  unfold leadStep at hc
  rw [Str.cps_append, Array.toList_append, List.mem_append] at hc
  rcases hc with hc | hc
  · have hm := fmod4 (x.fdiv 4)
    have hl : lead.length = lead.cps.toList.length := by simp [Str.length]
    rw [slice_to ⟨by split <;> omega, by rw [← hl]; split <;> omega⟩] at hc
    exact h c (List.mem_of_mem_take hc)
  · exact blank_menu _ c hc
theorem len_step (lead : Str) (x : Int) : (leadStep lead x).length ≤ lead.length + 2 := by
  have a := PyProof.Txt.length_slice_le lead none (some (if (lead.length : Int) - (x.fdiv 4).fmod 4 > 0 then (lead.length : Int) - (x.fdiv 4).fmod 4 else 0))
  have b := menu_len (x.fmod 4).toNat
  unfold leadStep
  rw [Str.length_append]
  omega
theorem leads_ok : ∀ (xs : List Int) (lead : Str), BlankS lead → ∀ y ∈ leadsFrom lead xs, y.length ≤ lead.length + 2 * xs.length ∧ BlankS y
  | [], _, _, y, hy => nomatch hy
  | x :: xs, lead, h, y, hy => by
    have hs := blank_step h x
    have hn := len_step lead x
    rcases List.mem_cons.mp hy with rfl | hy
    · exact ⟨by simp only [List.length_cons]; omega, hs⟩
    · have := leads_ok xs (leadStep lead x) hs y hy
      exact ⟨by simp only [List.length_cons]; omega, this.2⟩
theorem leads_fine {ns : List Int} (h : ns.length ≤ 8) : ∀ y ∈ leadsFrom (Str.ofString "") ns, y.length ≤ 16 ∧ BlankS y := fun y hy => by
  have := leads_ok ns (Str.ofString "") (fun c hc => by have : c ∈ ([] : List Nat) := hc; cases this) y hy
  have e : (Str.ofString "").length = 0 := by decide
  exact ⟨by omega, this.2⟩
end Mine
end

-- part M2
section
open PySem PySem.W PySem.Calls PyProof.Rows
namespace Mine

theorem lex_iff {ts b1 b2 n1 n2 : Int} (h1 : 0 ≤ b1) (h2 : b1 < ts) (h3 : 0 ≤ b2) (h4 : b2 < ts) : b1 + ts * n1 < b2 + ts * n2 ↔ (n1 < n2 ∨ (n1 = n2 ∧ b1 < b2)) := by
  have hts : 0 ≤ ts := by omega
  have mono : ∀ a b : Int, a < b → ts * a + ts ≤ ts * b := fun a b h => by
    have := Int.mul_le_mul_of_nonneg_left (show a + 1 ≤ b by omega) hts
    rw [Int.mul_add, Int.mul_one] at this
    exact this
  constructor
  · intro h
    rcases Int.lt_trichotomy n1 n2 with h5 | h5 | h5
    · exact .inl h5
    · subst h5; exact .inr ⟨rfl, by omega⟩
    · have := mono _ _ h5; omega
  · rintro (h | ⟨rfl, h⟩)
    · have := mono _ _ h; omega
    · omega
theorem run_facts {c : List Int} (h : Blank c) : 0 ≤ (wsRun c).b ∧ 0 ≤ (wsRun c).nt := ⟨(wsInv_run h).2.2.1, nt_nonneg c _ (Int.le_refl _)⟩
open Classical in
theorem lessB_iff {σ σ2 : WsSt} : lessB σ σ2 = true ↔ LessIs σ σ2 true := by
  unfold lessB
  exact decide_eq_true_iff
theorem less_cols {c1 c2 : List Int} (h1 : Blank c1) (h2 : Blank c2) {M : Int} (hm1 : longestOf (wsRun c1) ≤ M) (hm2 : longestOf (wsRun c2) ≤ M) :
    lessB (wsRun c1) (wsRun c2) = true ↔ ∀ ts : Int, 1 ≤ ts → ts < M + 2 → colOf ts c1 < colOf ts c2 := by
  obtain ⟨hb1, hn1⟩ := run_facts h1
  obtain ⟨hb2, hn2⟩ := run_facts h2
  have hcol1 : ∀ ts : Int, 1 ≤ ts → colOf ts c1 = (wsRun c1).b + ts * (colSum ts 0 (wsRun c1).cs + (wsRun c1).nt) := fun ts hts => col_inv hts h1
  have hcol2 : ∀ ts : Int, 1 ≤ ts → colOf ts c2 = (wsRun c2).b + ts * (colSum ts 0 (wsRun c2).cs + (wsRun c2).nt) := fun ts hts => col_inv hts h2
  have hi1 : ∀ ts : Int, 1 ≤ ts → indentOf (wsRun c1) ts = colOf ts c1 := fun ts hts => indent_col hts h1
  have hi2 : ∀ ts : Int, 1 ≤ ts → indentOf (wsRun c2) ts = colOf ts c2 := fun ts hts => indent_col hts h2
  have hl1 : (wsRun c1).b ≤ longestOf (wsRun c1) ∧ ((wsRun c1).cs.length : Int) - 1 ≤ longestOf (wsRun c1) := by unfold longestOf; split <;> omega
  have hl2 : (wsRun c2).b ≤ longestOf (wsRun c2) ∧ ((wsRun c2).cs.length : Int) - 1 ≤ longestOf (wsRun c2) := by unfold longestOf; split <;> omega
  have hr1 := run_n c1
  have hr2 := run_n c2
  have hmx : longestOf (wsRun c1) ≤ runMax (wsRun c1) (wsRun c2) ∧ longestOf (wsRun c2) ≤ runMax (wsRun c1) (wsRun c2) ∧ runMax (wsRun c1) (wsRun c2) ≤ M := by unfold runMax; split <;> omega
  generalize runMax (wsRun c1) (wsRun c2) = m at hmx
  generalize hσ1 : wsRun c1 = σ1 at *
  generalize hσ2 : wsRun c2 = σ2 at *
  have big1 : ∀ ts : Int, longestOf σ1 + 1 ≤ ts → 1 ≤ ts → colOf ts c1 = σ1.b + ts * σ1.nt := fun ts ht ht1 => by
    rw [hcol1 ts ht1, colSum_small ht1 σ1.cs 0 (Int.le_refl _) (by omega), Int.zero_add]
  have big2 : ∀ ts : Int, longestOf σ2 + 1 ≤ ts → 1 ≤ ts → colOf ts c2 = σ2.b + ts * σ2.nt := fun ts ht ht1 => by
    rw [hcol2 ts ht1, colSum_small ht1 σ2.cs 0 (Int.le_refl _) (by omega), Int.zero_add]
  have hmm : runMax σ1 σ2 ≤ M ∧ longestOf σ1 ≤ runMax σ1 σ2 ∧ longestOf σ2 ≤ runMax σ1 σ2 := by unfold runMax; split <;> omega
  rw [lessB_iff]
  constructor
  · rintro (⟨_, h⟩ | ⟨hn, ⟨s1, s2, hnt⟩ | ⟨_, hlow⟩⟩) ts ht1 ht2
    · cases h
    · have hnt := (decide_eq_true_eq.mp hnt.symm)
      rw [hr1, hr2] at hn
      have e1 : ∀ t : Int, 1 ≤ t → colOf t c1 = σ1.b + t * σ1.nt := fun t ht => by rw [hcol1 t ht, colSum_small ht σ1.cs 0 (Int.le_refl _) (by omega), Int.zero_add]
      have e2 : ∀ t : Int, 1 ≤ t → colOf t c2 = σ2.b + t * σ2.nt := fun t ht => by rw [hcol2 t ht, colSum_small ht σ2.cs 0 (Int.le_refl _) (by omega), Int.zero_add]
      rw [e1 1 (by omega), e2 1 (by omega)] at hn
      rw [e1 ts ht1, e2 ts ht1]
      have hk : (ts - 1) * σ1.nt ≤ (ts - 1) * σ2.nt := Int.mul_le_mul_of_nonneg_left hnt (by omega)
      have f1 : (ts - 1) * σ1.nt = ts * σ1.nt - σ1.nt := by rw [Int.sub_mul, Int.one_mul]
      have f2 : (ts - 1) * σ2.nt = ts * σ2.nt - σ2.nt := by rw [Int.sub_mul, Int.one_mul]
      omega
    · have hlow := hlow.mp rfl
      have low : ∀ t : Int, 2 ≤ t → t ≤ runMax σ1 σ2 + 1 → colOf t c1 < colOf t c2 := fun t ht ht' => by
        have := hlow (t - 2).toNat (by omega)
        have e : (2 : Int) + (((t - 2).toNat : Nat) : Int) * 1 = t := by omega
        rw [e, hi1 t (by omega), hi2 t (by omega)] at this
        exact this
      rw [hr1, hr2] at hn
      rcases (show ts = 1 ∨ (2 ≤ ts ∧ ts ≤ runMax σ1 σ2 + 1) ∨ (2 ≤ ts ∧ runMax σ1 σ2 + 1 < ts) by omega) with rfl | ⟨h5, h6⟩ | ⟨h5, h6⟩
      · exact hn
      · exact low ts h5 h6
      · rw [big1 ts (by omega) ht1, big2 ts (by omega) ht1]
        refine (lex_iff hb1 (by omega) hb2 (by omega)).mpr ?_
        rcases (show runMax σ1 σ2 + 1 = 1 ∨ 2 ≤ runMax σ1 σ2 + 1 by omega) with h7 | h7
        · rw [big1 1 (by omega) (by omega), big2 1 (by omega) (by omega)] at hn
          omega
        · have := low _ h7 (Int.le_refl _)
          rw [big1 _ (by omega) (by omega), big2 _ (by omega) (by omega)] at this
          exact (lex_iff hb1 (by omega) hb2 (by omega)).mp this
  · intro h
    have hn : σ1.n < σ2.n := by rw [hr1, hr2]; exact h 1 (by omega) (by omega)
    refine .inr ⟨hn, ?_⟩
    by_cases hs : σ1.cs.length ≤ 1 ∧ σ2.cs.length ≤ 1
    · refine .inl ⟨hs.1, hs.2, ?_⟩
      have := h (M + 1) (by omega) (by omega)
      rw [big1 _ (by omega) (by omega), big2 _ (by omega) (by omega)] at this
      have := (lex_iff hb1 (by omega) hb2 (by omega)).mp this
      exact (decide_eq_true (by omega)).symm
    · refine .inr ⟨hs, ⟨fun _ j hj => ?_, fun _ => rfl⟩⟩
      rw [hi1 _ (by omega), hi2 _ (by omega)]
      exact h _ (by omega) (by omega)

/-! the runs of a text split at the tabs -/
def joinNine : List (List Int) → List Int
  | [] => []
  | [p] => p
  | p :: q :: r => p ++ 9 :: joinNine (q :: r)
theorem tab_one : Str.ofString "\t" = ⟨#[9]⟩ := by decide
theorem codes_append (a b : Str) : KStt.codes (a ++ b) = KStt.codes a ++ KStt.codes b := by
  unfold KStt.codes
  rw [Str.cps_append, Array.toList_append, List.map_append]
theorem codes_join : ∀ ps : List Str, KStt.codes (Str.join (Str.ofString "\t") ps) = joinNine (ps.map KStt.codes)
  | [] => rfl
  | [p] => rfl
  | p :: q :: r => by
    rw [show Str.join (Str.ofString "\t") (p :: q :: r) = p ++ Str.ofString "\t" ++ Str.join (Str.ofString "\t") (q :: r) from rfl, codes_append, codes_append, codes_join (q :: r)]
    have : KStt.codes (Str.ofString "\t") = [9] := by rw [tab_one]; rfl
    rw [this]
    simp [joinNine]
theorem run_spaces : ∀ (p : List Int) (σ : WsSt), (∀ c ∈ p, c = 32) → (p.foldl wsStep σ).b = σ.b + (p.length : Int) ∧ (p.foldl wsStep σ).cs = σ.cs
  | [], σ, _ => by simp
  | c :: p, σ, h => by
    have hc := h c (.head _)
    have := run_spaces p (wsStep σ c) fun x hx => h x (.tail _ hx)
    rw [List.foldl_cons, this.1, this.2]
    subst hc
    simp [wsStep]
    omega
theorem wsStep_tab (σ : WsSt) : wsStep σ 9 = ⟨bump σ.cs σ.b, 0, σ.n + 1, σ.nt + 1⟩ := by
  unfold wsStep; rw [if_neg (by decide)]
theorem run_longest {M : Int} (hM : 0 ≤ M) : ∀ (ps : List (List Int)) (σ : WsSt), (∀ p ∈ ps, (∀ c ∈ p, c = 32) ∧ (p.length : Int) ≤ M) → σ.b = 0 → (σ.cs.length : Int) ≤ M + 1 →
    ((joinNine ps).foldl wsStep σ).b ≤ M ∧ (((joinNine ps).foldl wsStep σ).cs.length : Int) ≤ M + 1
  | [], σ, _, hb, hc => by simp [joinNine]; omega
  | [p], σ, h, hb, hc => by
    have := run_spaces p σ (h p (.head _)).1
    have := (h p (.head _)).2
    simp only [joinNine]
    rw [(run_spaces p σ (h p (.head _)).1).1, (run_spaces p σ (h p (.head _)).1).2]
    omega
  | p :: q :: r, σ, h, hb, hc => by
    obtain ⟨e1, e2⟩ := run_spaces p σ (h p (.head _)).1
    have hp := (h p (.head _)).2
    simp only [joinNine, List.foldl_append, List.foldl_cons]
    refine run_longest hM (q :: r) _ (fun x hx => h x (.tail _ hx)) ?_ ?_
    · rw [wsStep_tab]
    · rw [wsStep_tab]
      dsimp only
      rw [bump_length, e1, e2, hb]
      have := bump1_length σ.cs (0 + (p.length : Int)) (by omega)
      omega
theorem mem_joinNine {c : Int} : ∀ {ps : List (List Int)} {p : List Int}, p ∈ ps → c ∈ p → c ∈ joinNine ps
  | [q], p, hp, hc => by rw [List.mem_singleton.mp hp] at hc; exact hc
  | a :: q :: r, p, hp, hc => by
    unfold joinNine
    rcases List.mem_cons.mp hp with rfl | hp
    · exact List.mem_append_left _ hc
    · exact List.mem_append_right _ (.tail _ (mem_joinNine hp hc))
theorem split_longest {x : Str} (hb : BlankS x) {M : Int} (h : ∀ p ∈ Txt.split x (Str.ofString "\t"), (p.length : Int) ≤ M) : longestOf (wsRun (KStt.codes x)) ≤ M := by
  have hj := StrLaws.join_split x (Str.ofString "\t")
  have hfree : ∀ p ∈ Txt.split x (Str.ofString "\t"), 9 ∉ p.cps.toList := by
    rw [tab_one]; exact StrLaws.split_free x 9
  have hpos := split_pos x (Str.ofString "\t")
  generalize Txt.split x (Str.ofString "\t") = ps at h hj hfree hpos
  have hx : KStt.codes x = joinNine (ps.map KStt.codes) := by rw [← codes_join, hj]
  have hM : 0 ≤ M := by
    cases ps with
    | nil => simp at hpos
    | cons p r => have := h p (.head _); omega
  have hall : ∀ q ∈ ps.map KStt.codes, (∀ c ∈ q, c = 32) ∧ (q.length : Int) ≤ M := by
    intro q hq
    obtain ⟨p, hp, rfl⟩ := List.mem_map.mp hq
    refine ⟨fun c hc => ?_, by rw [KStt.codes_length]; exact h p hp⟩
    have hcx : c ∈ KStt.codes x := by rw [hx]; exact mem_joinNine hq hc
    rcases blank_of hb c hcx with h1 | h1
    · exact h1
    · exfalso
      unfold KStt.codes at hc
      obtain ⟨d, hd, he⟩ := List.mem_map.mp hc
      have : d = 9 := by omega
      subst this
      exact hfree p hp hd
  have := run_longest hM (ps.map KStt.codes) ⟨[], 0, 0, 0⟩ hall rfl (by simp; omega)
  rw [← hx] at this
  change (wsRun (KStt.codes x)).b ≤ M ∧ ((wsRun (KStt.codes x)).cs.length : Int) ≤ M + 1 at this
  unfold longestOf
  split <;> omega
theorem split_short {x p : Str} (h : p ∈ Txt.split x (Str.ofString "\t")) : p.length ≤ x.length := by
  have := join_mem_le (Str.ofString "\t") _ _ h
  rwa [StrLaws.join_split] at this
end Mine
end

-- part M3
section
open PySem PySem.W PySem.Calls PyProof.Rows
namespace Mine

theorem stAt_pile (ls : List Str) : ∀ i, stAt ls i = pileAt (ltB ls) i
  | 0 => rfl
  | i + 1 => by rw [stAt, pileAt, stAt_pile ls i]; rfl
def colLt (ls : List Str) (size : Int) (a k : Nat) : Bool := decide (colAt ls size a < colAt ls size k)
theorem abPop_pile (ls : List Str) (size : Int) (i : Nat) (st : List Nat) : abPop ls size i st = st.dropWhile fun j => !colLt ls size j i := by
  unfold abPop colLt
  congr 1
  funext j
  rw [← decide_not]
  exact decide_eq_decide.mpr (by omega)
theorem abAt_pile (ls : List Str) (size : Int) : ∀ i, abAt ls size i = pileAt (colLt ls size) i
  | 0 => rfl
  | i + 1 => by rw [abAt, pileAt, abAt_pile ls size i, abPop_pile]
theorem colLt_trans (ls : List Str) (size : Int) (n : Nat) : Trans3 (colLt ls size) n := fun a b c _ _ _ h1 h2 => by
  unfold colLt at *
  rw [decide_eq_true_eq] at *
  omega

/-- the sizes that the readers have -/
def sizesOf (n : Nat) : List Int := rangeKs 1 n
theorem mem_sizes {n : Nat} {t : Int} : t ∈ sizesOf n ↔ 1 ≤ t ∧ t < (n : Int) + 1 := by
  constructor
  · intro h
    have := mem_rangeKs h
    omega
  · intro h
    exact List.mem_map.mpr ⟨(t - 1).toNat, List.mem_range.mpr (by omega), by omega⟩
def dueAt (ls : List Str) (n : Nat) (i : Nat) : List Nat := (List.range i).reverse.filter fun a => decide (∀ t ∈ sizesOf n, a ∈ abPop ls t i (abAt ls t i))

theorem law_due {ls : List Str} {M : Nat} (hb : ∀ x ∈ ls, BlankS x) (hM : ∀ x ∈ ls, ∀ p ∈ Txt.split x (Str.ofString "\t"), p.length ≤ M) {i : Nat} (hi : i < ls.length) : popTo ls i (stAt ls i) = dueAt ls (M + 1) i := by
  have hmem : ∀ j, j < ls.length → ls.getD j Str.empty ∈ ls := fun j hj => by
    rw [List.getD_eq_getElem?_getD, List.getElem?_eq_getElem hj]; exact List.getElem_mem hj
  have key := pile_law (r := ltB ls) (rs := fun (t : Int) => colLt ls t) (S := sizesOf (M + 1)) (n := ls.length) (i := i) ?_ (fun t _ => colLt_trans ls t _) hi
  · unfold popTo dueAt
    rw [stAt_pile, key]
    refine List.filter_congr fun a _ => ?_
    refine decide_eq_decide.mpr ?_
    constructor
    · intro h t ht
      have := h t ht
      rwa [abPop_pile, abAt_pile]
    · intro h t ht
      have := h t ht
      rwa [abPop_pile, abAt_pile] at this
  · intro a k ha hk
    have h1 := less_cols (blank_of (hb _ (hmem a ha))) (blank_of (hb _ (hmem k hk))) (M := (M : Int))
      (split_longest (hb _ (hmem a ha)) fun p hp => by have := hM _ (hmem a ha) p hp; omega)
      (split_longest (hb _ (hmem k hk)) fun p hp => by have := hM _ (hmem k hk) p hp; omega)
    unfold ltB
    rw [h1]
    constructor
    · intro h t ht
      have := mem_sizes.mp ht
      unfold colLt
      exact decide_eq_true (h t this.1 (by omega))
    · intro h t ht1 ht2
      have := h t (mem_sizes.mpr ⟨ht1, by omega⟩)
      unfold colLt at this
      exact of_decide_eq_true this

/-! the paths are chains -/
theorem pile_suffix {r : Nat → Nat → Bool} : ∀ i (l : List Nat) (j : Nat), (j :: l) <:+ pileAt r i → pileAt r (j + 1) = j :: l
  | 0, l, j, h => by
    have := List.suffix_nil.mp h
    cases this
  | i + 1, l, j, h => by
    rw [pileAt] at h
    rcases List.suffix_cons_iff.mp h with h | h
    · cases h; rfl
    · exact pile_suffix i l j (h.trans (List.dropWhile_suffix _))
noncomputable def pathAt (ls : List Str) (ns : List Int) (i : Nat) : Str := mkPath ns i (popTo ls i (stAt ls i)) (psAt ls ns i)
theorem psAt_getD (ls : List Str) (ns : List Int) : ∀ (n j : Nat), j < n → (psAt ls ns n).getD j Str.empty = pathAt ls ns j
  | 0, j, h => absurd h (Nat.not_lt_zero _)
  | n + 1, j, h => by
    rw [psAt, List.getD_eq_getElem?_getD]
    rcases Nat.lt_or_ge j n with h1 | h1
    · rw [List.getElem?_append_left (by rw [psAt_length]; exact h1), ← List.getD_eq_getElem?_getD]
      exact psAt_getD ls ns n j h1
    · have : j = n := by omega
      subst this
      rw [List.getElem?_append_right (by rw [psAt_length]; exact Nat.le_refl _), psAt_length, Nat.sub_self]; rfl
theorem slashes_list (n : Int) : ∃ k, (slashes n).cps.toList = List.replicate (k + 1) 47 := by
  have hm := Int.fmod_nonneg_of_pos (n.fdiv 16) (show (0 : Int) < 3 by decide)
  refine ⟨((n.fdiv 16).fmod 3).toNat, ?_⟩
  unfold slashes
  have e1 : Str.ofString "/" = ⟨#[47]⟩ := by decide
  rw [e1, mul_one_list]
  congr 1
  omega
theorem path_chain (ls : List Str) (ns : List Int) (n : Nat) : ∀ i, i < n → Anc (pathAt ls ns i) ((stAt ls (i + 1)).map (pathAt ls ns)) := by
  intro i
  induction i using Nat.strongRecOn with
  | ind i ih =>
    intro hin
    rw [stAt]
    have hsuf : popTo ls i (stAt ls i) <:+ stAt ls i := List.dropWhile_suffix _
    have hlet : (letter i).cps.toList = [97 + i] := by
      unfold letter
      have e : ((97 : Int) + (i : Int)).toNat = 97 + i := by omega
      show [((97 : Int) + (i : Int)).toNat] = [97 + i]
      rw [e]
    cases hp : popTo ls i (stAt ls i) with
    | nil =>
      have : pathAt ls ns i = letter i := by unfold pathAt; rw [hp]; rfl
      rw [List.map_cons, this, List.map_nil]
      exact .one hlet (by omega)
    | cons j st =>
      rw [hp, stAt_pile] at hsuf
      have hj : j < i := pileAt_lt i j (hsuf.subset (.head _))
      have ht := pile_suffix i st j hsuf
      have ihj := ih j hj (by omega)
      rw [stAt_pile, ht] at ihj
      rw [List.map_cons]
      obtain ⟨k, hk⟩ := slashes_list (ns.getD i 0)
      refine .cons (k := k) (c := 97 + i) ihj ?_ (by omega)
      have : pathAt ls ns i = pathAt ls ns j ++ slashes (ns.getD i 0) ++ letter i := by
        show mkPath ns i (popTo ls i (stAt ls i)) (psAt ls ns i) = _
        rw [hp]
        show (psAt ls ns i).getD j Str.empty ++ slashes (ns.getD i 0) ++ letter i = _
        rw [psAt_getD ls ns i j hj]
      rw [this, Str.cps_append, Str.cps_append, Array.toList_append, Array.toList_append, hk, hlet, List.replicate_succ']
      try simp
theorem told_due {ls : List Str} {ns : List Int} {M : Nat} (hb : ∀ x ∈ ls, BlankS x) (hM : ∀ x ∈ ls, ∀ p ∈ Txt.split x (Str.ofString "\t"), p.length ≤ M) {i : Nat} (hi : i < ls.length) :
    ((stAt ls (i + 1)).map (pathAt ls ns)).drop 1 = (dueAt ls (M + 1) i).map (pathAt ls ns) := by
  rw [stAt, List.map_cons, List.drop_one, List.tail_cons, law_due hb hM hi]
end Mine
end

-- part G1
section
open PySem PySem.W PySem.Calls PyProof.Rows
set_option maxRecDepth 100000
set_option maxHeartbeats 4000000
namespace Mine

theorem wpAny_weaken {α : Type} {M : Model} {A A₁ : Around} {t : Sem α} {Q : α → Shared → Prop} {E : Value → Shared → Prop} {s : Shared} (h : wpAny M A₁ t Q E s) (hh : A₁.handled = A.handled) (hd : A.depth ≤ A₁.depth) (hf : A₁.frames = none) (hg : A₁.guards = none) (hu : A.units ≤ A₁.units) : wpAny M A t Q E s :=
  fun Γ p hΓ => h Γ p ⟨hΓ.1.trans hh.symm, Nat.le_trans hΓ.2.1 hd, (fun l hl => by rw [hf] at hl; cases hl), (fun l hl => by rw [hg] at hl; cases hl), Nat.le_trans hΓ.2.2.2.2 hu⟩
theorem codeAny_weaken {M : Model} {A A₁ : Around} {c : Code} {R : Result → Shared → Prop} {s : Shared} (h : codeAny M A₁ c R s) (hh : A₁.handled = A.handled) (hd : A.depth ≤ A₁.depth) (hf : A₁.frames = none) (hg : A₁.guards = none) (hu : A.units ≤ A₁.units) : codeAny M A c R s :=
  fun Γ p hc hΓ => h Γ p hc ⟨hΓ.1.trans hh.symm, Nat.le_trans hΓ.2.1 hd, (fun l hl => by rw [hf] at hl; cases hl), (fun l hl => by rw [hg] at hl; cases hl), Nat.le_trans hΓ.2.2.2.2 hu⟩

def A0 : Around := { handled := none, depth := 600, frames := none, guards := none, units := 100000 }
def A1 : Around := { handled := none, depth := 700, frames := none, guards := none, units := 200000 }

def SameAt (L : Addr) (base : Heap) (s s'' : Shared) : Prop := (∀ b o, base.get? b = some o → s''.heap.get? b = some o) ∧ ∀ o, s.heap.get? L = some o → s''.heap.get? L = some o
def ancR (L : Addr) : GenEnd := fun n s₀ r s₁ => r = .ok (.ret .none) ∧ n = 0 ∧ GenSince L [] s₀ s₁
def ancY (L : Addr) (base : Heap) (As : List Str) : Protocol := fun m s₀ v s kap =>
  (∃ t, v = .str (As.getD (As.length - 1 - m) Str.empty) t) ∧ GenSince L [] s₀ s ∧ (∃ o, s.heap.get? L = some o) ∧ ∀ s'', SameAt L base s s'' → kap (.send .none) s''

/-- an Around that a piece of the generator's body may meet -/
structure Mild (A : Around) : Prop where
  h : A.handled = none
  d : A.depth ≤ 700
  u : A.units ≤ 200000
theorem Mild.use {α : Type} {M : Model} {A : Around} (m : Mild A) {t : Sem α} {Q : α → Shared → Prop} {E : Value → Shared → Prop} {s : Shared} (h : wpAny M A1 t Q E s) : wpAny M A t Q E s :=
  wpAny_weaken h m.h.symm m.d rfl rfl m.u

theorem since_after {C : Addr} {wr : List Addr} {s₀ s s' : Shared} (x : GenSince C wr s₀ s) (y : GenSince C wr s s') : GenSince C wr s₀ s' := by
  obtain ⟨h', tk, rfl, hk⟩ := y
  exact x.step hk

section
variable {prog : Program} {w : World} {env : Env} {L : Addr} {base : Heap} {As₀ : List Str} {I : List Str → Shared → Prop} {st1 st2 : Stmt} {test e : Expr} {yp ep wp : Pos} {bd : List Stmt}

theorem anc_loop (hco : env.scope.isCoroutine = false) (hint : interactive env = false)
    (htest : ∀ As s E, I As s → wpAny (model prog w) A1 (isTrue test env (eval test env)) (fun b s' => b = !As.isEmpty ∧ I As s' ∧ GenSince L [] s s') E s)
    (he : ∀ a As s E, I (a :: As) s → wpAny (model prog w) A1 (eval e env) (fun v s' => (∃ t, v = .str a t) ∧ I (a :: As) s' ∧ GenSince L [] s s') E s)
    (hst2 : ∀ a As s E, I (a :: As) s → wpAny (model prog w) A1 (exec st2 env) (fun f s' => f = .next ∧ I As s' ∧ GenSince L [] s s') E s)
    (hI : ∀ As s s'', I As s → SameAt L base s s'' → I As s'') (hIL : ∀ As s, I As s → ∃ o, s.heap.get? L = some o)
    {kont : Result → Sem Fin} {p : Pos}
    (hm : ∀ (st : List Stmt), Mild (A0.over (.whileLoop test st [] env) [.ret kont none false [] (.func bd env) p []]))
    (hend : ∀ s₀ s, GenSince L [] s₀ s → Seg (model prog w) A0 (ancR L) (ancY L base As₀) 0 s₀ (.func bd env) (kont (.ok .next)) [] s) :
    ∀ (As pre : List Str) (s₀ s : Shared), As₀ = pre ++ As → I As s → GenSince L [] s₀ s →
      Seg (model prog w) A0 (ancR L) (ancY L base As₀) As.length s₀ (.whileLoop test [.Expr (.Yield (some e) yp) ep, st2] [] env) ((model prog w).den (.whileLoop test [.Expr (.Yield (some e) yp) ep, st2] [] env)) [.ret kont none false [] (.func bd env) p []] s := by
  intro As
  induction As with
  | nil =>
    intro pre s₀ s hpre hi hs
    refine seg_whileLoop ((hm _).use (wpAny_mono (htest [] s _ hi) (fun b s' hb => ?_) fun _ _ e => e))
    obtain ⟨rfl, hi', hs'⟩ := hb
    rw [if_neg (by decide)]
    refine seg_execs_nil ?_
    exact seg_leaf (.ok .next) (hend _ _ (since_after hs hs'))
  | cons a As ih =>
    intro pre s₀ s hpre hi hs
    refine seg_whileLoop ((hm _).use (wpAny_mono (htest (a :: As) s _ hi) (fun b s' hb => ?_) fun _ _ e => e))
    obtain ⟨rfl, hi', hs'⟩ := hb
    rw [if_pos (by rfl)]
    refine seg_execs_cons ?_
    refine seg_Expr_Yield rfl rfl rfl ((hm _).use (wpAny_mono (he a As s' _ hi') (fun v s2 hv => ?_) fun _ _ e => e)) hco hint
    obtain ⟨⟨t, rfl⟩, hi2, hs2⟩ := hv
    intro kap hkap
    refine ⟨⟨t, ?_⟩, since_after (since_after hs hs') hs2, hIL _ _ hi2, fun s'' hsame => hkap .none s'' ?_⟩
    · rw [hpre]
      have e1 : (pre ++ a :: As).length - 1 - As.length = pre.length := by simp
      rw [e1, List.getD_eq_getElem?_getD, List.getElem?_append_right (Nat.le_refl _), Nat.sub_self]; rfl
    show Seg _ A0 (ancR L) (ancY L base As₀) As.length s'' _ ((execs [st2] env).wrap _ _ id id) _ s''
    refine seg_execs_cons ?_
    refine seg_wrap ((hm _).use (wpAny_mono (hst2 a As s'' _ (hI _ _ _ hi2 hsame)) (fun f s3 hf => ?_) fun _ _ e => e))
    obtain ⟨rfl, hi3, hs3⟩ := hf
    refine seg_execs_nil ?_
    exact seg_again rfl (ih (pre ++ [a]) s'' s3 (by rw [hpre]; simp) hi3 hs3)
theorem anc_fresh {wpos : Pos} (hco : env.scope.isCoroutine = false) (hint : interactive env = false) {St0 : Shared → Prop}
    (h1 : ∀ s E, St0 s → wpAny (model prog w) A1 (exec st1 env) (fun f s' => f = .next ∧ I As₀ s' ∧ GenSince L [] s s') E s)
    (htest : ∀ As s E, I As s → wpAny (model prog w) A1 (isTrue test env (eval test env)) (fun b s' => b = !As.isEmpty ∧ I As s' ∧ GenSince L [] s s') E s)
    (he : ∀ a As s E, I (a :: As) s → wpAny (model prog w) A1 (eval e env) (fun v s' => (∃ t, v = .str a t) ∧ I (a :: As) s' ∧ GenSince L [] s s') E s)
    (hst2 : ∀ a As s E, I (a :: As) s → wpAny (model prog w) A1 (exec st2 env) (fun f s' => f = .next ∧ I As s' ∧ GenSince L [] s s') E s)
    (hI : ∀ As s s'', I As s → SameAt L base s s'' → I As s'') (hIL : ∀ As s, I As s → ∃ o, s.heap.get? L = some o)
    (hm0 : Mild (A0.over (.func [st1, .While test [.Expr (.Yield (some e) yp) ep, st2] [] wpos] env) []))
    (hm : ∀ (st : List Stmt) (kont : Result → Sem Fin) (p : Pos), Mild (A0.over (.whileLoop test st [] env) [.ret kont none false [] (.func [st1, .While test [.Expr (.Yield (some e) yp) ep, st2] [] wpos] env) p []]))
    {s : Shared} (hs : St0 s) :
    (GenState.fresh (.func [st1, .While test [.Expr (.Yield (some e) yp) ep, st2] [] wpos] env)).Goes (model prog w) A0 (ancR L) (ancY L base As₀) As₀.length (.send .none) s := by
  refine ⟨rfl, seg_func ?_⟩
  refine seg_execs_cons ?_
  refine seg_wrap (hm0.use (wpAny_mono (h1 s _ hs) (fun f s' hf => ?_) fun _ _ e => e))
  obtain ⟨rfl, hi, hsn⟩ := hf
  refine seg_execs_cons ?_
  refine seg_While fun p => ?_
  refine anc_loop hco hint htest he hst2 hI hIL (fun st => hm st _ p) (fun s₀ s hs => ?_) As₀ [] s s' rfl hi hsn
  exact seg_end (.ok (.ret .none)) ⟨rfl, rfl, hs⟩
end
end Mine
end

-- part G2
section
open PySem PySem.W PySem.Calls PyProof.Rows
set_option maxRecDepth 100000
set_option maxHeartbeats 4000000
namespace Mine

theorem others (base h : Heap) (L : Addr) : ∃ own, News base L h own ∧ ∀ b o, b ≠ L → base.get? b = none → h.get? b = some o → (b, o) ∈ own := by
  refine ⟨ownOf base ((List.range h.objs.size).filter fun b => b != L) h, news_ownOf (by simp), fun b o hb hn e => mem_ownOf ?_ hn e⟩
  rw [List.mem_filter]
  exact ⟨List.mem_range.mpr (Heap.lt_size e), by simpa using hb⟩
theorem since_of {base : Heap} {L : Addr} {s : Shared} {h' : Heap} {tk : Nat} {m m0 : Str → Option Value} {own news' : List (Addr × Obj)} (F0 : Fr base L s.heap m0) (hown : ∀ b o, b ≠ L → base.get? b = none → s.heap.get? b = some o → (b, o) ∈ own)
    (F : Fr base L h' m) (N : News base L h' news') (hsub : ∀ p ∈ own, p ∈ news') : GenSince L [] s { s with heap := h', toks := tk } := by
  refine ⟨h', tk, rfl, fun b o hb _ e => ?_⟩
  cases q : base.get? b with
  | some o0 =>
    have := F0.keep b o0 q
    rw [e] at this; cases this
    exact F.keep _ _ q
  | none => exact (N _ (hsub _ (hown b o hb q e))).1

theorem news_cons {g h h' : Heap} {L o : Addr} {ob : Obj} {m : Str → Option Value} {news : List (Addr × Obj)} (F : Fr g L h m) (N : News g L h news) (hk : ∀ b o, h.get? b = some o → h'.get? b = some o) (hf : h.get? o = none) (ho : h'.get? o = some ob) : News g L h' ((o, ob) :: news) := fun q hq => by
  rcases List.mem_cons.mp hq with rfl | hq
  · refine ⟨ho, fun e => ?_, ?_⟩
    · obtain ⟨x, _, _, hx, _⟩ := F.ns
      dsimp only at e
      rw [e, hx] at hf; cases hf
    · cases e : g.get? o with
      | none => rfl
      | some x => have := F.keep _ _ e; rw [hf] at this; cases this
  · exact News.grown N hk q hq
theorem split_use {w : World} {A : Around} {E : Value → Shared → Prop} {s : Shared} {mg mb : Str → Option Value} {g : Heap} {L : Addr} {m : Str → Option Value} {news : List (Addr × Obj)} {Q : Value → Shared → Prop} {p : Str} {tp : Tok}
    (F : Fr g L s.heap m) (N : News g L s.heap news) (X : (hd.heap_39 w.params).In g) (T : TopRead lawView Loo mg mb g) (hdep : A.depth + 80 < recursionLimit) (hh : A.handled = none) (hp : p.length ≤ 100)
    (h : ∀ h' tk o hd t1 t2, hd = headOf p → Fr g L h' m → News g L h' ((o, tupO [.str hd t1, .str (tailOf p) t2]) :: news) → Q (.ref o) { s with heap := h', toks := tk }) : wpAny (model PySem.Challenge.rw_ij0041_01.row.prog w) A (call (.ref 169) [.str p tp] []) Q E s :=
  wpAny_call (split_spec (X.keeps F.keep) (T.keeps F.keep) hdep hh p tp hp fun h' tk o hd t1 t2 e hk hf ho => h h' tk o hd t1 t2 e (F.keeps hk) (news_cons F N hk hf ho))
local macro_rules | `(tactic| walk_at "call ref") => `(tactic| (k_here; (try dsimp only [List.append_nil, List.cons_append, List.nil_append]); (with_reducible show wpAny _ _ (call (Value.ref 169) _ _) _ _ _); k_dflt (refine' split_use ?F ?N ?X ?T ?hd ?hh ?hp ?_; (case F => k_asm); (case N => k_asm); (case X => k_asm); (case T => k_asm); (case hh => rfl); (case hp => k_asm); (case hd => decide)); intro h' tk' o' hd' t1' t2' eh' F' N'; (try dsimp only [tupO] at N')))
def Rem (cur : Str) (As : List Str) : Prop := (As = [] ∧ cur = Str.empty) ∨ Anc cur As
theorem rem_next {cur a : Str} {As : List Str} (h : Rem cur (a :: As)) (hl : cur.length ≤ 100) : Rem (headOf cur) As ∧ (headOf cur).length ≤ 100 := by
  rcases h with ⟨h, _⟩ | h
  · cases h
  · cases h with
    | one h hc => rw [head_one h hc]; exact ⟨.inl ⟨rfl, rfl⟩, by decide⟩
    | @cons p q r k c hq h hc =>
      rw [head_cons hq h hc]
      refine ⟨.inr hq, ?_⟩
      have := congrArg List.length h
      rw [List.length_append, List.length_append] at this
      simp only [Str.length] at hl ⊢
      simp only [Array.length_toList] at this
      omega
def AncI (base : Heap) (L : Addr) (As : List Str) (s : Shared) : Prop := ∃ cur t M, Rem cur As ∧ cur.length ≤ 100 ∧ Fr base L s.heap M ∧ M (Str.ofString "path") = some (.str cur t)
def AncS (base : Heap) (L : Addr) (p0 : Str) (t0 : Tok) (s : Shared) : Prop := Fr base L s.heap (fun y => List.lookup y [(Str.ofString "path", Value.str p0 t0)].reverse)

theorem same_fr {base : Heap} {L : Addr} {s s'' : Shared} {m : Str → Option Value} (F : Fr base L s.heap m) (h : SameAt L base s s'') : Fr base L s''.heap m :=
  ⟨F.ns.at' (h.2), h.1, F.above⟩

theorem ancestry_spec {w : World} {A : Around} {R : Result → Shared → Prop} {s : Shared} {mg mb : Str → Option Value}
   (X : (hd.heap_39 w.params).In s.heap) (T : TopRead lawView Loo mg mb s.heap) (hdep : A.depth + 40 < recursionLimit) (hh : A.handled = none) 
   (p p0 : Str) (t0 : Tok) (As : List Str) (n : Nat) (hp0 : p0.cps.toList = p.cps.toList ++ List.replicate n 47) (hA : Anc p As) (hp : p0.length ≤ 100)
   (k : ∀ h' tk gs L a, (∀ b o, s.heap.get? b = some o → h'.get? b = some o) → s.heap.get? a = none → s.heap.get? L = none → a ≠ L → h'.IsGen a s.gens.size → gs.bare = true →
      (∀ s'' : Shared, SameAt L s.heap { s with heap := h' } s'' → gs.Goes (model PySem.Challenge.rw_ij0041_01.row.prog w) A0 (ancR L) (ancY L s.heap As) As.length (.send .none) s'') → (∃ o, h'.get? L = some o) → R (.ok (.ret (.ref a))) { s with heap := h', toks := tk, gens := s.gens.push gs }) :
   codeAny (model PySem.Challenge.rw_ij0041_01.row.prog w) A (.call (.ref 176) ⟨[.str p0 t0], []⟩) R s := by
  w_on
  revert X T
  k_fill
  intro X T
  have key : ∀ {K : Frag} {name qual : Str} {params : Arguments} {body : List Stmt} {scope : Scope} {dV kV doc pm cdv ct oc : Value} {an od : Option Addr} {osl : Array (Option Value)} (X : K.In s.heap) (ho : K.lookup 176 = some ⟨oc, od, .func (fnOf name qual params body scope dV kV doc pm an cdv ct), osl⟩) (hcd : codeIn K cdv qual = true)
      (hbind : BindsTo s (fnOf name qual params body scope dV kV doc pm an cdv ct) ⟨[.str p0 t0], []⟩ [(Str.ofString "path", .str p0 t0)]) (hloc : ∀ y ∈ [(Str.ofString "path", Value.str p0 t0)], scope.names.lookup y.1 = some .local)
      (hcell : ∀ x ∈ scope.names, x.2 ≠ .cell) (hco : scope.isCoroutine = false) (hgen : scope.isGenerator = true) (hk : scope.kind = .function)
      (hgo : ∀ L s'', AncS s.heap L p0 t0 s'' → (GenState.fresh (.func body (envOf qual scope L 176 cdv))).Goes (model PySem.Challenge.rw_ij0041_01.row.prog w) A0 (ancR L) (ancY L s.heap As) As.length (.send .none) s''),
      codeAny (model PySem.Challenge.rw_ij0041_01.row.prog w) A (.call (.ref 176) ⟨[.str p0 t0], []⟩) R s := by
    intro K name qual params body scope dV kV doc pm cdv ct oc an od osl X ho hcd hbind hloc hcell hco hgen hk hgo
    refine codeAny_call_generator (fd := fnOf name qual params body scope dV kV doc pm an cdv ct) (body := body) (by omega) (X _ _ ho) rfl hco hgen rfl (codeRec_of X hcd) ?_
    refine hbind _ _ _ _ ?_
    refine wpAny_newFunctionEnv hcell hloc (fun h₁ hns hsb => ?_) hk
    have keep1 : ∀ b o, s.heap.get? b = some o → h₁.get? b = some o := fun b o e => hsb.extBut b o (Nat.ne_of_lt (Heap.lt_size e)) (Heap.get?_push_of_some _ e)
    refine ⟨T.nolimit.keeps keep1, ?_⟩
    have hsz : h₁.objs.size = s.heap.objs.size + 1 := by rw [hsb.1, Heap.size_push]
    have F1 : Fr s.heap s.heap.objs.size h₁ (fun y => List.lookup y [(Str.ofString "path", Value.str p0 t0)].reverse) := ⟨hns, keep1, Nat.le_refl _⟩
    have fresh : ∀ a, s.heap.objs.size ≤ a → s.heap.get? a = none := fun a ha => by
      cases e : s.heap.get? a with
      | none => rfl
      | some o => exact absurd (Heap.lt_size e) (Nat.not_lt.mpr ha)
    refine k _ _ _ s.heap.objs.size _ (fun b o e => Heap.get?_push_of_some _ (keep1 b o e)) (fresh _ (by show s.heap.objs.size ≤ h₁.objs.size; omega)) (fresh _ (Nat.le_refl _)) (by show h₁.objs.size ≠ s.heap.objs.size; omega) ⟨_, _, _, Heap.get?_push_size _ rfl, rfl, rfl, rfl⟩ rfl ?_ ?_
    · intro s'' hs''
      exact hgo _ s'' (same_fr (F1.push _) hs'')
    · obtain ⟨o, _, _, ho, _⟩ := hns
      exact ⟨o, Heap.get?_push_of_some _ ho⟩
  refine' key X ?ko ?kcd ?kb ?kloc ?c1 ?c2 ?c3 ?c4 ?_
  case ko => k_is
  case kcd => k_is
  case kb => exact BindsTo.of_eq rfl
  case kloc => exact locs rfl
  case c1 => decide
  case c2 => rfl
  case c3 => rfl
  case c4 => rfl
  clear key
  intro L s2 hs2
  refine anc_fresh (I := AncI s.heap L) (St0 := AncS s.heap L p0 t0) rfl rfl ?_ ?_ ?_ ?_ ?_ ?_ ?_ ?_ hs2
  · intro s1 E1 F
    obtain ⟨own, N, hown⟩ := others s.heap s1.heap L
    have hl0 : p0.length ≤ 100 := hp
    have hl1 : p.length ≤ 100 := by
      have := congrArg List.length hp0
      rw [List.length_append] at this
      simp only [Str.length] at hp ⊢
      simp only [Array.length_toList] at this
      omega
    have F0 := F
    unfold AncS at F
    k_steps
    · trivial
    · rename Fr _ _ _ _ => F9
      rw [anc_rstrip_more hA hp0] at F9
      exact ⟨p, _, _, .inr hA, hl1, F9, rfl⟩
    · rename Fr _ _ _ _ => F9
      rename News _ _ _ _ => N9
      exact since_of F0 hown F9 N9 (fun _ h => h)
  · rintro As1 s1 E1 ⟨cur, tc, M, hrem, hcl, F, hM⟩
    obtain ⟨own, N, hown⟩ := others s.heap s1.heap L
    have F0 := F
    have F := fr_pin F hM
    k_steps
    · rcases hrem with ⟨rfl, rfl⟩ | hA1
      · rfl
      · rw [anc_rstrip hA1]
        have := anc_ne hA1
        cases hA1 <;> simp [this]
    · exact ⟨cur, tc, _, hrem, hcl, F0, hM⟩
    · exact since_of F0 hown F0 N (fun _ h => h)
  · rintro a As1 s1 E1 ⟨cur, tc, M, hrem, hcl, F, hM⟩
    have F0 := F
    have F := fr_pin F hM
    k_steps
    · rcases hrem with ⟨h, _⟩ | hA1
      · cases h
      · cases hA1 <;> rfl
    · exact ⟨cur, tc, _, hrem, hcl, F0, hM⟩
    · exact GenSince.refl _ _ _
  · rintro a As1 s1 E1 ⟨cur, tc, M, hrem, hcl, F, hM⟩
    obtain ⟨own, N, hown⟩ := others s.heap s1.heap L
    have F0 : True → Fr s.heap L s1.heap M := fun _ => F
    have F := fr_pin F hM
    k_steps
    · trivial
    · rename Fr _ _ _ _ => F9
      rename _ = headOf cur => eh
      have key := rem_next hrem hcl
      rw [← eh] at key
      exact ⟨_, _, _, key.1, key.2, F9, rfl⟩
    · rename Fr _ _ _ _ => F9
      rename News _ _ _ _ => N9
      exact since_of (F0 trivial) hown F9 N9 (fun _ h => .tail _ h)
  · rintro As s s'' ⟨cur, t, M, h1, h2, F, h3⟩ hs
    exact ⟨cur, t, M, h1, h2, same_fr F hs, h3⟩
  · rintro As s ⟨cur, t, M, h1, h2, F, h3⟩
    obtain ⟨o, _, _, ho, _⟩ := F.ns
    exact ⟨o, ho⟩
  · exact ⟨rfl, Nat.le_of_ble_eq_true rfl, Nat.le_of_ble_eq_true rfl⟩
  · intro st kont p
    exact ⟨rfl, Nat.le_of_ble_eq_true rfl, Nat.le_of_ble_eq_true rfl⟩
end Mine
end

-- part I1
section
open PySem PySem.W PySem.Calls PyProof.Rows
set_option maxRecDepth 100000
set_option maxHeartbeats 4000000
namespace Mine

theorem isint_spec {w : World} {A : Around} {R : Result → Shared → Prop} {s : Shared} {mg mb : Str → Option Value}
   (X : (hd.heap_39 w.params).In s.heap) (T : TopRead lawView Loo mg mb s.heap) (hdep : A.depth + 20 < recursionLimit) (hh : A.handled = none) 
   (a : Int) (ta : Tok)
   (k : ∀ h' tk, (∀ b o, s.heap.get? b = some o → h'.get? b = some o) → R (.ok (.ret (.bool true))) {s with heap := h', toks := tk}) :
   codeAny (model PySem.Challenge.rw_ij0041_01.row.prog w) A (.call (.ref 94) ⟨[.int a ta], []⟩) R s := by
  obtain ⟨hnd, dep, frs, gds, uns⟩ := A
  dsimp only at hh hdep
  subst hh
  w_on
  revert X T
  k_fill
  intro X T
  refine' enter (binds := [(Str.ofString "x", .int a ta)]) ?kX ?klim ?ko ?kcd ?kroom ?kb ?kloc ?_ ?c1 ?c2 ?c3 ?c4
  case kX => exact X
  case ko => k_is
  case klim => exact T.nolimit
  case kcd => k_is
  case kroom => show dep < _; omega
  case kb => exact BindsTo.of_eq rfl
  case kloc => exact locs rfl
  case c1 => decide
  case c2 => rfl
  case c3 => rfl
  case c4 => rfl
  intro L h F N
  try dsimp only
  try k_fold
  k_steps
  exact k _ _ (Fr.keep (by assumption))
theorem isint_use {w : World} {A : Around} {E : Value → Shared → Prop} {s : Shared} {mg mb : Str → Option Value} {g : Heap} {L : Addr} {m : Str → Option Value} {news : List (Addr × Obj)} {Q : Value → Shared → Prop} {a : Int} {ta : Tok}
    (F : Fr g L s.heap m) (N : News g L s.heap news) (X : (hd.heap_39 w.params).In g) (T : TopRead lawView Loo mg mb g) (hdep : A.depth + 20 < recursionLimit) (hh : A.handled = none)
    (h : ∀ h' tk, Fr g L h' m → News g L h' news → Q (.bool true) { s with heap := h', toks := tk }) : wpAny (model PySem.Challenge.rw_ij0041_01.row.prog w) A (call (.ref 94) [.int a ta] []) Q E s :=
  wpAny_call (isint_spec (X.keeps F.keep) (T.keeps F.keep) hdep hh a ta fun h' tk hk => h h' tk (F.keeps hk) (News.grown N hk))
local macro_rules | `(tactic| walk_at "call ref") => `(tactic| (k_here; (try dsimp only [List.append_nil, List.cons_append, List.nil_append]); (with_reducible show wpAny _ _ (call (Value.ref 94) _ _) _ _ _); k_dflt (refine' isint_use ?F ?N ?X ?T ?hd ?hh ?_; (case F => k_asm); (case N => k_asm); (case X => k_asm); (case T => k_asm); (case hh => rfl); (case hd => (simp only [depth_deeper]; omega))); intro h' tk' F' N'))
theorem whole_spec {w : World} {A : Around} {R : Result → Shared → Prop} {s : Shared} {mg mb : Str → Option Value}
   (X : (hd.heap_39 w.params).In s.heap) (T : TopRead lawView Loo mg mb s.heap) (hdep : A.depth + 40 < recursionLimit) (hh : A.handled = none) 
   (a top : Int) (ta tt tw : Tok) (wh : Str) (h1 : a ≤ top) (h2 : -999999 ≤ a)
   (k : ∀ h' tk, (∀ b o, s.heap.get? b = some o → h'.get? b = some o) → R (.ok (.ret .none)) {s with heap := h', toks := tk}) :
   codeAny (model PySem.Challenge.rw_ij0041_01.row.prog w) A (.call (.ref 101) ⟨[.int a ta, .int top tt, .str wh tw], []⟩) R s := by
  obtain ⟨hnd, dep, frs, gds, uns⟩ := A
  dsimp only at hh hdep
  subst hh
  w_on
  revert X T
  k_fill
  intro X T
  refine' enter (binds := [(Str.ofString "x", .int a ta), (Str.ofString "top", .int top tt), (Str.ofString "what", .str wh tw)]) ?kX ?klim ?ko ?kcd ?kroom ?kb ?kloc ?_ ?c1 ?c2 ?c3 ?c4
  case kX => exact X
  case ko => k_is
  case klim => exact T.nolimit
  case kcd => k_is
  case kroom => show dep < _; omega
  case kb => exact BindsTo.of_eq rfl
  case kloc => exact locs rfl
  case c1 => decide
  case c2 => rfl
  case c3 => rfl
  case c4 => rfl
  intro L h F N
  try dsimp only
  try k_fold
  k_steps
  all_goals exact k _ _ (Fr.keep (by assumption))
theorem whole_use {w : World} {A : Around} {E : Value → Shared → Prop} {s : Shared} {mg mb : Str → Option Value} {g : Heap} {L : Addr} {m : Str → Option Value} {news : List (Addr × Obj)} {Q : Value → Shared → Prop} {a top : Int} {ta tt tw : Tok} {wh : Str}
    (F : Fr g L s.heap m) (N : News g L s.heap news) (X : (hd.heap_39 w.params).In g) (T : TopRead lawView Loo mg mb g) (hdep : A.depth + 40 < recursionLimit) (hh : A.handled = none) (h1 : a ≤ top) (h2 : -999999 ≤ a)
    (h : ∀ h' tk, Fr g L h' m → News g L h' news → Q .none { s with heap := h', toks := tk }) : wpAny (model PySem.Challenge.rw_ij0041_01.row.prog w) A (call (.ref 101) [.int a ta, .int top tt, .str wh tw] []) Q E s :=
  wpAny_call (whole_spec (X.keeps F.keep) (T.keeps F.keep) hdep hh a top ta tt tw wh h1 h2 fun h' tk hk => h h' tk (F.keeps hk) (News.grown N hk))
end Mine
end

-- part I2
section
open PySem PySem.W PySem.Calls PyProof.Rows
set_option maxRecDepth 100000
set_option maxHeartbeats 4000000
namespace Mine

section
variable {w : World} {A : Around} {R : Result → Shared → Prop} {s : Shared} {K : Frag} {name qual : Str} {params : Arguments} {body : List Stmt} {scope : Scope} {dV kV doc pm cdv ct oc : Value} {an od : Option Addr} {osl : Array (Option Value)} {f : Addr} {args : Args} {binds : List (Str × Value)}

/-- a call whose binding makes one object first -/
theorem enterS {B : Heap} {news : List (Addr × Obj)} {ob : Obj} (hfr : ob.isFreed = false) (X : K.In B) (hlim : B.NoLimit) (hB : ∀ b o, B.get? b = some o → s.heap.get? b = some o) (hnew : ∀ p ∈ news, B.get? p.1 = none) (hget : ∀ p ∈ news, s.heap.get? p.1 = some p.2)
    (ho : K.lookup f = some ⟨oc, od, .func (fnOf name qual params body scope dV kV doc pm an cdv ct), osl⟩) (hcd : codeIn K cdv qual = true) (hroom : A.depth < recursionLimit)
    (hbind : ∀ (E : Value → Shared → Prop) (Q : List (Str × Value) → Shared → Prop), Q binds { s with heap := s.heap.push ob } → wpAny (model Prg w) A.in1 (bindArgs (fnOf name qual params body scope dV kV doc pm an cdv ct) args) Q E s) (hloc : ∀ y ∈ binds, scope.names.lookup y.1 = some .local)
    (h : ∀ L h₁ g, g = hideAll (s.heap.push ob) (((s.heap.objs.size, ob) :: news).map (·.1)) → (∀ b o, B.get? b = some o → g.get? b = some o) → K.In g → Fr g L h₁ (fun y => binds.reverse.lookup y) → News g L h₁ ((s.heap.objs.size, ob) :: news) → (∀ p ∈ ((s.heap.objs.size, ob) :: news), p.1 < L) → (∀ p ∈ news, p.1 < s.heap.objs.size) →
      wpAny (model Prg w) (A.deeper (envOf qual scope L f cdv)) (execs body (envOf qual scope L f cdv))
        (fun fl s' => R (.ok (.ret (match fl with | .ret v => v | _ => .none))) s')
        (fun e s' => wpAny (model Prg w) (A.deeper (envOf qual scope L f cdv)) (leaving (envOf qual scope L f cdv) e) (fun _ s'' => R (.error e) s'') (fun e' s'' => R (.error e') s'') s')
        { s with heap := h₁, toks := s.toks + binds.length })
    (hcell : ∀ x ∈ scope.names, x.2 ≠ .cell) (hco : scope.isCoroutine = false) (hgen : scope.isGenerator = false) (hk : scope.kind = .function) : codeAny (model Prg w) A (.call (.ref f) args) R s := by
  have hB1 : ∀ b o, B.get? b = some o → (s.heap.push ob).get? b = some o := fun b o e => Heap.get?_push_of_some _ (hB b o e)
  have hn1 : ∀ p ∈ (s.heap.objs.size, ob) :: news, B.get? p.1 = none := List.forall_mem_cons.mpr ⟨by
    cases e : B.get? s.heap.objs.size with
    | none => rfl
    | some o => exact absurd (Heap.lt_size (hB _ _ e)) (Nat.lt_irrefl _), hnew⟩
  have hg1 : ∀ p ∈ (s.heap.objs.size, ob) :: news, (s.heap.push ob).get? p.1 = some p.2 := List.forall_mem_cons.mpr ⟨Heap.get?_push_size _ hfr, fun p hp => Heap.get?_push_of_some _ (hget p hp)⟩
  refine codeAny_call_function hroom (hB _ _ (X _ _ ho)) rfl hco hgen rfl (codeRec_of (X.keeps hB) hcd) (hbind _ _ ?_)
  refine wpAny_newFunctionEnv hcell hloc (fun h₁ hns hsb => ?_) hk
  have hk₁ : ∀ b o, (s.heap.push ob).get? b = some o → h₁.get? b = some o := fun b o e => hsb.extBut b o (Nat.ne_of_lt (Heap.lt_size e)) (Heap.get?_push_of_some _ e)
  refine ⟨(hlim.keeps hB1).fresh _ hsb, codeAny_func (h (s.heap.push ob).objs.size h₁ _ rfl (hide_keep hB1 hn1) (hide_in X hB1 hn1) ⟨hns, fun b o e => hk₁ b o (of_hideAll _ e), Nat.le_of_eq (hideAll_size _ _)⟩
      (fun p hp => ⟨hk₁ _ _ (hg1 p hp), Nat.ne_of_lt (Heap.lt_size (hg1 p hp)), hideAll_none _ (List.mem_map_of_mem hp)⟩) (fun p hp => Heap.lt_size (hg1 p hp)) fun p hp => Heap.lt_size (hget p hp))⟩
end

local macro_rules | `(tactic| walk_at "call ref") => `(tactic| (k_here; (try dsimp only [List.append_nil, List.cons_append, List.nil_append]); (with_reducible show wpAny _ _ (call (Value.ref 101) _ _) _ _ _); k_dflt (refine' whole_use ?F ?N ?X ?T ?hd ?hh ?h1 ?h2 ?_; (case F => k_asm); (case N => k_asm); (case X => k_asm); (case T => k_asm); (case hh => rfl); (case h1 => decide); (case h2 => decide); (case hd => (simp only [depth_deeper]; omega))); intro h' tk' F' N'))
theorem iter_gen {M : Program} {w : World} {A : Around} {s : Shared} {E : Value → Shared → Prop} {a : Addr} {g : Nat} {Q : Value → Shared → Prop} (hg : s.heap.IsGen a g) (h : Q (.ref a) s) : wpAny (model M w) A (call (.builtin "iter") [.ref a]) Q E s := by
  refine call_function_entry (by decide +kernel) (by decide +kernel) kdk_entry_iter (kdk_args_iter _) ?_
  unfold Builtin.«iter»
  refine wpAny_bind (m := someArgs "iter" 1 2 _) (wpAny_of_eq (a := [Value.ref a]) (by first | rfl | kernel_rfl!) ?_)
  show wpAny _ _ (pyIter (.ref a) >>= _) _ _ _
  exact wpAny_bind (wpAny_pyIter_gen hg (wpAny_pure ⟨_, rfl, h⟩))
local macro_rules | `(tactic| walk_at "call builtin:iter") => `(tactic| (k_here; (with_reducible show wpAny _ _ (call (Value.builtin "iter") _) _ _ _); refine' iter_gen ?h ?_; (case h => exact Heap.IsGen.keeps (by assumption) (Fr.keep (by assumption)))))

def islO (dx : Addr) (cnt : Int) (tc : Tok) (it : Value) (nx : Int) (tn ts tp : Tok) : Obj := { cls := .ref 134, dict := some dx, slots := #[some (.int cnt tc), some it, some (.int nx tn), some (.int 1 ts), some (.int (-1) tp)], data := .plain }
theorem isl_init {w : World} {A : Around} {R : Result → Shared → Prop} {s : Shared} {mg mb : Str → Option Value} {B : Heap}
   (X : (hd.heap_39 w.params).In B) (T : TopRead lawView Loo mg mb B) (hB : ∀ b o, B.get? b = some o → s.heap.get? b = some o) (hdep : A.depth + 60 < recursionLimit) (hh : A.handled = none) 
   (x dx a : Addr) (hx : s.heap.get? x = some (instObj 134 dx)) (hdx : s.heap.get? dx = some (dictOf [] 0)) (hxB : B.get? x = none) (hdB : B.get? dx = none) (hlt : dx < x) (g : Nat) (ha : B.IsGen a g) (t1 : Tok)
   (k : ∀ h' tk tc tn ts tp, h'.get? x = some (islO dx 0 tc (.ref a) 1 tn ts tp) → h'.get? dx = some (dictOf [] 0) → (∀ b o, b ≠ x → s.heap.get? b = some o → h'.get? b = some o) → R (.ok (.ret .none)) {s with heap := h', toks := tk}) :
   codeAny (model PySem.Challenge.rw_ij0041_01.row.prog w) A (.call (.ref 116) ⟨[.ref x, .ref a, .int 1 t1, .none], []⟩) R s := by
  obtain ⟨hnd, dep, frs, gds, uns⟩ := A
  dsimp only at hh hdep
  subst hh
  w_on
  revert X T
  k_fill
  intro X T
  refine' enterS (B := B) (news := [(x, instObj 134 dx), (dx, dictOf [] 0)]) (ob := { cls := .type "tuple", data := .seq #[.int 1 t1, .none] }) (binds := [(Str.ofString "self", .ref x), (Str.ofString "iterable", .ref a), (Str.ofString "args", .ref s.heap.objs.size)]) rfl ?kX ?klim ?kB ?knew ?kget ?ko ?kcd ?kroom ?kb ?kloc ?_ ?c1 ?c2 ?c3 ?c4
  case kX => exact X
  case ko => k_is
  case klim => exact T.nolimit
  case kB => exact hB
  case knew => exact List.forall_mem_cons.mpr ⟨hxB, List.forall_mem_cons.mpr ⟨hdB, List.forall_mem_nil _⟩⟩
  case kget => exact List.forall_mem_cons.mpr ⟨hx, List.forall_mem_cons.mpr ⟨hdx, List.forall_mem_nil _⟩⟩
  case kcd => k_is
  case kroom => show dep < _; omega
  case kb => 
    intro E Q hq
    refine (show wpAny _ _ (newTuple [.int 1 t1, .none] >>= fun v => pure [(Str.ofString "self", .ref x), (Str.ofString "iterable", .ref a), (Str.ofString "args", v)]) _ _ _ from ?_)
    unfold newTuple
    exact wpAny_bind (wpAny_newObj_type (wpAny_pure hq) (by size_fits))
  case kloc => exact locs rfl
  case c1 => decide
  case c2 => rfl
  case c3 => rfl
  case c4 => rfl
  intro L h g hg hBg Xg F N hltL hlt3
  have Tg := T.keeps hBg
  have hag := ha.keeps hBg
  clear X T ha
  simp only [List.map_cons, List.map_nil] at hg
  k_lt hltL
  k_lt hlt3
  k_lt2 hlt
  try dsimp only
  try k_fold
  k_steps
  rename Fr _ _ _ _ => F9
  rename News _ _ _ _ => N9
  refine k _ _ _ _ _ _ (N9 _ (.tail _ (.head _))).1 (N9 _ (.tail _ (.tail _ (.head _)))).1 fun b o hb e => ?_
  by_cases hd2 : b = dx
  · subst hd2
    rw [hdx] at e; cases e
    exact (N9 _ (.tail _ (.tail _ (.head _)))).1
  · refine keep_but hg F9 b o ?_ (Heap.get?_push_of_some _ e)
    have : b ≠ s.heap.objs.size := Nat.ne_of_lt (Heap.lt_size e)
    simp [hb, hd2, this]
end Mine
end

-- part I3
section
open PySem PySem.W PySem.Calls PyProof.Rows
set_option maxRecDepth 100000
set_option maxHeartbeats 4000000
namespace Mine

theorem news_one {g h : Heap} {L o : Addr} {m : Str → Option Value} (F : Fr g L h m) (hf : h.get? o = none) : o ≠ L ∧ g.get? o = none := by
  constructor
  · intro e
    obtain ⟨x, _, _, hx, _⟩ := F.ns
    rw [e, hx] at hf; cases hf
  · cases e : g.get? o with
    | none => rfl
    | some x => have := F.keep _ _ e; rw [hf] at this; cases this
section
variable {w : World} {A : Around} {E : Value → Shared → Prop} {s : Shared} {mg mb : Str → Option Value} {g : Heap} {L : Addr} {m : Str → Option Value} {news : List (Addr × Obj)} {Q : Value → Shared → Prop}
theorem isl_make (F : Fr g L s.heap m) (N : News g L s.heap news) (X : (hd.heap_39 w.params).In g) (T : TopRead lawView Loo mg mb g) (hdep : A.depth + 80 < recursionLimit) (hh : A.handled = none)
    (hm : makesIn (hd.heap_39 w.params) 134 = true) (hi : findIn (hd.heap_39 w.params) (.ref 134) "__init__" = some (some (.ref 116))) (hf : isFn (hd.heap_39 w.params) (.ref 116) = true)
    (a : Addr) (gn : Nat) (ha : s.heap.IsGen a gn) (t1 : Tok)
    (h : ∀ h' tk x dx tc tn ts tp, Fr g L h' m → News g L h' ((x, islO dx 0 tc (.ref a) 1 tn ts tp) :: (dx, dictOf [] 0) :: news) → s.heap.get? x = none → s.heap.get? dx = none → (∀ b o, s.heap.get? b = some o → h'.get? b = some o) → x ≠ dx → Q (.ref x) { s with heap := h', toks := tk }) :
    wpAny (model PySem.Challenge.rw_ij0041_01.row.prog w) A (call (.ref 134) [.ref a, .int 1 t1, .none] []) Q E s := by
  obtain ⟨hp, gs, d, tk, os⟩ := s
  have X' := X.keeps F.keep
  have T' := T.keeps F.keep
  have k1 : ∀ b o, hp.get? b = some o → ((hp.push emptyDict).push (instObj 134 hp.objs.size)).get? b = some o := fun b o e => Heap.get?_push_of_some _ (Heap.get?_push_of_some _ e)
  have fresh : ∀ a, hp.objs.size ≤ a → hp.get? a = none := fun a ha => by
    cases e : hp.get? a with
    | none => rfl
    | some o => exact absurd (Heap.lt_size e) (Nat.not_lt.mpr ha)
  have hx0 := fresh (hp.objs.size + 1) (Nat.le_succ _)
  have hd0 := fresh hp.objs.size (Nat.le_refl _)
  have hxx : ((hp.push emptyDict).push (instObj 134 hp.objs.size)).get? (hp.objs.size + 1) = some (instObj 134 hp.objs.size) := by
    have := Heap.get?_push_size (o := instObj 134 hp.objs.size) (hp.push emptyDict) rfl
    rwa [Heap.size_push] at this
  have hdd : ((hp.push emptyDict).push (instObj 134 hp.objs.size)).get? hp.objs.size = some (dictOf [] 0) := Heap.get?_push_of_some _ (Heap.get?_push_size _ rfl)
  refine wpAny_call (make_core (makes_of X' hm) (looks_findIn X' hi) (fun self => bind_fn X' self (beq_iff_eq.mp hf)) (.inl rfl) ?_)
  refine isl_init (B := hp) (s := ⟨(hp.push emptyDict).push (instObj 134 hp.objs.size), gs, d, tk, os⟩) X' T' k1 ?_ (show (A.under (.builtin "type.__call__" ⟨[.ref 134, .ref a, .int 1 t1, .none], []⟩)).handled = none from hh) (hp.objs.size + 1) hp.objs.size a hxx hdd hx0 hd0 (Nat.lt_succ_self _) gn ha t1 ?_
  · rw [depth_under_make]; omega
  intro h' tk' tc tn ts tp e1 e2 hk
  have hk2 : ∀ b o, hp.get? b = some o → h'.get? b = some o := fun b o e => hk b o (Nat.ne_of_lt (Nat.lt_succ_of_lt (Heap.lt_size e))) (k1 b o e)
  refine ⟨rfl, h h' tk' _ _ _ _ _ _ (F.keeps hk2) (List.forall_mem_cons.mpr ⟨⟨e1, news_one F hx0⟩, List.forall_mem_cons.mpr ⟨⟨e2, news_one F hd0⟩, News.grown N hk2⟩⟩) hx0 hd0 hk2 (Nat.ne_of_gt (Nat.lt_succ_self _))⟩
end
local macro_rules | `(tactic| walk_at "call ref") => `(tactic| (k_here; (try dsimp only [List.append_nil, List.cons_append, List.nil_append]); (with_reducible show wpAny _ _ (call (Value.ref 176) _ _) _ _ _); refine stop_here ?_))
local macro_rules | `(tactic| walk_at "call ref") => `(tactic| (k_here; (try dsimp only [List.append_nil, List.cons_append, List.nil_append]); (with_reducible show wpAny _ _ (call (Value.ref 134) _ _) _ _ _); refine stop_here ?_))

theorem parents_spec {w : World} {A : Around} {R : Result → Shared → Prop} {s : Shared} {mg mb : Str → Option Value}
   (X : (hd.heap_39 w.params).In s.heap) (T : TopRead lawView Loo mg mb s.heap) (hdep : A.depth + 100 < recursionLimit) (hh : A.handled = none) 
   (p p0 : Str) (t0 : Tok) (As : List Str) (n : Nat) (hp0 : p0.cps.toList = p.cps.toList ++ List.replicate n 47) (hA : Anc p As) (hp : p0.length ≤ 100)
   (k : ∀ h' tk gs base L oL a x dx tc tn ts tp, (∀ b o, s.heap.get? b = some o → base.get? b = some o) → (∀ b o, base.get? b = some o → h'.get? b = some o) → base.get? a = none → base.get? L = none → base.get? x = none → base.get? dx = none → x ≠ L → x ≠ a → x ≠ dx → a ≠ L → dx ≠ L →
      h'.IsGen a s.gens.size → gs.bare = true → h'.get? L = some oL → h'.get? x = some (islO dx 0 tc (.ref a) 1 tn ts tp) → h'.get? dx = some (dictOf [] 0) →
      (∀ s'' : Shared, (∀ b o, base.get? b = some o → s''.heap.get? b = some o) → s''.heap.get? L = some oL → gs.Goes (model PySem.Challenge.rw_ij0041_01.row.prog w) A0 (ancR L) (ancY L base As) As.length (.send .none) s'') → R (.ok (.ret (.ref x))) { s with heap := h', toks := tk, gens := s.gens.push gs }) :
   codeAny (model PySem.Challenge.rw_ij0041_01.row.prog w) A (.call (.ref 148) ⟨[.str p0 t0], []⟩) R s := by
  obtain ⟨hnd, dep, frs, gds, uns⟩ := A
  dsimp only at hh hdep
  subst hh
  w_on
  revert X T
  k_fill
  intro X T
  refine' enter (binds := [(Str.ofString "path", .str p0 t0)]) ?kX ?klim ?ko ?kcd ?kroom ?kb ?kloc ?_ ?c1 ?c2 ?c3 ?c4
  case kX => exact X
  case ko => k_is
  case klim => exact T.nolimit
  case kcd => k_is
  case kroom => show dep < _; omega
  case kb => exact BindsTo.of_eq rfl
  case kloc => exact locs rfl
  case c1 => decide
  case c2 => rfl
  case c3 => rfl
  case c4 => rfl
  intro L h F N
  try dsimp only
  try k_fold
  k_steps
  refine (show Stop _ from wpAny_call (ancestry_spec (X.keeps F.keep) (T.keeps F.keep) ?_ rfl p p0 t0 As n hp0 hA hp ?_))
  · simp only [depth_deeper]; omega
  intro h1 tk1 gs LG a hk1 ha0 hL0 haL hgen hbare hgoes ⟨oL, hoL⟩
  have hgen' := hgen
  obtain ⟨og, nm, qn, hog, hog2⟩ := hgen'
  have F1 := F.keeps hk1
  have N1 : News s.heap L h1 [(a, og), (LG, oL)] := List.forall_mem_cons.mpr ⟨⟨hog, news_one F ha0⟩, List.forall_mem_cons.mpr ⟨⟨hoL, news_one F hL0⟩, News.nil⟩⟩
  have hkb : True → ∀ b o, s.heap.get? b = some o → h.get? b = some o := fun _ => F.keep
  clear F N
  dsimp only
  k_steps
  refine (show Stop _ from isl_make F1 N1 X T ?_ rfl ?m ?i ?f a _ hgen _ ?_)
  case m => k_is
  case i => k_is
  case f => k_is
  · simp only [depth_deeper]; omega
  intro h2 tk2 x dx tc tn ts tp F2 N2 hx0 hdx0 hk2 hxd
  k_steps
  have hk1' : ∀ b o, h.get? b = some o → h1.get? b = some o := hk1
  have hk2' : ∀ b o, h1.get? b = some o → h2.get? b = some o := hk2
  have hx1 : h1.get? x = none := hx0
  have hdx1 : h1.get? dx = none := hdx0
  have bnone : ∀ b, h1.get? b = none → h.get? b = none := fun b hb => by
    cases e : h.get? b with
    | none => rfl
    | some o => have := hk1' b o e; rw [hb] at this; cases this
  have nex : ∀ b c o, h1.get? b = none → h1.get? c = some o → b ≠ c := fun b c o hb hc e => by rw [e, hc] at hb; cases hb
  refine k _ _ gs h LG oL a x dx tc tn ts tp (hkb trivial) (fun b o e => hk2' b o (hk1' b o e)) ha0 hL0 (bnone _ hx1) (bnone _ hdx1) (nex _ _ _ hx1 hoL) (nex _ _ _ hx1 hog) hxd haL (nex _ _ _ hdx1 hoL) (hgen.keeps hk2') hbare (hk2' _ _ hoL) (N2 _ (.head _)).1 (N2 _ (.tail _ (.head _))).1 ?_
  intro s'' hb hL
  exact hgoes s'' ⟨hb, fun o ho => by
    have ho' : h1.get? LG = some o := ho
    rw [hoL] at ho'; cases ho'; exact hL⟩
end Mine
end

-- part I4
section
open PySem PySem.W PySem.Calls PyProof.Rows
set_option maxRecDepth 100000
set_option maxHeartbeats 4000000
namespace Mine

section
variable {prog : Program} {w : World} {A : Around} {E : Value → Shared → Prop} {s : Shared} {Q : Value → Shared → Prop}

/-- one more item of the generator, by the built-in next -/
theorem next_gen {a L : Addr} {base : Heap} {As : List Str} {g n : Nat} {gs : GenState} (hh : A.handled = none) (hl : s.heap.NoLimit) (hdep : A.depth ≤ 500) (hu : A.units ≤ 90000)
    (hg : s.heap.IsGen a g) (hgs : s.gens[g]? = some gs) (hbase : ∀ b o, base.get? b = some o → s.heap.get? b = some o) (hbL : base.get? L = none)
    (hgo : gs.Goes (model prog w) A0 (ancR L) (ancY L base As) n (.send .none) (s.setGen g .running))
    (hY : ∀ v s₁ gs', gs'.bare = true → ∀ m, n = m + 1 → (∃ t, v = .str (As.getD (As.length - n) Str.empty) t) → GenSince L [] (s.setGen g .running) s₁ → (∃ o, s₁.heap.get? L = some o) → (∀ s'', SameAt L base s₁ s'' → gs'.Goes (model prog w) A0 (ancR L) (ancY L base As) m (.send .none) s'') → Q v (s₁.setGen g gs'))
    (hE : ∀ s₁, n = 0 → GenSince L [] (s.setGen g .running) s₁ → ∀ h' e, Heap.MadeExc s₁.heap h' e "StopIteration" [] → E (.ref e) { s₁.setGen g .finished with heap := h' }) :
    wpAny (model prog w) A (call (.builtin "next") [.ref a]) Q E s := by
  refine call_function_entry (by decide +kernel) (by decide +kernel) kdk_entry_next (kdk_args_next _) ?_
  unfold Builtin.«next»
  refine wpAny_bind (m := someArgs "next" 1 2 _) (wpAny_of_eq (a := [Value.ref a]) (by first | rfl | kernel_rfl!) ?_)
  dsimp only
  refine wpAny_bind (wpAny_specialOf (name := Str.ofString "__next__") hg.typeIs slot_gen_next.lookup ?_)
  refine wpAny_ite_split (fun hab => absurd hab (by decide)) (fun _ => ?_)
  refine wpAny_bind (wpAny_callSpecial?_slot (name := Str.ofString "__next__") hg.typeIs slot_gen_next
    (wpAny_call_entry slot_gen_next hg.typeIs entry_gen_next ?_ (args_gen_next _)))
  show wpAny _ A.in1.in1 (Builtin.Generator.genWake (.ref a) (.send .none)) _ _ s
  unfold Builtin.Generator.genWake
  refine wpAny_bind (wpAny_holding (wpAny_genNumber hg (wpAny_bind (wpAny_genState hgs ?_))))
  have hrl : recursionLimit = 1000 := rfl
  cases gs with
  | running => exact hgo.elim
  | finished => exact hgo.elim
  | _ =>
    refine wpAny_bind (wpAny_roomToWake hl (by show A.depth < recursionLimit; omega) ?_)
    show wpAny _ A.in1.in1 (.resume g (.send .none) [] _) _ _ s
    refine wpAny_weaken (A₁ := A0) ?_ (by show none = _; exact hh.symm) (by show A.depth ≤ 600; omega) rfl rfl (by show A.units + 1 + 1 ≤ 100000; omega)
    refine wpAny_resumeQ hgs hgo (fun x s₁ hx => ?_) (fun v s₁ gs' hb hv => ?_)
    · obtain ⟨rfl, hn, hp⟩ := hx
      show wpAny _ A0 (newExc (.type "StopIteration") [] >>= _) _ _ _
      refine wpAny_bind ?_
      simp only [newExc, newTuple]
      refine wpAny_bind (wpAny_newObj_type ?_ (by size_fits))
      refine wpAny_bind (m := firstArgMember _ _) (wpAny_of_eq (a := Value.none) (by first | rfl | (simp only [firstArgMember]; rfl)) ?_)
      refine wpAny_newObj_type ?_ (by size_fits)
      simp only [raiseNew]
      refine wpAny_bind (wpAny_bind (wpAny_handled ?_))
      rw [show A0.handled = none from rfl]
      refine wpAny_throw ?_
      refine hE s₁ hn hp _ _ ⟨fun b o hb => Heap.get?_push_of_some _ (Heap.get?_push_of_some _ hb), Heap.get?_none_of_le ?_, _, Heap.get?_push_size _ rfl, Heap.get?_none_of_le (Nat.le_refl _), Heap.get?_push_of_some _ (Heap.get?_push_size _ rfl)⟩
      rw [Heap.size_push]
      exact Nat.le_succ _
    · refine wpAny_pure ⟨v, rfl, wpAny_pure ⟨v, rfl, ?_⟩⟩
      cases n with
      | zero =>
        obtain ⟨h', tk, rfl, hk⟩ := hv.2.1
        refine (hv.2.2.2 _ ⟨fun b o e => hk b o ?_ (by simp) (hbase b o e), fun o e => e⟩).elim
        rintro rfl
        rw [hbL] at e; cases e
      | succ m =>
        refine hY v s₁ gs' hb m rfl ?_ hv.2.1 hv.2.2.1 (fun s'' hs => hv.2.2.2 s'' hs)
        have h1 := hv.1
        have e : As.length - 1 - (m + 1 - 1) = As.length - (m + 1) := by omega
        rw [e] at h1
        exact h1
end
end Mine
end

-- part I5
section
open PySem PySem.W PySem.Calls PyProof.Rows
set_option maxRecDepth 100000
set_option maxHeartbeats 4000000
namespace Mine

def Left (w : World) (L : Addr) (base : Heap) (As : List Str) (n : Nat) (gs : GenState) (h : Heap) : Prop :=
  ∃ oL, h.get? L = some oL ∧ ∀ s'' : Shared, (∀ b o, base.get? b = some o → s''.heap.get? b = some o) → s''.heap.get? L = some oL → gs.Goes (model PySem.Challenge.rw_ij0041_01.row.prog w) A0 (ancR L) (ancY L base As) n (.send .none) s''

theorem next_use {w : World} {A : Around} {E : Value → Shared → Prop} {s : Shared} {Q : Value → Shared → Prop} {a L L₁ : Addr} {base g : Heap} {As : List Str} {gn n : Nat} {gs : GenState} {m : Str → Option Value} {news : List (Addr × Obj)} {oL : Obj}
    (F : Fr g L₁ s.heap m) (N : News g L₁ s.heap ((L, oL) :: news)) (hnL : ∀ p ∈ news, @Ne Nat p.1 L) (hbg : ∀ b o, base.get? b = some o → g.get? b = some o) (hh : A.handled = none) (hl : s.heap.NoLimit) (hdep : A.depth ≤ 500) (hu : A.units ≤ 90000)
    (hg : s.heap.IsGen a gn) (hgs : s.gens[gn]? = some gs) (hbL : base.get? L = none)
    (hgo : ∀ s'' : Shared, (∀ b o, base.get? b = some o → s''.heap.get? b = some o) → s''.heap.get? L = some oL → gs.Goes (model PySem.Challenge.rw_ij0041_01.row.prog w) A0 (ancR L) (ancY L base As) n (.send .none) s'')
    (hY : ∀ h' tk gens' gs' t m' oL', gs'.bare = true → n = m' + 1 → gens'[gn]? = some gs' → GenOnly gn s.gens gens' → Fr g L₁ h' m → News g L₁ h' ((L, oL') :: news) →
      (∀ s'' : Shared, (∀ b o, base.get? b = some o → s''.heap.get? b = some o) → s''.heap.get? L = some oL' → gs'.Goes (model PySem.Challenge.rw_ij0041_01.row.prog w) A0 (ancR L) (ancY L base As) m' (.send .none) s'') →
      (∀ b o, b ≠ L → s.heap.get? b = some o → h'.get? b = some o) → Q (.str (As.getD (As.length - n) Str.empty) t) { s with heap := h', toks := tk, gens := gens' })
    (hE : ∀ h' h'' tk gens' e, n = 0 → gens'[gn]? = some .finished → GenOnly gn s.gens gens' → (∀ b o, b ≠ L → s.heap.get? b = some o → h'.get? b = some o) → Heap.MadeExc h' h'' e "StopIteration" [] → E (.ref e) { s with heap := h'', toks := tk, gens := gens' }) :
    wpAny (model PySem.Challenge.rw_ij0041_01.row.prog w) A (call (.builtin "next") [.ref a]) Q E s := by
  obtain ⟨hLo, hLL, hLg⟩ := N _ (.head _)
  have hbase : ∀ b o, base.get? b = some o → s.heap.get? b = some o := fun b o e => F.keep _ _ (hbg b o e)
  have hL1 : L₁ ≠ L := fun e => hLL e.symm
  have frr : ∀ h', (∀ b o, b ≠ L → s.heap.get? b = some o → h'.get? b = some o) → Fr g L₁ h' m := fun h' hk =>
    ⟨F.ns.at' (fun o e => hk _ _ hL1 e), fun b o e => hk b o (fun q => by rw [q] at e; rw [show g.get? L = none from hLg] at e; cases e) (F.keep b o e), F.above⟩
  refine next_gen (L := L) (base := base) (As := As) (n := n) hh hl hdep hu hg hgs hbase hbL (hgo _ hbase hLo) ?_ ?_
  · intro v s₁ gs' hb m' hn hv hs1 ⟨oL', hoL'⟩ hgo'
    obtain ⟨t, rfl⟩ := hv
    obtain ⟨h', tk, rfl, hk⟩ := hs1
    have hk' : ∀ b o, b ≠ L → s.heap.get? b = some o → h'.get? b = some o := fun b o hb e => hk b o hb (by simp) e
    refine hY h' tk _ gs' t m' oL' hb hn (setGen_self (gs := .running) (setGen_self hgs)) ((GenOnly.setGen s gn .running).trans (GenOnly.setGen _ gn gs')) (frr h' hk') (fun p hp => ?_) (fun s'' h1 h2 => hgo' s'' ⟨h1, fun o e => ?_⟩) hk'
    · rcases List.mem_cons.mp hp with rfl | hp
      · exact ⟨hoL', hLL, hLg⟩
      · exact ⟨hk' _ _ (hnL p hp) (N p (.tail _ hp)).1, (N p (.tail _ hp)).2⟩
    · have e' : h'.get? L = some o := e
      rw [show h'.get? L = some oL' from hoL'] at e'; cases e'; exact h2
  · intro s₁ hn hs1 h'' e he
    obtain ⟨h', tk, rfl, hk⟩ := hs1
    exact hE h' h'' tk _ e hn (setGen_self (gs := .running) (setGen_self hgs)) ((GenOnly.setGen s gn .running).trans (GenOnly.setGen _ gn .finished)) (fun b o hb e => hk b o hb (by simp) e) he
end Mine
end

-- part I6
section
open PySem PySem.W PySem.Calls PyProof.Rows
set_option maxRecDepth 100000
set_option maxHeartbeats 4000000
namespace Mine
local macro_rules | `(tactic| walk_at "call builtin:next") => `(tactic| (k_here; (with_reducible show wpAny _ _ (call (Value.builtin "next") _) _ _ _); refine stop_here ?_))

theorem keep_isl {h h' g : Heap} {L₁ L x dx a : Addr} {m : Str → Option Value} {o1 o2 o3 og : Obj} (hg : g = hideAll h [L, x, dx, a]) (F : Fr g L₁ h' m) (N : News g L₁ h' [(L, o1), (x, o2), (dx, o3), (a, og)]) (h1 : h.get? dx = some o3) (h2 : h.get? a = some og) :
    ∀ b o, b ≠ x → b ≠ L → h.get? b = some o → h'.get? b = some o := fun b o hbx hbL e => by
  by_cases q1 : b = dx
  · subst q1; rw [h1] at e; cases e; exact (N _ (.tail _ (.tail _ (.head _)))).1
  · by_cases q2 : b = a
    · subst q2; rw [h2] at e; cases e; exact (N _ (.tail _ (.tail _ (.tail _ (.head _))))).1
    · exact keep_but hg F b o (by simp [hbx, hbL, q1, q2]) e
theorem inext_later {w : World} {A : Around} {R : Result → Shared → Prop} {s : Shared} {mg mb : Str → Option Value} {B : Heap}
   (X : (hd.heap_39 w.params).In B) (T : TopRead lawView Loo mg mb B) (hB : ∀ b o, B.get? b = some o → s.heap.get? b = some o) (hdep : A.depth ≤ 400) (hun : A.units ≤ 80000) (hh : A.handled = none) 
   (x dx a L : Addr) (c : Int) (hc : 2 ≤ c ∧ c ≤ 1000) (tc tn ts tp : Tok) (og oL : Obj) (hx : s.heap.get? x = some (islO dx c tc (.ref a) c tn ts tp)) (hdx : s.heap.get? dx = some (dictOf [] 0)) (hag : s.heap.get? a = some og) (hL : s.heap.get? L = some oL)
   (hxB : B.get? x = none) (hdB : B.get? dx = none) (haB : B.get? a = none) (hLB : B.get? L = none) (n1 : @Ne Nat x dx) (n2 : @Ne Nat x a) (n3 : @Ne Nat x L) (n4 : @Ne Nat dx a) (n5 : @Ne Nat dx L) (n6 : @Ne Nat a L)
   (gn m : Nat) (gs : GenState) (As : List Str) (hgen : s.heap.IsGen a gn) (hgs : s.gens[gn]? = some gs)
   (hgo : ∀ s'' : Shared, (∀ b o, B.get? b = some o → s''.heap.get? b = some o) → s''.heap.get? L = some oL → gs.Goes (model PySem.Challenge.rw_ij0041_01.row.prog w) A0 (ancR L) (ancY L B As) (m + 1) (.send .none) s'')
   (k : ∀ h' tk gens' gs' t oL' tc tn, gs'.bare = true → gens'[gn]? = some gs' → GenOnly gn s.gens gens' → h'.get? x = some (islO dx (c + 1) tc (.ref a) (c + 1) tn ts tp) → h'.get? L = some oL' →
      (∀ s'' : Shared, (∀ b o, B.get? b = some o → s''.heap.get? b = some o) → s''.heap.get? L = some oL' → gs'.Goes (model PySem.Challenge.rw_ij0041_01.row.prog w) A0 (ancR L) (ancY L B As) m (.send .none) s'') →
      (∀ b o, b ≠ x → b ≠ L → s.heap.get? b = some o → h'.get? b = some o) → R (.ok (.ret (.str (As.getD (As.length - (m + 1)) Str.empty) t))) {s with heap := h', toks := tk, gens := gens'}) :
   codeAny (model PySem.Challenge.rw_ij0041_01.row.prog w) A (.call (.ref 130) ⟨[.ref x], []⟩) R s := by
  obtain ⟨hnd, dep, frs, gds, uns⟩ := A
  dsimp only at hh hdep hun
  subst hh
  have hrl : recursionLimit = 1000 := rfl
  w_on
  revert X T
  k_fill
  intro X T
  refine' enterN (B := B) (news := [(L, oL), (x, islO dx c tc (.ref a) c tn ts tp), (dx, dictOf [] 0), (a, og)]) (binds := [(Str.ofString "self", .ref x)]) ?kX ?klim ?kB ?knew ?kget ?ko ?kcd ?kroom ?kb ?kloc ?_ ?c1 ?c2 ?c3 ?c4
  case kX => exact X
  case ko => k_is
  case klim => exact T.nolimit
  case kB => exact hB
  case knew => exact List.forall_mem_cons.mpr ⟨hLB, List.forall_mem_cons.mpr ⟨hxB, List.forall_mem_cons.mpr ⟨hdB, List.forall_mem_cons.mpr ⟨haB, List.forall_mem_nil _⟩⟩⟩⟩
  case kget => exact List.forall_mem_cons.mpr ⟨hL, List.forall_mem_cons.mpr ⟨hx, List.forall_mem_cons.mpr ⟨hdx, List.forall_mem_cons.mpr ⟨hag, List.forall_mem_nil _⟩⟩⟩⟩
  case kcd => k_is
  case kroom => show dep < _; omega
  case kb => exact BindsTo.of_eq rfl
  case kloc => exact locs rfl
  case c1 => decide
  case c2 => rfl
  case c3 => rfl
  case c4 => rfl
  intro L₁ h g hg hBg Xg F N hltL
  have Tg := T.keeps hBg
  clear X T
  simp only [List.map_cons, List.map_nil] at hg
  k_lt hltL
  simp only [islO] at N
  try dsimp only
  try k_fold
  k_steps
  refine WhlIf.no (by simp) ?_
  k_steps
  rename Fr _ _ _ _ => F9
  rename News _ _ _ _ => N9
  obtain ⟨og', nm, qn, e1, e2⟩ := hgen
  rw [hag] at e1
  cases e1
  refine (show Stop _ from next_use (base := B) F9 N9 (List.forall_mem_cons.mpr ⟨n3, List.forall_mem_cons.mpr ⟨n5, List.forall_mem_cons.mpr ⟨n6, List.forall_mem_nil _⟩⟩⟩) hBg rfl (Tg.nolimit.keeps F9.keep) ?_ ?_ ⟨og, nm, qn, (N9 _ (.tail _ (.tail _ (.tail _ (.head _))))).1, e2⟩ hgs hLB hgo ?_ ?_)
  · simp only [depth_deeper]; omega
  · simp only [units_deeper]; omega
  · intro h1 tk1 gens' gs' t m' oL' hbare hn hgen' honly F N hgo' _
    clear F9 N9
    dsimp only
    k_steps
    rename Fr _ _ _ _ => F9
    rename News _ _ _ _ => N9
    obtain rfl : m' = m := by omega
    exact k _ _ gens' gs' t oL' _ _ hbare hgen' honly (N9 _ (.tail _ (.head _))).1 (N9 _ (.head _)).1 hgo' (keep_isl hg F9 N9 hdx hag)
  · intro h1 h2 tk1 gens' e hn
    omega
theorem inext_first {w : World} {A : Around} {R : Result → Shared → Prop} {s : Shared} {mg mb : Str → Option Value} {B : Heap}
   (X : (hd.heap_39 w.params).In B) (T : TopRead lawView Loo mg mb B) (hB : ∀ b o, B.get? b = some o → s.heap.get? b = some o) (hdep : A.depth ≤ 400) (hun : A.units ≤ 80000) (hh : A.handled = none) 
   (x dx a L : Addr) (tc tn ts tp : Tok) (og oL : Obj) (hx : s.heap.get? x = some (islO dx 0 tc (.ref a) 1 tn ts tp)) (hdx : s.heap.get? dx = some (dictOf [] 0)) (hag : s.heap.get? a = some og) (hL : s.heap.get? L = some oL)
   (hxB : B.get? x = none) (hdB : B.get? dx = none) (haB : B.get? a = none) (hLB : B.get? L = none) (n1 : @Ne Nat x dx) (n2 : @Ne Nat x a) (n3 : @Ne Nat x L) (n4 : @Ne Nat dx a) (n5 : @Ne Nat dx L) (n6 : @Ne Nat a L)
   (gn m : Nat) (gs : GenState) (As : List Str) (hgen : s.heap.IsGen a gn) (hgs : s.gens[gn]? = some gs)
   (hgo : ∀ s'' : Shared, (∀ b o, B.get? b = some o → s''.heap.get? b = some o) → s''.heap.get? L = some oL → gs.Goes (model PySem.Challenge.rw_ij0041_01.row.prog w) A0 (ancR L) (ancY L B As) (m + 2) (.send .none) s'')
   (k : ∀ h' tk gens' gs' t oL' tc tn, gs'.bare = true → gens'[gn]? = some gs' → GenOnly gn s.gens gens' → h'.get? x = some (islO dx 2 tc (.ref a) 2 tn ts tp) → h'.get? L = some oL' →
      (∀ s'' : Shared, (∀ b o, B.get? b = some o → s''.heap.get? b = some o) → s''.heap.get? L = some oL' → gs'.Goes (model PySem.Challenge.rw_ij0041_01.row.prog w) A0 (ancR L) (ancY L B As) m (.send .none) s'') →
      (∀ b o, b ≠ x → b ≠ L → s.heap.get? b = some o → h'.get? b = some o) → R (.ok (.ret (.str (As.getD (As.length - (m + 1)) Str.empty) t))) {s with heap := h', toks := tk, gens := gens'}) :
   codeAny (model PySem.Challenge.rw_ij0041_01.row.prog w) A (.call (.ref 130) ⟨[.ref x], []⟩) R s := by
  obtain ⟨hnd, dep, frs, gds, uns⟩ := A
  dsimp only at hh hdep hun
  subst hh
  have hrl : recursionLimit = 1000 := rfl
  w_on
  revert X T
  k_fill
  intro X T
  refine' enterN (B := B) (news := [(L, oL), (x, islO dx 0 tc (.ref a) 1 tn ts tp), (dx, dictOf [] 0), (a, og)]) (binds := [(Str.ofString "self", .ref x)]) ?kX ?klim ?kB ?knew ?kget ?ko ?kcd ?kroom ?kb ?kloc ?_ ?c1 ?c2 ?c3 ?c4
  case kX => exact X
  case ko => k_is
  case klim => exact T.nolimit
  case kB => exact hB
  case knew => exact List.forall_mem_cons.mpr ⟨hLB, List.forall_mem_cons.mpr ⟨hxB, List.forall_mem_cons.mpr ⟨hdB, List.forall_mem_cons.mpr ⟨haB, List.forall_mem_nil _⟩⟩⟩⟩
  case kget => exact List.forall_mem_cons.mpr ⟨hL, List.forall_mem_cons.mpr ⟨hx, List.forall_mem_cons.mpr ⟨hdx, List.forall_mem_cons.mpr ⟨hag, List.forall_mem_nil _⟩⟩⟩⟩
  case kcd => k_is
  case kroom => show dep < _; omega
  case kb => exact BindsTo.of_eq rfl
  case kloc => exact locs rfl
  case c1 => decide
  case c2 => rfl
  case c3 => rfl
  case c4 => rfl
  intro L₁ h g hg hBg Xg F N hltL
  have Tg := T.keeps hBg
  clear X T
  simp only [List.map_cons, List.map_nil] at hg
  k_lt hltL
  simp only [islO] at N
  try dsimp only
  try k_fold
  k_steps
  rename Fr _ _ _ _ => F9
  rename News _ _ _ _ => N9
  obtain ⟨og', nm, qn, e1, e2⟩ := hgen
  rw [hag] at e1
  cases e1
  refine (show Stop _ from next_use (base := B) F9 N9 (List.forall_mem_cons.mpr ⟨n3, List.forall_mem_cons.mpr ⟨n5, List.forall_mem_cons.mpr ⟨n6, List.forall_mem_nil _⟩⟩⟩) hBg rfl (Tg.nolimit.keeps F9.keep) ?_ ?_ ⟨og, nm, qn, (N9 _ (.tail _ (.tail _ (.tail _ (.head _))))).1, e2⟩ hgs hLB hgo ?_ ?_)
  · simp only [depth_deeper]; omega
  · simp only [units_deeper]; omega
  · intro h1 tk1 gens' gs' t m' oL' hbare hn hgen' honly F N hgo' _
    clear F9 N9 hgs hgo
    dsimp only
    k_steps
    rename Fr _ _ _ _ => F9
    rename News _ _ _ _ => N9
    obtain rfl : m' = m + 1 := by omega
    refine (show Stop _ from next_use (base := B) F9 N9 (List.forall_mem_cons.mpr ⟨n3, List.forall_mem_cons.mpr ⟨n5, List.forall_mem_cons.mpr ⟨n6, List.forall_mem_nil _⟩⟩⟩) hBg rfl (Tg.nolimit.keeps F9.keep) ?_ ?_ ⟨og, nm, qn, (N9 _ (.tail _ (.tail _ (.tail _ (.head _))))).1, e2⟩ hgen' hLB hgo' ?_ ?_)
    · simp only [depth_deeper]; omega
    · simp only [units_deeper]; omega
    · intro h2 tk2 gens2 gs2 t2 m2 oL2 hbare2 hn2 hgen2 honly2 F N hgo2 _
      clear F9 N9
      dsimp only
      k_steps
      rename Fr _ _ _ _ => F9
      rename News _ _ _ _ => N9
      obtain rfl : m2 = m := by omega
      exact k _ _ gens2 gs2 t2 oL2 _ _ hbare2 hgen2 (honly.trans honly2) (N9 _ (.tail _ (.head _))).1 (N9 _ (.head _)).1 hgo2 (keep_isl hg F9 N9 hdx hag)
    · intro h1 h2 tk1 gens' e hn
      omega
  · intro h1 h2 tk1 gens' e hn
    omega
end Mine
end

-- part I7
section
open PySem PySem.W PySem.Calls PyProof.Rows
set_option maxRecDepth 100000
set_option maxHeartbeats 4000000
namespace Mine

section
variable {M : Model} {A : Around} {E : Value → Shared → Prop} {s : Shared}

theorem note_made {base h : Heap} {env : Env} {outer : List Env} {L e : Addr} {Q : Unit → Shared → Prop} {cls : String} {args : List Value}
    (hfr : A.frames = some (env :: outer)) (hf : env.frame = some L) (hkb : base.StaysIn h) (hl : h.FunFrames base (env :: outer)) (hx : Heap.MadeExc h s.heap e cls args)
    (hQ : ∀ h' t, Heap.HeldW base (env :: outer) e (.type cls) (.ref t) L h' → s.heap.UpToSlots h' → Q () { s with heap := h' }) : wpAny M A (noteFrame (.ref e) env) Q E s := by
  obtain ⟨t, he, htn, ht⟩ := hx.there
  have fresh : ∀ b, h.get? b = none → base.get? b = none := fun b hb => by
    cases hq : base.get? b with
    | none => rfl
    | some o' => have := hkb b o' hq; rw [hb] at this; cases this
  unfold noteFrame
  simp only [hf]
  refine wpAny_bind (wpAny_field (x := .none) he rfl rfl ?_)
  rw [if_neg (by decide)]
  refine wpAny_entryW (a0 := .ref t) hfr (hl.of_keeps fun b o hb _ => ⟨o, hx.keeps b o hb, rfl⟩) hf he (fun b o hb => hx.keeps b o (hkb b o hb)) (fresh e hx.new) rfl (by simp) rfl fun h' hN => ?_
  obtain ⟨k1, k2, k3, k4⟩ := hN
  exact hQ h' t ⟨k1, fresh e hx.new, k2, k3⟩ k4

theorem set_held {base : Heap} {l : List Env} {e L : Addr} {cls a0 fl : Value} {Q : Unit → Shared → Prop} (h1 : base.StaysIn s.heap) (h2 : base.get? e = none) (h3 : s.heap.FunFrames base l) (h4 : s.heap.TracedAtW base e cls a0 fl)
    (hQ : ∀ h', Heap.HeldW base l e cls a0 L h' → s.heap.UpToSlots h' → Q () { s with heap := h' }) : wpAny M A (setFlight (.ref e) (some L)) Q E s := by
  obtain ⟨oe, vs, T, oT, ts, he, hcls, hd, h1', hnT, hTe, hT, hdT, h3'⟩ := h4
  have hsz3 : 3 < ts.size := (Array.getElem?_eq_some_iff.mp h3').1
  have other : ∀ b, b ≠ T → (s.heap.update T (Obj.mapFields (·.setIfInBounds 3 (rawInt L)))).get? b = s.heap.get? b :=
    fun b hb => Heap.get?_update_other _ _ (Ne.symm hb)
  have noRecord : ∀ b o, s.heap.get? b = some o → (∀ vs, o.data ≠ .fields vs) → b ≠ T := fun b o hb hnf q => by
    rw [q, hT] at hb; injection hb with hb; subst hb; exact hnf ts hdT
  unfold setFlight
  refine wpAny_bind (wpAny_field he hd h1' ?_)
  rw [if_pos (show (Value.ref T != Value.none) = true from by simp)]
  refine wpAny_setField hT hdT hsz3 (hQ _ ⟨fun b o hbo => (other b fun q => by rw [q, hnT] at hbo; cases hbo).trans (h1 b o hbo), h2,
    h3.of_keeps fun b o hb hnf => ⟨o, (other b (noRecord b o hb hnf)).trans hb, rfl⟩, ?_⟩ fun b o hb hnf => ⟨o.slots, (other b (noRecord b o hb hnf)).trans hb⟩)
  exact ⟨oe, vs, T, _, _, (other e (Ne.symm hTe)).trans he, hcls, hd, h1', hnT, hTe, Heap.get?_update_self _ hT (Obj.isFreed_of_fields (Obj.data_mapFields hdT _)), Obj.data_mapFields hdT _, by simp [hsz3]⟩

/-- a bare raise within a handler -/
theorem raise_bare {base : Heap} {env : Env} {l : List Env} {e L : Addr} {cls a0 : Value} {pos : Pos} {Q : Flow → Shared → Prop} (hh : A.handled = some (.ref e)) (hf : env.frame = some L) (hfl : Heap.FlyingW base l e cls a0 s.heap)
    (hE : ∀ h', Heap.HeldW base l e cls a0 L h' → s.heap.UpToSlots h' → E (.ref e) { s with heap := h' }) : wpAny M A (exec (.Raise none none pos) env) Q E s := by
  rw [arm_exec_Raise]
  refine wpAny_bind (wpAny_standAt ?_)
  show wpAny M A (raiseStmt env none none) Q E s
  unfold raiseStmt
  refine wpAny_bind (wpAny_handled ?_)
  rw [hh]
  dsimp only
  obtain ⟨f1, f2, f3, f4⟩ := hfl
  have f4' := f4
  obtain ⟨oe, vs, T, oT, ts, he, hcls, hd, h1', hnT, hTe, hT, hdT, h3'⟩ := f4'
  refine wpAny_bind (wpAny_rule (wpAny_bind (wpAny_field he hd h1' ?_)))
  rw [if_neg (by simp)]
  rw [hf]
  refine wpAny_bind (set_held f1 f2 f3 f4 fun h' hheld hup => ?_)
  exact wpAny_throw (hE h' hheld hup)

theorem came_back {base : Heap} {env : Env} {l : List Env} {e L : Addr} {cls a0 : Value} (hf : env.frame = some L) (hheld : Heap.HeldW base l e cls a0 L s.heap)
    (hE : ∀ h', Heap.HeldW base l e cls a0 L h' → s.heap.UpToSlots h' → E (.ref e) { s with heap := h' }) {A' : Around} : notedBy M A' env (cameBackBy M A env E) (.ref e) s := by
  unfold notedBy
  refine wpAny_noteFrame_againW hf hheld.2.2.2 ?_
  unfold cameBackBy
  obtain ⟨f1, f2, f3, f4⟩ := hheld
  have f4' := f4
  obtain ⟨oe, vs, T, oT, ts, he, hcls, hd, h1', hnT, hTe, hT, hdT, h3'⟩ := f4'
  refine wpAny_bind (wpAny_field he hd h1' ?_)
  rw [if_neg (by simp)]
  rw [hf]
  exact set_held f1 f2 f3 f4 hE
end
end Mine
end

-- part I8
section
open PySem PySem.W PySem.Calls PyProof.Rows
set_option maxRecDepth 100000
set_option maxHeartbeats 4000000
namespace Mine
local macro_rules | `(tactic| walk_at "call builtin:next") => `(tactic| (k_here; (with_reducible show wpAny _ _ (call (Value.builtin "next") _) _ _ _); refine stop_here ?_))
local macro_rules | `(tactic| walk_at "setAttr ref") => `(tactic| (k_here; (with_reducible show wpAny _ _ (setAttr _ (Str.ofString "_it") Value.none) _ _ _); refine stop_here ?_))

theorem fun_keep {base h h' : Heap} {base' : Heap} (hb : ∀ b, base.get? b = none → base'.get? b = none) {l : List Env} (k : ∀ b o, b ∈ l.filterMap (·.frame) → h.get? b = some o → (∀ vs, o.data ≠ .fields vs) → ∃ o', h'.get? b = some o' ∧ ∀ vs, o'.data ≠ .fields vs) (hl : h.FunFrames base l) : h'.FunFrames base' l := by
  induction l with
  | nil => trivial
  | cons env rest ih =>
    obtain ⟨hk, ⟨L, o, hf, hn, ho, hd⟩, hr⟩ := hl
    obtain ⟨o', ho', hd'⟩ := k L o (List.mem_filterMap.mpr ⟨env, .head _, hf⟩) ho hd
    refine ⟨hk, ⟨L, o', hf, hb _ hn, ho', hd'⟩, ih (fun b o hm => k b o ?_) hr⟩
    obtain ⟨e, he, hef⟩ := List.mem_filterMap.mp hm
    exact List.mem_filterMap.mpr ⟨e, .tail _ he, hef⟩
theorem fr_but {g h h' : Heap} {L₁ L : Addr} {m : Str → Option Value} (F : Fr g L₁ h m) (hne : L₁ ≠ L) (hg : g.get? L = none) (hk : ∀ b o, b ≠ L → h.get? b = some o → h'.get? b = some o) : Fr g L₁ h' m :=
  ⟨F.ns.at' (fun o e => hk _ _ hne e), fun b o e => hk b o (fun q => by rw [q, hg] at e; cases e) (F.keep b o e), F.above⟩
/-- a flight goes on although x and L changed -/
theorem fly_keep {base base' h h' : Heap} {l : List Env} {e x L : Addr} {cls a0 : Value} (hfl : Heap.FlyingW base l e cls a0 h) (hb : ∀ b, base.get? b = none → base'.get? b = none) (hs : base'.StaysIn h')
    (hk : ∀ b o, b ≠ x → b ≠ L → h.get? b = some o → h'.get? b = some o) {ox ox' oL oL' : Obj} (hx : h.get? x = some ox) (hxd : ∀ vs, ox.data ≠ .fields vs) (hx' : h'.get? x = some ox') (hxd' : ∀ vs, ox'.data ≠ .fields vs)
    (hL : h.get? L = some oL) (hLd : ∀ vs, oL.data ≠ .fields vs) (hL' : h'.get? L = some oL') (hLd' : ∀ vs, oL'.data ≠ .fields vs) : Heap.FlyingW base' l e cls a0 h' := by
  obtain ⟨f1, f2, f3, oe, vs, T, oT, ts, he, hcls, hd, h1', hnT, hTe, hT, hdT, h3'⟩ := hfl
  have ne : ∀ b o vs, h.get? b = some o → o.data = .fields vs → b ≠ x ∧ b ≠ L := fun b o vs hb hd => ⟨fun q => by rw [q, hx] at hb; cases hb; exact hxd _ hd, fun q => by rw [q, hL] at hb; cases hb; exact hLd _ hd⟩
  have e1 := ne _ _ _ he hd
  have e2 := ne _ _ _ hT hdT
  refine ⟨hs, hb _ f2, fun_keep hb (fun b o _ ho hnf => ?_) f3, oe, vs, T, oT, ts, hk _ _ e1.1 e1.2 he, hcls, hd, h1', hb _ hnT, hTe, hk _ _ e2.1 e2.2 hT, hdT, h3'⟩
  by_cases q1 : b = x
  · exact ⟨ox', q1 ▸ hx', hxd'⟩
  · by_cases q2 : b = L
    · exact ⟨oL', q2 ▸ hL', hLd'⟩
    · exact ⟨o, hk b o q1 q2 ho, hnf⟩
theorem others2 (base h : Heap) (L x : Addr) : ∃ own, News base L h own ∧ (∀ p ∈ own, p.1 ≠ x) ∧ ∀ b o, b ≠ L → b ≠ x → base.get? b = none → h.get? b = some o → (b, o) ∈ own := by
  obtain ⟨own, N, ho⟩ := others base h L
  refine ⟨own.filter fun p => p.1 != x, fun p hp => N p (List.mem_filter.mp hp).1, fun p hp => by simpa using (List.mem_filter.mp hp).2, fun b o h1 h2 h3 h4 => List.mem_filter.mpr ⟨ho b o h1 h3 h4, by simpa using h2⟩⟩

/-- the frames on the stack below: their locals stand outside the base -/
structure Under (w : World) (mg mb : Str → Option Value) (B₀ : Heap) (outer : List Env) (h : Heap) : Prop where
  X : (hd.heap_39 w.params).In B₀
  T : TopRead lawView Loo mg mb B₀
  B : ∀ b o, B₀.get? b = some o → h.get? b = some o
  F : h.FunFrames B₀ outer

/-- the end of the iteration, as it reaches the caller -/
def Ends (outer : List Env) (x L : Addr) (h h' : Heap) (e : Addr) : Prop :=
  (∃ ob, h'.get? e = some ob ∧ ob.cls = .type "StopIteration") ∧ (∀ b o, b ≠ x → b ≠ L → b ∉ outer.filterMap (·.frame) → h.get? b = some o → h'.get? b = some o) ∧
  (∀ b o, b ≠ x → b ≠ L → h.get? b = some o → (∀ vs, o.data ≠ .fields vs) → ∃ sl, h'.get? b = some { o with slots := sl })

theorem inext_done {w : World} {A : Around} {R : Result → Shared → Prop} {s : Shared} {mg mb : Str → Option Value} {B₀ B : Heap} {outer : List Env}
   (U : Under w mg mb B₀ outer s.heap) (hB : ∀ b o, B.get? b = some o → s.heap.get? b = some o) (hdep : A.depth ≤ 400) (hun : A.units ≤ 80000) (hh : A.handled = none) (hfr : A.frames = some outer)
   (x dx a L : Addr) (c : Int) (hc : 2 ≤ c ∧ c ≤ 1000) (tc tn ts tp : Tok) (og oL : Obj) (hx : s.heap.get? x = some (islO dx c tc (.ref a) c tn ts tp)) (hdx : s.heap.get? dx = some (dictOf [] 0)) (hag : s.heap.get? a = some og) (hL : s.heap.get? L = some oL)
   (hxB : B₀.get? x = none) (hdB : B₀.get? dx = none) (haB : B₀.get? a = none) (hLB : B₀.get? L = none) (gxB : B.get? x = none) (gdB : B.get? dx = none) (gaB : B.get? a = none) (gLB : B.get? L = none)
   (n1 : @Ne Nat x dx) (n2 : @Ne Nat x a) (n3 : @Ne Nat x L) (n4 : @Ne Nat dx a) (n5 : @Ne Nat dx L) (n6 : @Ne Nat a L)
   (hfB : ∀ b ∈ outer.filterMap (·.frame), ∃ o, B.get? b = some o) (gn : Nat) (gs : GenState) (As : List Str) (hgen : s.heap.IsGen a gn) (hgs : s.gens[gn]? = some gs)
   (hgo : ∀ s'' : Shared, (∀ b o, B.get? b = some o → s''.heap.get? b = some o) → s''.heap.get? L = some oL → gs.Goes (model PySem.Challenge.rw_ij0041_01.row.prog w) A0 (ancR L) (ancY L B As) 0 (.send .none) s'')
   (k : ∀ h' tk gens' e, gens'[gn]? = some .finished → GenOnly gn s.gens gens' → Ends outer x L s.heap h' e → R (.error (.ref e)) {s with heap := h', toks := tk, gens := gens'}) :
   codeAny (model PySem.Challenge.rw_ij0041_01.row.prog w) A (.call (.ref 130) ⟨[.ref x], []⟩) R s := by
  obtain ⟨hnd, dep, frs, gds, uns⟩ := A
  dsimp only at hh hdep hun hfr
  subst hh
  subst hfr
  obtain ⟨X, T, hB0, hFF⟩ := U
  have hrl : recursionLimit = 1000 := rfl
  w_on
  revert X T
  k_fill
  intro X T
  refine' enterN (B := B₀) (news := [(L, oL), (x, islO dx c tc (.ref a) c tn ts tp), (dx, dictOf [] 0), (a, og)]) (binds := [(Str.ofString "self", .ref x)]) ?kX ?klim ?kB ?knew ?kget ?ko ?kcd ?kroom ?kb ?kloc ?_ ?c1 ?c2 ?c3 ?c4
  case kX => exact X
  case ko => k_is
  case klim => exact T.nolimit
  case kB => exact hB0
  case knew => exact List.forall_mem_cons.mpr ⟨hLB, List.forall_mem_cons.mpr ⟨hxB, List.forall_mem_cons.mpr ⟨hdB, List.forall_mem_cons.mpr ⟨haB, List.forall_mem_nil _⟩⟩⟩⟩
  case kget => exact List.forall_mem_cons.mpr ⟨hL, List.forall_mem_cons.mpr ⟨hx, List.forall_mem_cons.mpr ⟨hdx, List.forall_mem_cons.mpr ⟨hag, List.forall_mem_nil _⟩⟩⟩⟩
  case kcd => k_is
  case kroom => show dep < _; omega
  case kb => exact BindsTo.of_eq rfl
  case kloc => exact locs rfl
  case c1 => decide
  case c2 => rfl
  case c3 => rfl
  case c4 => rfl
  intro L₁ h g hg hBg Xg F N hltL
  have Tg := T.keeps hBg
  have hX0 := X
  have hT0 := T
  clear X T
  simp only [List.map_cons, List.map_nil] at hg
  k_lt hltL
  simp only [islO] at N
  try dsimp only
  try k_fold
  k_steps
  refine WhlIf.no (by simp) ?_
  k_steps
  rename Fr _ _ _ _ => F9
  rename News _ _ _ _ => N9
  obtain ⟨og', nm, qn, e1, e2⟩ := hgen
  rw [hag] at e1
  cases e1
  have hBg2 : ∀ b o, B.get? b = some o → g.get? b = some o := hg ▸ hide_keep (news := [(L, oL), (x, islO dx c tc (.ref a) c tn ts tp), (dx, dictOf [] 0), (a, og)]) hB (List.forall_mem_cons.mpr ⟨gLB, List.forall_mem_cons.mpr ⟨gxB, List.forall_mem_cons.mpr ⟨gdB, List.forall_mem_cons.mpr ⟨gaB, List.forall_mem_nil _⟩⟩⟩⟩)
  refine (show Stop _ from next_use (base := B) F9 N9 (List.forall_mem_cons.mpr ⟨n3, List.forall_mem_cons.mpr ⟨n5, List.forall_mem_cons.mpr ⟨n6, List.forall_mem_nil _⟩⟩⟩) hBg2 rfl (Tg.nolimit.keeps F9.keep) ?_ ?_ ⟨og, nm, qn, (N9 _ (.tail _ (.tail _ (.tail _ (.head _))))).1, e2⟩ hgs gLB hgo ?_ ?_)
  · simp only [depth_deeper]; omega
  · simp only [units_deeper]; omega
  · intro h1 tk1 gens' gs' t m' oL' hbare hn
    omega
  · intro h1 h2 tk1 gens' e hn hgen' honly hk1 hx1
    dsimp only
    obtain ⟨hLo, hLL, hLg⟩ := N9 _ (.head _)
    have F1 := fr_but F9 (fun q => hLL q.symm) hLg hk1
    have hnl : ∀ p ∈ [(x, islO dx c tc (.ref a) c tn ts tp), (dx, dictOf [] 0), (a, og)], @Ne Nat p.1 L := List.forall_mem_cons.mpr ⟨n3, List.forall_mem_cons.mpr ⟨n5, List.forall_mem_cons.mpr ⟨n6, List.forall_mem_nil _⟩⟩⟩
    have N1 : News g L₁ h1 [(x, islO dx c tc (.ref a) c tn ts tp), (dx, dictOf [] 0), (a, og)] := fun p hp =>
      ⟨hk1 _ _ (hnl p hp) (N9 p (.tail _ hp)).1, (N9 p (.tail _ hp)).2⟩
    clear F9 N9
    have hgsz : g.objs.size = s.heap.objs.size := by rw [hg, hideAll_size]
    have habove : s.heap.objs.size ≤ L₁ := hgsz ▸ F1.above
    have k01 : ∀ b o, b ≠ x → b ≠ L → s.heap.get? b = some o → h1.get? b = some o := fun b o hbx hbL e => by
      by_cases q1 : b = dx
      · subst q1; rw [hdx] at e; cases e; exact (N1 _ (.tail _ (.head _))).1
      · by_cases q2 : b = a
        · subst q2; rw [hag] at e; cases e; exact (N1 _ (.tail _ (.tail _ (.head _)))).1
        · exact keep_but hg F1 b o (by simp [hbx, hbL, q1, q2]) e
    have frame0 : ∀ b, b ∈ outer.filterMap (·.frame) → b ≠ x ∧ b ≠ L ∧ b ≠ dx := fun b hb => by
      obtain ⟨o, ho⟩ := hfB b hb
      exact ⟨fun q => (by rw [q, gxB] at ho; cases ho), fun q => (by rw [q, gLB] at ho; cases ho), fun q => (by rw [q, gdB] at ho; cases ho)⟩
    have bL1 : B₀.get? L₁ = none := by
      cases e0 : B₀.get? L₁ with
      | none => rfl
      | some o => exact absurd (Heap.lt_size (hB0 _ _ e0)) (Nat.not_lt.mpr habove)
    obtain ⟨oL1, es1, ep1, hoL1, hdL1, _⟩ := id F1.ns
    have hFF2 : ∀ env : Env, env.scope.kind ≠ .module → env.frame = some L₁ → h1.FunFrames (hideAll h1 (L₁ :: outer.filterMap (·.frame))) (env :: outer) := fun env0 hk0 hf0 =>
      funFrames_hide (base := B₀) ⟨hk0, ⟨L₁, oL1, hf0, bL1, hoL1, fun vs q => (by rw [hdL1] at q; cases q)⟩, fun_keep (fun _ h => h) (fun b o hm ho hnf => ⟨o, k01 b o (frame0 b hm).1 (frame0 b hm).2.1 ho, hnf⟩) hFF⟩ (fun env he b hb => by
        rcases List.mem_cons.mp he with rfl | he
        · rw [hf0] at hb; rw [← Option.some.inj hb]; exact .head _
        · exact .tail _ (List.mem_filterMap.mpr ⟨env, he, hb⟩))
    refine note_made rfl rfl (fun b o e => of_hideAll _ e) (hFF2 _ (show ScopeKind.function ≠ ScopeKind.module by decide) rfl) hx1 fun h3 t hheld3 hup3 => ?_
    refine wpAny_landsW hheld3 fun h4 hfl4 hup4 => ?_
    obtain ⟨g', hg'⟩ : ∃ g', g' = hideAll g (outer.filterMap (·.frame)) := ⟨_, rfl⟩
    have gsub : ∀ b o, g'.get? b = some o → g.get? b = some o ∧ b ∉ outer.filterMap (·.frame) := fun b o e => by
      refine ⟨of_hideAll _ (hg' ▸ e), fun hm => ?_⟩
      rw [hg', hideAll_none _ hm] at e; cases e
    have bsub : ∀ b o, B₀.get? b = some o → g'.get? b = some o := fun b o e => by
      rw [hg']
      refine hideAll_get _ (hBg b o e) fun hm => ?_
      rw [(hFF.mem hm).1] at e; cases e
    have Xg' : (hd.heap_39 w.params).In g' := fun b o e => bsub _ _ (hX0 b o e)
    have Tg' := hT0.keeps bsub
    have F1' : Fr g' L₁ h1 _ := ⟨F1.ns, fun b o e => F1.keep b o (gsub b o e).1, by rw [hg', hideAll_size]; exact F1.above⟩
    have st : ∀ h, (hideAll h1 (L₁ :: outer.filterMap (·.frame))).StaysIn h → g'.StaysIn h := fun h hs b o e => hs b o (hideAll_get _ (F1.keep b o (gsub b o e).1) (fun hm => by
      rcases List.mem_cons.mp hm with q | hm
      · exact absurd (Heap.lt_size (gsub b o e).1) (by rw [q]; exact Nat.not_lt.mpr F1.above)
      · exact (gsub b o e).2 hm))
    have up14 := (Heap.UpToSlots.of_keeps hx1.keeps).trans (hup3.trans hup4)
    have F4 := F1'.of_stays (st _ hfl4.1) up14
    obtain ⟨ob, hob, hobc⟩ := hfl4.there
    refine wpAny_handleBy_builtin (X := "StopIteration") (T := "BaseException") (b := true) (by rw [isSubtype_type]; kernel_rfl) (by rw [isSubtype_type]; kernel_rfl) (by rw [isSubtype_type]; kernel_rfl) ?_
    refine ld_builtin_at F4 Tg'.g (Tg'.free _ (by decide +kernel) (by decide +kernel) (by decide +kernel) (by decide +kernel) (by decide +kernel)) Tg'.b ((Tg'.builtins _ (by decide +kernel)).trans PyProof.Rows.Boot.«BaseException») ⟨rfl, ⟨ob, hob, hobc⟩, ?_⟩
    rw [if_pos rfl]
    refine lands_againW hfl4 fun h5 hfl5 hup5 => ?_
    have F5 := F4.of_stays (st _ hfl5.1) hup5
    obtain ⟨own, No, hox, hown⟩ := others2 g' h5 L₁ x
    have b1x : (hideAll h1 (L₁ :: outer.filterMap (·.frame))).get? x = some (islO dx c tc (.ref a) c tn ts tp) := hideAll_get _ (N1 _ (.head _)).1 (fun hm => by
      rcases List.mem_cons.mp hm with q | hm
      · exact (N1 _ (.head _)).2.1 q
      · exact (frame0 _ hm).1 rfl)
    have b1d : (hideAll h1 (L₁ :: outer.filterMap (·.frame))).get? dx = some (dictOf [] 0) := hideAll_get _ (N1 _ (.tail _ (.head _))).1 (fun hm => by
      rcases List.mem_cons.mp hm with q | hm
      · exact (N1 _ (.tail _ (.head _))).2.1 q
      · exact (frame0 _ hm).2.2 rfl)
    have gn' : ∀ b, g.get? b = none → g'.get? b = none := fun b hb => by
      cases e0 : g'.get? b with
      | none => rfl
      | some o => have := (gsub b o e0).1; rw [hb] at this; cases this
    have N5 : News g' L₁ h5 ((x, islO dx c tc (.ref a) c tn ts tp) :: own) := List.forall_mem_cons.mpr ⟨⟨hfl5.1 _ _ b1x, (N1 _ (.head _)).2.1, gn' _ (N1 _ (.head _)).2.2⟩, No⟩
    have hdxo : (dx, dictOf [] 0) ∈ own := hown _ _ (N1 _ (.tail _ (.head _))).2.1 (fun q => n1 q.symm) (gn' _ (N1 _ (.tail _ (.head _))).2.2) (hfl5.1 _ _ b1d)
    obtain ⟨oL5, es5, ep5, hoL5, hdL5, _⟩ := id F5.ns
    have keep5 : True → ∀ b o, g'.get? b = some o → h5.get? b = some o := fun _ => F5.keep
    clear F1 F4 F1' Tg Xg N1 No
    try dsimp only
    k_steps
    refine (show Stop _ from set_slot (C := 134) (od := dictOf [] 0) (p := 136) (i := 1) F5 Xg' N5 (InstAt.of_news (sl := (islO dx c tc (.ref a) c tn ts tp).slots) N5 (.head _) (.tail _ hdxo)) ?k5 ?k6 ?k7 ?k8 ?k9 (by decide) rfl rfl (Upd.head hox) ?_)
    case k5 => k_is
    case k6 => k_is
    case k7 => k_is
    case k8 => k_is
    case k9 => k_is
    intro h6 F6 N6
    have keep56 : True → ∀ b o, b ≠ x → b ≠ L₁ → h5.get? b = some o → h6.get? b = some o := fun _ b o hbx hbL e => by
      cases q : g'.get? b with
      | some o0 => have := keep5 trivial b o0 q; rw [e] at this; cases this; exact F6.keep _ _ q
      | none => exact (N6 _ (.tail _ (hown b o hbL hbx q e))).1
    have hx6 := (N6 _ (.head _)).1
    obtain ⟨oL6, es6, ep6, hoL6, hdL6, _⟩ := id F6.ns
    k_steps
    have hne1 : ∀ b o, (hideAll h1 (L₁ :: outer.filterMap (·.frame))).get? b = some o → b ≠ L₁ := fun b o e q => by
      rw [q, hideAll_none _ (.head _)] at e; cases e
    have hnx : ∀ b o, (hideAll (hideAll h1 (L₁ :: outer.filterMap (·.frame))) [x]).get? b = some o → b ≠ x := fun b o e q => by
      rw [q, hideAll_none _ (.head _)] at e; cases e
    have hfl6 := fly_keep (base' := hideAll (hideAll h1 (L₁ :: outer.filterMap (·.frame))) [x]) hfl5 (fun b hb => by
        cases q : (hideAll (hideAll h1 (L₁ :: outer.filterMap (·.frame))) [x]).get? b with
        | none => rfl
        | some o => have := of_hideAll _ q; rw [hb] at this; cases this) (fun b o e => keep56 trivial b o (hnx b o e) (hne1 b o (of_hideAll _ e)) (hfl5.1 b o (of_hideAll _ e))) (keep56 trivial) (hfl5.1 _ _ b1x) (fun vs q => by cases q) hx6 (fun vs q => by cases q) hoL5 (fun vs q => by rw [hdL5] at q; cases q) hoL6 (fun vs q => by rw [hdL6] at q; cases q)
    refine raise_bare rfl rfl hfl6 fun h7 hheld7 hup7 => ?_
    refine came_back rfl hheld7 fun h8 hheld8 hup8 => ?_
    unfold leaving
    refine wpAny_bind (wpAny_noteFrame_againW rfl hheld8.2.2.2 (wpAny_landsW hheld8 fun h9 hfl9 hup9 => ?_))
    refine k _ _ gens' e hgen' honly ⟨hfl9.there, fun b o hbx hbL hbf e => ?_, fun b o hbx hbL e hnf => ?_⟩
    · have hb1 : b ≠ L₁ := fun q => absurd (Heap.lt_size e) (by rw [q]; exact Nat.not_lt.mpr habove)
      exact hfl9.1 _ _ (hideAll_get _ (hideAll_get _ (k01 b o hbx hbL e) (by simp only [List.mem_cons, not_or]; exact ⟨hb1, hbf⟩)) (by simp [hbx]))
    · have hb1 : b ≠ L₁ := fun q => absurd (Heap.lt_size e) (by rw [q]; exact Nat.not_lt.mpr habove)
      obtain ⟨sl, e5⟩ := (up14.trans hup5) b o (k01 b o hbx hbL e) hnf
      obtain ⟨sl2, e9⟩ := (hup7.trans (hup8.trans hup9)) b { o with slots := sl } (keep56 trivial b { o with slots := sl } hbx hb1 e5) hnf
      exact ⟨sl2, e9⟩
end Mine
end

-- part I9
section
open PySem PySem.W PySem.Calls PyProof.Rows
set_option maxRecDepth 100000
set_option maxHeartbeats 4000000
namespace Mine
local macro_rules | `(tactic| walk_at "call builtin:next") => `(tactic| (k_here; (with_reducible show wpAny _ _ (call (Value.builtin "next") _) _ _ _); refine stop_here ?_))
local macro_rules | `(tactic| walk_at "setAttr ref") => `(tactic| (k_here; (with_reducible show wpAny _ _ (setAttr _ (Str.ofString "_it") Value.none) _ _ _); refine stop_here ?_))

theorem pin_tok {g h : Heap} {L₁ L x dx a : Addr} {oL og : Obj} {t tn ts tp : Tok} (N : News g L₁ h [(L, oL), (x, { cls := .ref 134, dict := some dx, slots := #[some (.int (0 + 1) t), some (.ref a), some (.int 1 tn), some (.int 1 ts), some (.int (-1) tp)], data := .plain }), (dx, dictOf [] 0), (a, og)]) :
    ∃ t, News g L₁ h [(L, oL), (x, islO dx 1 t (.ref a) 1 tn ts tp), (dx, dictOf [] 0), (a, og)] := ⟨t, N⟩
theorem inext_done1 {w : World} {A : Around} {R : Result → Shared → Prop} {s : Shared} {mg mb : Str → Option Value} {B₀ B : Heap} {outer : List Env}
   (U : Under w mg mb B₀ outer s.heap) (hB : ∀ b o, B.get? b = some o → s.heap.get? b = some o) (hdep : A.depth ≤ 400) (hun : A.units ≤ 80000) (hh : A.handled = none) (hfr : A.frames = some outer)
   (x dx a L : Addr) (tc tn ts tp : Tok) (og oL : Obj) (hx : s.heap.get? x = some (islO dx 0 tc (.ref a) 1 tn ts tp)) (hdx : s.heap.get? dx = some (dictOf [] 0)) (hag : s.heap.get? a = some og) (hL : s.heap.get? L = some oL)
   (hxB : B₀.get? x = none) (hdB : B₀.get? dx = none) (haB : B₀.get? a = none) (hLB : B₀.get? L = none) (gxB : B.get? x = none) (gdB : B.get? dx = none) (gaB : B.get? a = none) (gLB : B.get? L = none)
   (n1 : @Ne Nat x dx) (n2 : @Ne Nat x a) (n3 : @Ne Nat x L) (n4 : @Ne Nat dx a) (n5 : @Ne Nat dx L) (n6 : @Ne Nat a L)
   (hfB : ∀ b ∈ outer.filterMap (·.frame), ∃ o, B.get? b = some o) (gn : Nat) (gs : GenState) (As : List Str) (hgen : s.heap.IsGen a gn) (hgs : s.gens[gn]? = some gs)
   (hgo : ∀ s'' : Shared, (∀ b o, B.get? b = some o → s''.heap.get? b = some o) → s''.heap.get? L = some oL → gs.Goes (model PySem.Challenge.rw_ij0041_01.row.prog w) A0 (ancR L) (ancY L B As) 1 (.send .none) s'')
   (k : ∀ h' tk gens' e, gens'[gn]? = some .finished → GenOnly gn s.gens gens' → Ends outer x L s.heap h' e → R (.error (.ref e)) {s with heap := h', toks := tk, gens := gens'}) :
   codeAny (model PySem.Challenge.rw_ij0041_01.row.prog w) A (.call (.ref 130) ⟨[.ref x], []⟩) R s := by
  obtain ⟨hnd, dep, frs, gds, uns⟩ := A
  dsimp only at hh hdep hun hfr
  subst hh
  subst hfr
  obtain ⟨X, T, hB0, hFF⟩ := U
  have hrl : recursionLimit = 1000 := rfl
  w_on
  revert X T
  k_fill
  intro X T
  refine' enterN (B := B₀) (news := [(L, oL), (x, islO dx 0 tc (.ref a) 1 tn ts tp), (dx, dictOf [] 0), (a, og)]) (binds := [(Str.ofString "self", .ref x)]) ?kX ?klim ?kB ?knew ?kget ?ko ?kcd ?kroom ?kb ?kloc ?_ ?c1 ?c2 ?c3 ?c4
  case kX => exact X
  case ko => k_is
  case klim => exact T.nolimit
  case kB => exact hB0
  case knew => exact List.forall_mem_cons.mpr ⟨hLB, List.forall_mem_cons.mpr ⟨hxB, List.forall_mem_cons.mpr ⟨hdB, List.forall_mem_cons.mpr ⟨haB, List.forall_mem_nil _⟩⟩⟩⟩
  case kget => exact List.forall_mem_cons.mpr ⟨hL, List.forall_mem_cons.mpr ⟨hx, List.forall_mem_cons.mpr ⟨hdx, List.forall_mem_cons.mpr ⟨hag, List.forall_mem_nil _⟩⟩⟩⟩
  case kcd => k_is
  case kroom => show dep < _; omega
  case kb => exact BindsTo.of_eq rfl
  case kloc => exact locs rfl
  case c1 => decide
  case c2 => rfl
  case c3 => rfl
  case c4 => rfl
  intro L₁ h g hg hBg Xg F N hltL
  have Tg := T.keeps hBg
  have hX0 := X
  have hT0 := T
  clear X T
  simp only [List.map_cons, List.map_nil] at hg
  k_lt hltL
  simp only [islO] at N
  try dsimp only
  try k_fold
  k_steps
  rename Fr _ _ _ _ => F9
  rename News _ _ _ _ => N9
  obtain ⟨og', nm, qn, e1, e2⟩ := hgen
  rw [hag] at e1
  cases e1
  have hBg2 : ∀ b o, B.get? b = some o → g.get? b = some o := hg ▸ hide_keep (news := [(L, oL), (x, islO dx 0 tc (.ref a) 1 tn ts tp), (dx, dictOf [] 0), (a, og)]) hB (List.forall_mem_cons.mpr ⟨gLB, List.forall_mem_cons.mpr ⟨gxB, List.forall_mem_cons.mpr ⟨gdB, List.forall_mem_cons.mpr ⟨gaB, List.forall_mem_nil _⟩⟩⟩⟩)
  refine (show Stop _ from next_use (base := B) F9 N9 (List.forall_mem_cons.mpr ⟨n3, List.forall_mem_cons.mpr ⟨n5, List.forall_mem_cons.mpr ⟨n6, List.forall_mem_nil _⟩⟩⟩) hBg2 rfl (Tg.nolimit.keeps F9.keep) ?_ ?_ ⟨og, nm, qn, (N9 _ (.tail _ (.tail _ (.tail _ (.head _))))).1, e2⟩ hgs gLB hgo ?_ ?_)
  · simp only [depth_deeper]; omega
  · simp only [units_deeper]; omega
  · intro h0 tk0 gens' gs' t m' oL' hbare hn hgen' honly F N hgo' _
    clear F9 N9 hgs hgo
    dsimp only
    k_steps
    rename Fr _ _ _ _ => F9
    rename News _ _ _ _ => N9
    obtain ⟨tc2, N9⟩ := pin_tok N9
    obtain rfl : m' = 0 := by omega
    refine (show Stop _ from next_use (base := B) F9 N9 (List.forall_mem_cons.mpr ⟨n3, List.forall_mem_cons.mpr ⟨n5, List.forall_mem_cons.mpr ⟨n6, List.forall_mem_nil _⟩⟩⟩) hBg2 rfl (Tg.nolimit.keeps F9.keep) ?_ ?_ ⟨og, nm, qn, (N9 _ (.tail _ (.tail _ (.tail _ (.head _))))).1, e2⟩ hgen' gLB hgo' ?_ ?_)
    · simp only [depth_deeper]; omega
    · simp only [units_deeper]; omega
    · intro h1 tk1 gens' gs' t m' oL' hbare hn
      omega
    · intro h1 h2 tk2 gens2 e hn2 hgen2 honly2 hk1 hx1
      dsimp only
      obtain ⟨hLo, hLL, hLg⟩ := N9 _ (.head _)
      have F1 := fr_but F9 (fun q => hLL q.symm) hLg hk1
      have hnl : ∀ p ∈ [(x, islO dx 1 tc2 (.ref a) 1 tn ts tp), (dx, dictOf [] 0), (a, og)], @Ne Nat p.1 L := List.forall_mem_cons.mpr ⟨n3, List.forall_mem_cons.mpr ⟨n5, List.forall_mem_cons.mpr ⟨n6, List.forall_mem_nil _⟩⟩⟩
      have N1 : News g L₁ h1 [(x, islO dx 1 tc2 (.ref a) 1 tn ts tp), (dx, dictOf [] 0), (a, og)] := fun p hp =>
        ⟨hk1 _ _ (hnl p hp) (N9 p (.tail _ hp)).1, (N9 p (.tail _ hp)).2⟩
      clear F9 N9
      have hgsz : g.objs.size = s.heap.objs.size := by rw [hg, hideAll_size]
      have habove : s.heap.objs.size ≤ L₁ := hgsz ▸ F1.above
      have k01 : ∀ b o, b ≠ x → b ≠ L → s.heap.get? b = some o → h1.get? b = some o := fun b o hbx hbL e => by
        by_cases q1 : b = dx
        · subst q1; rw [hdx] at e; cases e; exact (N1 _ (.tail _ (.head _))).1
        · by_cases q2 : b = a
          · subst q2; rw [hag] at e; cases e; exact (N1 _ (.tail _ (.tail _ (.head _)))).1
          · exact keep_but hg F1 b o (by simp [hbx, hbL, q1, q2]) e
      have frame0 : ∀ b, b ∈ outer.filterMap (·.frame) → b ≠ x ∧ b ≠ L ∧ b ≠ dx := fun b hb => by
        obtain ⟨o, ho⟩ := hfB b hb
        exact ⟨fun q => (by rw [q, gxB] at ho; cases ho), fun q => (by rw [q, gLB] at ho; cases ho), fun q => (by rw [q, gdB] at ho; cases ho)⟩
      have bL1 : B₀.get? L₁ = none := by
        cases e0 : B₀.get? L₁ with
        | none => rfl
        | some o => exact absurd (Heap.lt_size (hB0 _ _ e0)) (Nat.not_lt.mpr habove)
      obtain ⟨oL1, es1, ep1, hoL1, hdL1, _⟩ := id F1.ns
      have hFF2 : ∀ env : Env, env.scope.kind ≠ .module → env.frame = some L₁ → h1.FunFrames (hideAll h1 (L₁ :: outer.filterMap (·.frame))) (env :: outer) := fun env0 hk0 hf0 =>
        funFrames_hide (base := B₀) ⟨hk0, ⟨L₁, oL1, hf0, bL1, hoL1, fun vs q => (by rw [hdL1] at q; cases q)⟩, fun_keep (fun _ h => h) (fun b o hm ho hnf => ⟨o, k01 b o (frame0 b hm).1 (frame0 b hm).2.1 ho, hnf⟩) hFF⟩ (fun env he b hb => by
          rcases List.mem_cons.mp he with rfl | he
          · rw [hf0] at hb; rw [← Option.some.inj hb]; exact .head _
          · exact .tail _ (List.mem_filterMap.mpr ⟨env, he, hb⟩))
      refine note_made rfl rfl (fun b o e => of_hideAll _ e) (hFF2 _ (show ScopeKind.function ≠ ScopeKind.module by decide) rfl) hx1 fun h3 t hheld3 hup3 => ?_
      refine wpAny_landsW hheld3 fun h4 hfl4 hup4 => ?_
      obtain ⟨g', hg'⟩ : ∃ g', g' = hideAll g (outer.filterMap (·.frame)) := ⟨_, rfl⟩
      have gsub : ∀ b o, g'.get? b = some o → g.get? b = some o ∧ b ∉ outer.filterMap (·.frame) := fun b o e => by
        refine ⟨of_hideAll _ (hg' ▸ e), fun hm => ?_⟩
        rw [hg', hideAll_none _ hm] at e; cases e
      have bsub : ∀ b o, B₀.get? b = some o → g'.get? b = some o := fun b o e => by
        rw [hg']
        refine hideAll_get _ (hBg b o e) fun hm => ?_
        rw [(hFF.mem hm).1] at e; cases e
      have Xg' : (hd.heap_39 w.params).In g' := fun b o e => bsub _ _ (hX0 b o e)
      have Tg' := hT0.keeps bsub
      have F1' : Fr g' L₁ h1 _ := ⟨F1.ns, fun b o e => F1.keep b o (gsub b o e).1, by rw [hg', hideAll_size]; exact F1.above⟩
      have st : ∀ h, (hideAll h1 (L₁ :: outer.filterMap (·.frame))).StaysIn h → g'.StaysIn h := fun h hs b o e => hs b o (hideAll_get _ (F1.keep b o (gsub b o e).1) (fun hm => by
        rcases List.mem_cons.mp hm with q | hm
        · exact absurd (Heap.lt_size (gsub b o e).1) (by rw [q]; exact Nat.not_lt.mpr F1.above)
        · exact (gsub b o e).2 hm))
      have up14 := (Heap.UpToSlots.of_keeps hx1.keeps).trans (hup3.trans hup4)
      have F4 := F1'.of_stays (st _ hfl4.1) up14
      obtain ⟨ob, hob, hobc⟩ := hfl4.there
      refine wpAny_handleBy_builtin (X := "StopIteration") (T := "BaseException") (b := true) (by rw [isSubtype_type]; kernel_rfl) (by rw [isSubtype_type]; kernel_rfl) (by rw [isSubtype_type]; kernel_rfl) ?_
      refine ld_builtin_at F4 Tg'.g (Tg'.free _ (by decide +kernel) (by decide +kernel) (by decide +kernel) (by decide +kernel) (by decide +kernel)) Tg'.b ((Tg'.builtins _ (by decide +kernel)).trans PyProof.Rows.Boot.«BaseException») ⟨rfl, ⟨ob, hob, hobc⟩, ?_⟩
      rw [if_pos rfl]
      refine lands_againW hfl4 fun h5 hfl5 hup5 => ?_
      have F5 := F4.of_stays (st _ hfl5.1) hup5
      obtain ⟨own, No, hox, hown⟩ := others2 g' h5 L₁ x
      have b1x : (hideAll h1 (L₁ :: outer.filterMap (·.frame))).get? x = some (islO dx 1 tc2 (.ref a) 1 tn ts tp) := hideAll_get _ (N1 _ (.head _)).1 (fun hm => by
        rcases List.mem_cons.mp hm with q | hm
        · exact (N1 _ (.head _)).2.1 q
        · exact (frame0 _ hm).1 rfl)
      have b1d : (hideAll h1 (L₁ :: outer.filterMap (·.frame))).get? dx = some (dictOf [] 0) := hideAll_get _ (N1 _ (.tail _ (.head _))).1 (fun hm => by
        rcases List.mem_cons.mp hm with q | hm
        · exact (N1 _ (.tail _ (.head _))).2.1 q
        · exact (frame0 _ hm).2.2 rfl)
      have gn' : ∀ b, g.get? b = none → g'.get? b = none := fun b hb => by
        cases e0 : g'.get? b with
        | none => rfl
        | some o => have := (gsub b o e0).1; rw [hb] at this; cases this
      have N5 : News g' L₁ h5 ((x, islO dx 1 tc2 (.ref a) 1 tn ts tp) :: own) := List.forall_mem_cons.mpr ⟨⟨hfl5.1 _ _ b1x, (N1 _ (.head _)).2.1, gn' _ (N1 _ (.head _)).2.2⟩, No⟩
      have hdxo : (dx, dictOf [] 0) ∈ own := hown _ _ (N1 _ (.tail _ (.head _))).2.1 (fun q => n1 q.symm) (gn' _ (N1 _ (.tail _ (.head _))).2.2) (hfl5.1 _ _ b1d)
      obtain ⟨oL5, es5, ep5, hoL5, hdL5, _⟩ := id F5.ns
      have keep5 : True → ∀ b o, g'.get? b = some o → h5.get? b = some o := fun _ => F5.keep
      clear F1 F4 F1' Tg Xg N1 No
      try dsimp only
      k_steps
      refine (show Stop _ from set_slot (C := 134) (od := dictOf [] 0) (p := 136) (i := 1) F5 Xg' N5 (InstAt.of_news (sl := (islO dx 1 tc2 (.ref a) 1 tn ts tp).slots) N5 (.head _) (.tail _ hdxo)) ?k5 ?k6 ?k7 ?k8 ?k9 (by decide) rfl rfl (Upd.head hox) ?_)
      case k5 => k_is
      case k6 => k_is
      case k7 => k_is
      case k8 => k_is
      case k9 => k_is
      intro h6 F6 N6
      have keep56 : True → ∀ b o, b ≠ x → b ≠ L₁ → h5.get? b = some o → h6.get? b = some o := fun _ b o hbx hbL e => by
        cases q : g'.get? b with
        | some o0 => have := keep5 trivial b o0 q; rw [e] at this; cases this; exact F6.keep _ _ q
        | none => exact (N6 _ (.tail _ (hown b o hbL hbx q e))).1
      have hx6 := (N6 _ (.head _)).1
      obtain ⟨oL6, es6, ep6, hoL6, hdL6, _⟩ := id F6.ns
      k_steps
      have hne1 : ∀ b o, (hideAll h1 (L₁ :: outer.filterMap (·.frame))).get? b = some o → b ≠ L₁ := fun b o e q => by
        rw [q, hideAll_none _ (.head _)] at e; cases e
      have hnx : ∀ b o, (hideAll (hideAll h1 (L₁ :: outer.filterMap (·.frame))) [x]).get? b = some o → b ≠ x := fun b o e q => by
        rw [q, hideAll_none _ (.head _)] at e; cases e
      have hfl6 := fly_keep (base' := hideAll (hideAll h1 (L₁ :: outer.filterMap (·.frame))) [x]) hfl5 (fun b hb => by
          cases q : (hideAll (hideAll h1 (L₁ :: outer.filterMap (·.frame))) [x]).get? b with
          | none => rfl
          | some o => have := of_hideAll _ q; rw [hb] at this; cases this) (fun b o e => keep56 trivial b o (hnx b o e) (hne1 b o (of_hideAll _ e)) (hfl5.1 b o (of_hideAll _ e))) (keep56 trivial) (hfl5.1 _ _ b1x) (fun vs q => by cases q) hx6 (fun vs q => by cases q) hoL5 (fun vs q => by rw [hdL5] at q; cases q) hoL6 (fun vs q => by rw [hdL6] at q; cases q)
      refine raise_bare rfl rfl hfl6 fun h7 hheld7 hup7 => ?_
      refine came_back rfl hheld7 fun h8 hheld8 hup8 => ?_
      unfold leaving
      refine wpAny_bind (wpAny_noteFrame_againW rfl hheld8.2.2.2 (wpAny_landsW hheld8 fun h9 hfl9 hup9 => ?_))
      refine k _ _ gens2 e hgen2 (honly.trans honly2) ⟨hfl9.there, fun b o hbx hbL hbf e => ?_, fun b o hbx hbL e hnf => ?_⟩
      · have hb1 : b ≠ L₁ := fun q => absurd (Heap.lt_size e) (by rw [q]; exact Nat.not_lt.mpr habove)
        exact hfl9.1 _ _ (hideAll_get _ (hideAll_get _ (k01 b o hbx hbL e) (by simp only [List.mem_cons, not_or]; exact ⟨hb1, hbf⟩)) (by simp [hbx]))
      · have hb1 : b ≠ L₁ := fun q => absurd (Heap.lt_size e) (by rw [q]; exact Nat.not_lt.mpr habove)
        obtain ⟨sl, e5⟩ := (up14.trans hup5) b o (k01 b o hbx hbL e) hnf
        obtain ⟨sl2, e9⟩ := (hup7.trans (hup8.trans hup9)) b { o with slots := sl } (keep56 trivial b { o with slots := sl } hbx hb1 e5) hnf
        exact ⟨sl2, e9⟩
  · intro h1 h2 tk1 gens' e hn
    omega
end Mine
end

-- part I10
section
open PySem PySem.W PySem.Calls PyProof.Rows
set_option maxRecDepth 100000
set_option maxHeartbeats 4000000
namespace Mine

section
variable {M : Model} {A : Around} {E : Value → Shared → Prop} {s : Shared} {K : Frag} {x C f : Addr} {ox : Obj} {od : Option Obj}
theorem pn_own {Q : Option Value → Shared → Prop} (X : K.In s.heap) (I : InstAt s.heap x ox C od) (hs : findIn K (.ref C) "__next__" = some (some (.ref f))) (hf : isFn K (.ref f) = true)
    (h : wpAny M A (call (.ref f) [.ref x]) (fun v s' => Q (some v) s') (fun e s' => wpAny M A (isInstance e (.type "StopIteration")) (fun b s₂ => if b = true then Q none s₂ else E e s₂) E s') s) : wpAny M A (pyNext (.ref x)) Q E s := by
  unfold pyNext
  refine wpAny_bind (wpAny_attempt (special_fn (name := "__next__") (args := []) X I hs (beq_iff_eq.mp hf) (wpAny_mono h (fun v s' hq => wpAny_pure hq) (fun e s' he => ?_))))
  refine wpAny_bind (wpAny_mono he (fun b s₂ hb => ?_) fun _ _ z => z)
  cases b with
  | true => exact wpAny_pure hb
  | false => exact wpAny_throw hb
end

/-- where an islice stands -/
structure Isl where
  (x dx a L : Addr) (og : Obj) (gn : Nat) (As : List Str) (Bg : Heap)
def IslSt (w : World) (I : Isl) (s0 : Shared) (i : Nat) (s : Shared) : Prop :=
  ∃ h tk gens gs c nx tc tn ts tp oL rem, s = { s0 with heap := h, toks := tk, gens := gens } ∧ (∀ b o, I.Bg.get? b = some o → h.get? b = some o) ∧ h.get? I.x = some (islO I.dx c tc (.ref I.a) nx tn ts tp) ∧ h.get? I.dx = some (dictOf [] 0) ∧ h.get? I.a = some I.og ∧ h.get? I.L = some oL ∧
    gens[I.gn]? = some gs ∧ gs.bare = true ∧ GenOnly I.gn s0.gens gens ∧
    (∀ s'' : Shared, (∀ b o, I.Bg.get? b = some o → s''.heap.get? b = some o) → s''.heap.get? I.L = some oL → gs.Goes (model PySem.Challenge.rw_ij0041_01.row.prog w) A0 (ancR I.L) (ancY I.L I.Bg I.As) rem (.send .none) s'') ∧
    ((i = 0 ∧ c = 0 ∧ nx = 1 ∧ rem = I.As.length) ∨ (1 ≤ i ∧ c = (i : Int) + 1 ∧ nx = (i : Int) + 1 ∧ rem + i + 1 = I.As.length))
/-- what an islice needs of the heap around it -/
structure IslOk (w : World) (mg mb : Str → Option Value) (B₀ : Heap) (outer : List Env) (I : Isl) : Prop where
  U : Under w mg mb B₀ outer I.Bg
  n1 : @Ne Nat I.x I.dx
  n2 : @Ne Nat I.x I.a
  n3 : @Ne Nat I.x I.L
  n4 : @Ne Nat I.dx I.a
  n5 : @Ne Nat I.dx I.L
  n6 : @Ne Nat I.a I.L
  bx : I.Bg.get? I.x = none
  bd : I.Bg.get? I.dx = none
  ba : I.Bg.get? I.a = none
  bL : I.Bg.get? I.L = none
  gen : ∀ h : Heap, h.get? I.a = some I.og → h.IsGen I.a I.gn
  fB : ∀ b ∈ outer.filterMap (·.frame), ∃ o, I.Bg.get? b = some o
  len : 1 ≤ I.As.length ∧ I.As.length ≤ 500

section
variable {w : World} {A : Around} {E : Value → Shared → Prop} {s s0 : Shared} {mg mb : Str → Option Value} {B₀ : Heap} {outer : List Env} {I : Isl} {i : Nat}

theorem IslOk.none0 (K : IslOk w mg mb B₀ outer I) {b : Addr} (h : I.Bg.get? b = none) : B₀.get? b = none := by
  cases e : B₀.get? b with
  | none => rfl
  | some o => have := K.U.B b o e; rw [h] at this; cases this
theorem IslOk.under (K : IslOk w mg mb B₀ outer I) {h : Heap} (hb : ∀ b o, I.Bg.get? b = some o → h.get? b = some o) : Under w mg mb B₀ outer h :=
  ⟨K.U.X, K.U.T, fun b o e => hb b o (K.U.B b o e), fun_keep (fun _ h => h) (fun b o _ e hnf => ⟨o, hb b o e, hnf⟩) K.U.F⟩

theorem isl_next (K : IslOk w mg mb B₀ outer I) (hdep : A.depth ≤ 400) (hun : A.units ≤ 70000) (hh : A.handled = none) (hs : IslSt w I s0 i s) (hi : i + 1 < I.As.length)
    (h1 : findIn (hd.heap_39 w.params) (.ref 134) "__next__" = some (some (.ref 130))) (h2 : isFn (hd.heap_39 w.params) (.ref 130) = true) {Q : Option Value → Shared → Prop}
    (k : ∀ t s', IslSt w I s0 (i + 1) s' → (∀ b o, b ≠ I.x → b ≠ I.L → s.heap.get? b = some o → s'.heap.get? b = some o) → Q (some (.str (I.As.getD (i + 1) Str.empty) t)) s') :
    wpAny (model PySem.Challenge.rw_ij0041_01.row.prog w) A (pyNext (.ref I.x)) Q E s := by
  obtain ⟨h, tk, gens, gs, c, nx, tc, tn, ts, tp, oL, rem, rfl, hB, hx, hdx, ha, hL, hgs, hbare, hgo', hgo, hcase⟩ := hs
  have U := K.under hB
  refine pn_own (K := hd.heap_39 w.params) (C := 134) (f := 130) (od := some (dictOf [] 0)) (ox := islO I.dx c tc (.ref I.a) nx tn ts tp) (fun b o e => U.B b o (U.X b o e)) ⟨hx, rfl, rfl, hdx⟩ h1 h2 ?_
  refine wpAny_call ?_
  rcases hcase with ⟨rfl, rfl, rfl, rfl⟩ | ⟨hi1, rfl, rfl, hrem⟩
  · obtain ⟨m, hm⟩ : ∃ m, I.As.length = m + 2 := ⟨I.As.length - 2, by omega⟩
    rw [hm] at hgo
    refine inext_first (B := I.Bg) (fun b o e => K.U.B b o (K.U.X b o e)) (K.U.T.keeps K.U.B) hB hdep (by omega) hh I.x I.dx I.a I.L tc tn ts tp I.og oL hx hdx ha hL K.bx K.bd K.ba K.bL K.n1 K.n2 K.n3 K.n4 K.n5 K.n6 I.gn m gs I.As (K.gen _ ha) hgs hgo ?_
    intro h' tk' gens' gs' t oL' tc' tn' hbare' hgs' honly hx' hL' hgo2 hk
    have e : I.As.length - (m + 1) = 0 + 1 := by omega
    rw [e]
    refine k t _ ⟨h', tk', gens', gs', 2, 2, tc', tn', ts, tp, oL', m, rfl, fun b o e => hk b o (fun q => by rw [q, K.bx] at e; cases e) (fun q => by rw [q, K.bL] at e; cases e) (hB b o e), hx', hk _ _ (fun q => K.n1 q.symm) K.n5 hdx, hk _ _ (fun q => K.n2 q.symm) K.n6 ha, hL', hgs', hbare', hgo'.trans honly, hgo2, .inr ⟨by omega, by rfl, by rfl, by omega⟩⟩ hk
  · obtain ⟨m, hm⟩ : ∃ m, rem = m + 1 := ⟨rem - 1, by omega⟩
    rw [hm] at hgo
    refine inext_later (B := I.Bg) (fun b o e => K.U.B b o (K.U.X b o e)) (K.U.T.keeps K.U.B) hB hdep (by omega) hh I.x I.dx I.a I.L ((i : Int) + 1) (by have := K.len; omega) tc tn ts tp I.og oL hx hdx ha hL K.bx K.bd K.ba K.bL K.n1 K.n2 K.n3 K.n4 K.n5 K.n6 I.gn m gs I.As (K.gen _ ha) hgs hgo ?_
    intro h' tk' gens' gs' t oL' tc' tn' hbare' hgs' honly hx' hL' hgo2 hk
    have e : I.As.length - (m + 1) = i + 1 := by omega
    rw [e]
    refine k t _ ⟨h', tk', gens', gs', _, _, tc', tn', ts, tp, oL', m, rfl, fun b o e => hk b o (fun q => by rw [q, K.bx] at e; cases e) (fun q => by rw [q, K.bL] at e; cases e) (hB b o e), hx', hk _ _ (fun q => K.n1 q.symm) K.n5 hdx, hk _ _ (fun q => K.n2 q.symm) K.n6 ha, hL', hgs', hbare', hgo'.trans honly, hgo2, .inr ⟨by omega, by omega, by omega, by omega⟩⟩ hk
end
end Mine
end

-- part I11
section
open PySem PySem.W PySem.Calls PyProof.Rows
set_option maxRecDepth 100000
set_option maxHeartbeats 4000000
namespace Mine

/-- all but some objects stand as they stood, and those of the frames but for their slots -/
def Mostly (adr : List Addr) (outer : List Env) (h h' : Heap) : Prop :=
  (∀ b o, b ∉ adr → b ∉ outer.filterMap (·.frame) → h.get? b = some o → h'.get? b = some o) ∧ (∀ b o, b ∉ adr → h.get? b = some o → (∀ vs, o.data ≠ .fields vs) → ∃ sl, h'.get? b = some { o with slots := sl })
theorem Mostly.after {adr adr' : List Addr} {outer : List Env} {h h1 h2 : Heap} (k : ∀ b o, b ∉ adr → h.get? b = some o → h1.get? b = some o) (m : Mostly adr' outer h1 h2) (hs : ∀ b ∈ adr', b ∈ adr) : Mostly adr outer h h2 :=
  ⟨fun b o hb hf e => m.1 b o (fun q => hb (hs _ q)) hf (k b o hb e), fun b o hb e hn => m.2 b o (fun q => hb (hs _ q)) (k b o hb e) hn⟩

section
variable {w : World} {A : Around} {E : Value → Shared → Prop} {s s0 : Shared} {mg mb : Str → Option Value} {B₀ : Heap} {outer : List Env} {I : Isl} {i : Nat}

theorem isl_done (K : IslOk w mg mb B₀ outer I) (hdep : A.depth ≤ 400) (hun : A.units ≤ 70000) (hh : A.handled = none) (hfr : A.frames = some outer) (hs : IslSt w I s0 i s) (hi : i + 1 = I.As.length)
    (h1 : findIn (hd.heap_39 w.params) (.ref 134) "__next__" = some (some (.ref 130))) (h2 : isFn (hd.heap_39 w.params) (.ref 130) = true) {Q : Option Value → Shared → Prop}
    (k : ∀ h' tk gens', gens'[I.gn]? = some .finished → GenOnly I.gn s0.gens gens' → Mostly [I.x, I.L] outer s.heap h' → Q none { s0 with heap := h', toks := tk, gens := gens' }) :
    wpAny (model PySem.Challenge.rw_ij0041_01.row.prog w) A (pyNext (.ref I.x)) Q E s := by
  obtain ⟨h, tk, gens, gs, c, nx, tc, tn, ts, tp, oL, rem, rfl, hB, hx, hdx, ha, hL, hgs, hbare, hgo', hgo, hcase⟩ := hs
  have U := K.under hB
  refine pn_own (K := hd.heap_39 w.params) (C := 134) (f := 130) (od := some (dictOf [] 0)) (ox := islO I.dx c tc (.ref I.a) nx tn ts tp) (fun b o e => U.B b o (U.X b o e)) ⟨hx, rfl, rfl, hdx⟩ h1 h2 ?_
  refine wpAny_call ?_
  have fin : ∀ h' tk' gens' e, gens'[I.gn]? = some .finished → GenOnly I.gn gens gens' → Ends outer I.x I.L h h' e → wpAny (model PySem.Challenge.rw_ij0041_01.row.prog w) A (isInstance (.ref e) (.type "StopIteration")) (fun b s₂ => if b = true then Q none s₂ else E (.ref e) s₂) E { s0 with heap := h', toks := tk', gens := gens' } := by
    intro h' tk' gens' e hf honly hE
    obtain ⟨⟨ob, hob, hobc⟩, he1, he2⟩ := hE
    refine wpAny_isInstance (T := "StopIteration") (b := true) ⟨ob, hob, hobc⟩ isSubtype_stop ?_
    rw [if_pos rfl]
    refine k h' tk' gens' hf (hgo'.trans honly) ⟨fun b o hb hf e => ?_, fun b o hb e hn => ?_⟩
    · simp only [List.mem_cons, List.not_mem_nil, or_false, not_or] at hb
      exact he1 b o hb.1 hb.2 hf e
    · simp only [List.mem_cons, List.not_mem_nil, or_false, not_or] at hb
      exact he2 b o hb.1 hb.2 e hn
  rcases hcase with ⟨rfl, rfl, rfl, rfl⟩ | ⟨hi1, rfl, rfl, hrem⟩
  · have hm : I.As.length = 1 := by omega
    rw [hm] at hgo
    exact inext_done1 (B := I.Bg) U hB hdep (by omega) hh hfr I.x I.dx I.a I.L tc tn ts tp I.og oL hx hdx ha hL (K.none0 K.bx) (K.none0 K.bd) (K.none0 K.ba) (K.none0 K.bL) K.bx K.bd K.ba K.bL K.n1 K.n2 K.n3 K.n4 K.n5 K.n6 K.fB I.gn gs I.As (K.gen _ ha) hgs hgo fun h' tk' gens' e a b c => fin h' tk' gens' e a b c
  · have hm : rem = 0 := by omega
    rw [hm] at hgo
    exact inext_done (B := I.Bg) U hB hdep (by omega) hh hfr I.x I.dx I.a I.L ((i : Int) + 1) (by have := K.len; omega) tc tn ts tp I.og oL hx hdx ha hL (K.none0 K.bx) (K.none0 K.bd) (K.none0 K.ba) (K.none0 K.bL) K.bx K.bd K.ba K.bL K.n1 K.n2 K.n3 K.n4 K.n5 K.n6 K.fB I.gn gs I.As (K.gen _ ha) hgs hgo fun h' tk' gens' e a b c => fin h' tk' gens' e a b c

theorem isl_frame {S : Addr} {f : Obj → Obj} (K : IslOk w mg mb B₀ outer I) (hs : IslSt w I s0 i s) (hS : I.Bg.get? S = none) (hne : S ≠ I.x ∧ S ≠ I.dx ∧ S ≠ I.a ∧ S ≠ I.L) : IslSt w I s0 i { s with heap := s.heap.update S f } := by
  obtain ⟨h, tk, gens, gs, c, nx, tc, tn, ts, tp, oL, rem, rfl, hB, hx, hdx, ha, hL, hgs, hbare, hgo', hgo, hcase⟩ := hs
  have oth : ∀ b o, b ≠ S → h.get? b = some o → (h.update S f).get? b = some o := fun b o hb e => (Heap.get?_update_other _ _ (Ne.symm hb)).trans e
  exact ⟨_, tk, gens, gs, c, nx, tc, tn, ts, tp, oL, rem, rfl, fun b o e => oth b o (fun q => by rw [q, hS] at e; cases e) (hB b o e), oth _ _ (Ne.symm hne.1) hx, oth _ _ (Ne.symm hne.2.1) hdx, oth _ _ (Ne.symm hne.2.2.1) ha, oth _ _ (Ne.symm hne.2.2.2) hL, hgs, hbare, hgo', hgo, hcase⟩

theorem strs_snoc {vs : List Value} {ls : List Str} {x : Str} {t : Tok} (h : StrsAre vs ls) : StrsAre (vs ++ [.str x t]) (ls ++ [x]) := StrsAre.snoc h
theorem ext_isl {R : Result → Shared → Prop} (K : IslOk w mg mb B₀ outer I) (hdep : A.depth ≤ 400) (hun : A.units ≤ 60000) (hh : A.handled = none) (hfr : A.frames = some outer)
    (h1 : findIn (hd.heap_39 w.params) (.ref 134) "__next__" = some (some (.ref 130))) (h2 : isFn (hd.heap_39 w.params) (.ref 130) = true) {S : Addr} (hSB : I.Bg.get? S = none) (hne : S ≠ I.x ∧ S ≠ I.dx ∧ S ≠ I.a ∧ S ≠ I.L) (res : Value) :
    ∀ (k i : Nat) (s : Shared) (vs : List Value) (c : Nat), i + k + 1 = I.As.length → IslSt w I s0 i s → s.heap.get? S = some { cls := .type "list", dict := none, data := .seq vs.toArray c, slots := #[] } → StrsAre vs ((I.As.drop 1).take i) →
    (∀ h' tk gens' vs' c', gens'[I.gn]? = some .finished → GenOnly I.gn s0.gens gens' → Mostly [S, I.x, I.L] outer s.heap h' → h'.get? S = some { cls := .type "list", dict := none, data := .seq vs'.toArray c', slots := #[] } → StrsAre vs' (I.As.drop 1) → R (.ok (.ret res)) { s0 with heap := h', toks := tk, gens := gens' }) →
    codeAny (model PySem.Challenge.rw_ij0041_01.row.prog w) A (.builtin "list.extend.loop" ⟨[.ref S, .ref I.x, res], []⟩) R s := by
  intro k
  induction k with
  | zero =>
    intro i s vs c hk hst hS hacc hR
    refine codeAny_builtin PySem.F.entry_extend_loop ?_
    rw [Around.under_plainId PySem.F.plain_extend_loop _]
    show wpAny _ A.in1 (pyNext (.ref I.x) >>= _) _ _ s
    refine wpAny_bind (isl_done (A := A.in1) K hdep (by show A.units + 1 ≤ 70000; omega) hh hfr hst (by omega) h1 h2 fun h' tk' gens' a b m => ?_)
    have hl : (I.As.drop 1).take i = I.As.drop 1 := List.take_of_length_le (by simp; omega)
    rw [hl] at hacc
    have hSf : S ∉ outer.filterMap (·.frame) := fun hm => by
      obtain ⟨o, ho⟩ := K.fB S hm
      rw [hSB] at ho; cases ho
    refine wpAny_pure (hR h' tk' gens' vs c a b (m.after (fun b o _ e => e) (fun b hb => .tail _ hb)) (m.1 _ _ (by simp [hne.1, hne.2.2.2]) hSf hS) hacc)
  | succ k ih =>
    intro i s vs c hk hst hS hacc hR
    refine codeAny_builtin PySem.F.entry_extend_loop ?_
    rw [Around.under_plainId PySem.F.plain_extend_loop _]
    show wpAny _ A.in1 (pyNext (.ref I.x) >>= _) _ _ s
    refine wpAny_bind (isl_next (A := A.in1) K hdep (by show A.units + 1 ≤ 70000; omega) hh hst (by omega) h1 h2 fun t s' hst' hk' => ?_)
    have hS' := hk' S _ hne.1 hne.2.2.2 hS
    have hvs : vs.length = i := by have := hacc.length; rw [this]; simp; omega
    have hle := K.len
    obtain ⟨c2, hS2⟩ : ∃ c2, (s'.heap.update S (Obj.mapSeq (·.push (Value.str (I.As.getD (i + 1) Str.empty) t)))).get? S = some { cls := .type "list", dict := none, data := .seq (vs ++ [Value.str (I.As.getD (i + 1) Str.empty) t]).toArray c2, slots := #[] } := by
      rw [show (vs ++ [Value.str (I.As.getD (i + 1) Str.empty) t]).toArray = vs.toArray.push (Value.str (I.As.getD (i + 1) Str.empty) t) from by simp]
      exact ⟨_, Heap.get?_update_self _ hS' rfl⟩
    show wpAny _ A.in1 (updateSeq S (·.push _) >>= _) _ _ _
    refine wpAny_bind ?_
    refine wpAny_updateSeq hS' rfl (wpAny_pure ⟨plainId_quiet PySem.F.plain_extend_loop _, ih (i + 1) _ (vs ++ [.str (I.As.getD (i + 1) Str.empty) t]) c2 (by omega) (isl_frame K hst' hSB hne) hS2 ?_ fun h' tk' gens' vs' c' a b m e e' => hR h' tk' gens' vs' c' a b (m.after (fun b o hb e => ?_) fun b hb => hb) e e'⟩) ?_ ?_
    · have e : (I.As.drop 1).take (i + 1) = (I.As.drop 1).take i ++ [I.As.getD (i + 1) Str.empty] := by
        rw [List.take_add_one, List.getElem?_drop]
        have hlt : 1 + i < I.As.length := by omega
        rw [List.getElem?_eq_getElem hlt, List.getD_eq_getElem?_getD, show i + 1 = 1 + i from by omega, List.getElem?_eq_getElem hlt]
        rfl
      rw [e]
      exact strs_snoc hacc
    · simp only [List.mem_cons, List.not_mem_nil, or_false, not_or] at hb
      exact (Heap.get?_update_other _ _ (Ne.symm hb.1)).trans (hk' b o hb.2.1 hb.2.2 e)
    · exact size_ok (by simp [hvs]; omega)
    · have := size_ok (n := i + 1) (by omega)
      simp [hvs]; omega
end
end Mine
end

-- part I12
section
open PySem PySem.W PySem.Calls PyProof.Rows
set_option maxRecDepth 100000
set_option maxHeartbeats 4000000
namespace Mine

section
variable {M : Model} {A : Around} {E : Value → Shared → Prop} {s : Shared} {K : Frag} {x C f : Addr} {ox : Obj} {od : Option Obj}
theorem it_own {Q : Value → Shared → Prop} {gv : Value} (X : K.In s.heap) (I : InstAt s.heap x ox C od) (hs : findIn K (.ref C) "__iter__" = some (some (.ref f))) (hf : isFn K (.ref f) = true) (hn : findIn K (.ref C) "__next__" = some (some gv))
    (h : wpAny M A (call (.ref f) [.ref x]) (fun v s' => v = .ref x ∧ (∃ ox' od', InstAt s'.heap x ox' C od') ∧ K.In s'.heap ∧ Q (.ref x) s') E s) : wpAny M A (pyIter (.ref x)) Q E s := by
  have fin : wpAny M A (call (.ref f) [.ref x] >>= fun v => pure (some v)) (fun r s' => r = some (.ref x) ∧ (∃ ox' od', InstAt s'.heap x ox' C od') ∧ K.In s'.heap ∧ Q (.ref x) s') E s :=
    wpAny_bind (wpAny_mono h (fun v s' h' => wpAny_pure ⟨by rw [h'.1], h'.2⟩) fun _ _ z => z)
  have one : ∀ refuse : Sem Value, wpAny M A (callSpecialIfBoundUnlessNone? (.ref x) "__iter__" refuse) (fun r s' => r = some (.ref x) ∧ (∃ ox' od', InstAt s'.heap x ox' C od') ∧ K.In s'.heap ∧ Q (.ref x) s') E s := by
    intro refuse
    simp only [callSpecialIfBoundUnlessNone?, bindSpecialIfBound?]
    refine wpAny_holding (wpAny_bind (wpAny_bind (wpAny_bind (I.type.here ((looks_findIn X hs).here ?_)))))
    refine wpAny_bind (wpAny_askSetting (wpAny_ite ?_))
    have fin2 : wpAny M A (if (Value.ref f == Value.none) = true then (refuse >>= fun v => pure (some v)) else (call (.ref f) [.ref x] >>= fun v => pure (some v))) (fun r s' => r = some (.ref x) ∧ (∃ ox' od', InstAt s'.heap x ox' C od') ∧ K.In s'.heap ∧ Q (.ref x) s') E s := by
      rw [if_neg (show ¬ ((Value.ref f == Value.none) = true) from Bool.false_ne_true)]
      exact fin
    split
    · exact wpAny_bind ((bind_fn X _ (beq_iff_eq.mp hf)).here (wpAny_pure (by exact fin2)))
    · exact wpAny_tryCatch (wpAny_bind ((bind_fn X _ (beq_iff_eq.mp hf)).here (wpAny_pure (by exact fin2))))
  unfold pyIter
  refine wpAny_bind (wpAny_bind (I.type.here ((looks_findIn X hs).here ?_)))
  show wpAny M A (callSpecialIfBoundUnlessNone? (.ref x) "__iter__" _ >>= _) Q E s
  refine wpAny_bind (wpAny_mono (one _) (fun r s' hr => ?_) fun _ _ z => z)
  obtain ⟨rfl, ⟨ox', od', I'⟩, X', hq⟩ := hr
  refine wpAny_bind ?_
  exact wpAny_bind (I'.type.here ((looks_findIn X' hn).here (wpAny_pure hq)))
end

theorem iter_spec {w : World} {A : Around} {R : Result → Shared → Prop} {s : Shared} {mg mb : Str → Option Value}
   (X : (hd.heap_39 w.params).In s.heap) (T : TopRead lawView Loo mg mb s.heap) (hdep : A.depth + 20 < recursionLimit) (hh : A.handled = none) (x : Addr)
   (k : ∀ h' tk, (∀ b o, s.heap.get? b = some o → h'.get? b = some o) → R (.ok (.ret (.ref x))) {s with heap := h', toks := tk}) :
   codeAny (model PySem.Challenge.rw_ij0041_01.row.prog w) A (.call (.ref 123) ⟨[.ref x], []⟩) R s := by
  obtain ⟨hnd, dep, frs, gds, uns⟩ := A
  dsimp only at hh hdep
  subst hh
  w_on
  revert X T
  k_fill
  intro X T
  refine' enter (binds := [(Str.ofString "self", .ref x)]) ?kX ?klim ?ko ?kcd ?kroom ?kb ?kloc ?_ ?c1 ?c2 ?c3 ?c4
  case kX => exact X
  case ko => k_is
  case klim => exact T.nolimit
  case kcd => k_is
  case kroom => show dep < _; omega
  case kb => exact BindsTo.of_eq rfl
  case kloc => exact locs rfl
  case c1 => decide
  case c2 => rfl
  case c3 => rfl
  case c4 => rfl
  intro L h F N
  try dsimp only
  try k_fold
  k_steps
  exact k _ _ (Fr.keep (by assumption))

/-- what the class must have -/
structure IslCls (K : Frag) : Prop where
  next : findIn K (.ref 134) "__next__" = some (some (.ref 130))
  nextF : isFn K (.ref 130) = true
  iter : findIn K (.ref 134) "__iter__" = some (some (.ref 123))
  iterF : isFn K (.ref 123) = true
  len : findIn K (.ref 134) "__len__" = some none
  hint : findIn K (.ref 134) "__length_hint__" = some none

section
variable {w : World} {A : Around} {E : Value → Shared → Prop} {s s0 : Shared} {mg mb : Str → Option Value} {B₀ : Heap} {outer : List Env} {I : Isl} {i : Nat}

theorem isl_moved {h' : Heap} {tk : Nat} (hs : IslSt w I s0 i s) (hk : ∀ b o, s.heap.get? b = some o → h'.get? b = some o) : IslSt w I s0 i { s with heap := h', toks := tk } := by
  obtain ⟨h, tk0, gens, gs, c, nx, tc, tn, ts, tp, oL, rem, rfl, hB, hx, hdx, ha, hL, r⟩ := hs
  exact ⟨h', tk, gens, gs, c, nx, tc, tn, ts, tp, oL, rem, rfl, fun b o e => hk _ _ (hB b o e), hk _ _ hx, hk _ _ hdx, hk _ _ ha, hk _ _ hL, r⟩
theorem isl_inst (K : IslOk w mg mb B₀ outer I) (hs : IslSt w I s0 i s) : (hd.heap_39 w.params).In s.heap ∧ TopRead lawView Loo mg mb s.heap ∧ ∃ ox, InstAt s.heap I.x ox 134 (some (dictOf [] 0)) := by
  obtain ⟨h, tk0, gens, gs, c, nx, tc, tn, ts, tp, oL, rem, rfl, hB, hx, hdx, ha, hL, r⟩ := hs
  have U := K.under hB
  exact ⟨fun b o e => U.B b o (U.X b o e), U.T.keeps U.B, islO I.dx c tc (.ref I.a) nx tn ts tp, hx, rfl, rfl, hdx⟩

theorem list_ext {R : Result → Shared → Prop} (K : IslOk w mg mb B₀ outer I) (C : IslCls (hd.heap_39 w.params)) (hdep : A.depth ≤ 400) (hun : A.units ≤ 50000) (hh : A.handled = none) (hfr : A.frames = some outer) {S : Addr} (hSB : I.Bg.get? S = none) (hne : S ≠ I.x ∧ S ≠ I.dx ∧ S ≠ I.a ∧ S ≠ I.L)
    (hst : IslSt w I s0 0 s) {c₀ : Nat} (hS : s.heap.get? S = some { cls := .type "list", data := .seq #[] c₀ })
    (hR : ∀ h' tk gens' vs' c', gens'[I.gn]? = some .finished → GenOnly I.gn s0.gens gens' → Mostly [S, I.x, I.L] outer s.heap h' → h'.get? S = some { cls := .type "list", dict := none, data := .seq vs'.toArray c', slots := #[] } → StrsAre vs' (I.As.drop 1) → R (.ok (.ret .none)) { s0 with heap := h', toks := tk, gens := gens' }) :
    wpAny (model PySem.Challenge.rw_ij0041_01.row.prog w) A.in1 (Builtin.List.listExtendWith (.ref S) (.ref I.x) .none)
      (fun fin s' => match fin with | .done f => R (.ok f) s' | .again c' => c'.quiet = true ∧ codeAny (model PySem.Challenge.rw_ij0041_01.row.prog w) A c' R s') (fun e s' => R (.error e) s') s := by
  have hSI : S ≠ I.x := hne.1
  have hrl : recursionLimit = 1000 := rfl
  obtain ⟨X, T, ox, hI⟩ := isl_inst K hst
  unfold Builtin.List.listExtendWith
  refine wpAny_bind (hI.type.here ?_)
  have h1 : Builtin.List.listSameRef (.ref S) (.ref I.x) = false := by simp [Builtin.List.listSameRef, hSI]
  have h2 : (Value.ref 134 == Value.type "list") = false := by decide
  have h3 : (Value.ref 134 == Value.type "tuple") = false := by decide
  simp only [h1, h2, h3, Bool.or_false, Bool.false_eq_true, if_false]
  refine wpAny_bind (it_own X hI C.iter C.iterF C.next (wpAny_call (iter_spec (A := A.in1) X T (by show A.depth + 20 < _; omega) hh I.x fun h' tk hk => ?_)))
  have hst' := isl_moved (tk := tk) hst hk
  have hS' := hk _ _ hS
  obtain ⟨X', T', ox', hI'⟩ := isl_inst K hst'
  refine ⟨rfl, ⟨ox', _, hI'⟩, X', ?_⟩
  refine wpAny_bind (wpAny_holding ?_)
  unfold Builtin.List.listLengthHint
  refine wpAny_bind (wpAny_bind (hI'.type.here ((looks_findIn X' C.len).here ?_)))
  show wpAny _ A.in1 (specialOf (Value.ref I.x) (Str.ofString "__length_hint__") >>= _) _ _ _
  refine wpAny_bind (wpAny_bind (hI'.type.here ((looks_findIn X' C.hint).here ?_)))
  refine wpAny_pure ?_
  show wpAny _ A.in1 (rule "list.extend.makes-room" >>= fun _ => Builtin.List.listTouch (.ref S) >>= fun _ =>
    again (.builtin "list.extend.loop" ⟨[.ref S, .ref I.x, .none], []⟩)) _ _ _
  refine wpAny_bind (wpAny_rule ?_)
  refine wpAny_bind ?_
  show wpAny _ A.in1 (updateSeq S (·.push .none) >>= fun _ => updateSeq S (·.pop)) _ _ _
  refine wpAny_bind (wpAny_updateSeq hS' rfl ?_)
  have hS₂ := Heap.get?_update_self (Obj.mapSeq (·.push Value.none)) hS' rfl
  refine wpAny_updateSeq (hz := by seq_fits) hS₂ rfl ?_
  have hS₃ := Heap.get?_update_self (Obj.mapSeq (·.pop)) hS₂ rfl
  have hlen := K.len
  refine wpAny_pure ⟨plainId_quiet PySem.F.plain_extend_loop _, ext_isl K hdep (by omega) hh hfr C.next C.nextF hSB hne .none (I.As.length - 1) 0 _ [] _ (by omega) (isl_frame K (isl_frame K hst' hSB hne) hSB hne) hS₃ .nil fun h'' tk' gens' vs' c' a b m e e' => hR h'' tk' gens' vs' c' a b (m.after (fun b o hb e => ?_) fun b hb => hb) e e'⟩
  simp only [List.mem_cons, List.not_mem_nil, or_false, not_or] at hb
  exact (Heap.get?_update_other _ _ (Ne.symm hb.1)).trans ((Heap.get?_update_other _ _ (Ne.symm hb.1)).trans (hk _ _ e))
end
end Mine
end

-- part I13
section
open PySem PySem.W PySem.Calls PyProof.Rows
set_option maxRecDepth 100000
set_option maxHeartbeats 4000000
namespace Mine
section
variable {w : World} {A : Around} {E : Value → Shared → Prop} {s s0 : Shared} {mg mb : Str → Option Value} {B₀ : Heap} {outer : List Env} {I : Isl}

theorem list_isl {Q : Value → Shared → Prop} (K : IslOk w mg mb B₀ outer I) (C : IslCls (hd.heap_39 w.params)) (hdep : A.depth ≤ 400) (hun : A.units ≤ 40000) (hh : A.handled = none) (hfr : A.frames = some outer) (hst : IslSt w I s0 0 s)
    (hQ : ∀ h' tk gens' vs' c', gens'[I.gn]? = some .finished → GenOnly I.gn s0.gens gens' → Mostly [I.x, I.L] outer s.heap h' → h'.get? s.heap.objs.size = some { cls := .type "list", dict := none, data := .seq vs'.toArray c', slots := #[] } → StrsAre vs' (I.As.drop 1) → Q (.ref s.heap.objs.size) { s0 with heap := h', toks := tk, gens := gens' }) :
    wpAny (model PySem.Challenge.rw_ij0041_01.row.prog w) A (call (.type "list") [.ref I.x]) Q E s := by
  have old : ∀ b o, s.heap.get? b = some o → b ≠ s.heap.objs.size := fun b o e => Nat.ne_of_lt (Heap.lt_size e)
  have hne : s.heap.objs.size ≠ I.x ∧ s.heap.objs.size ≠ I.dx ∧ s.heap.objs.size ≠ I.a ∧ s.heap.objs.size ≠ I.L ∧ I.Bg.get? s.heap.objs.size = none := by
    obtain ⟨h, tk0, gens, gs, c, nx, tc, tn, ts, tp, oL, rem, rfl, hB, hx, hdx, ha, hL, r⟩ := hst
    refine ⟨(old _ _ hx).symm, (old _ _ hdx).symm, (old _ _ ha).symm, (old _ _ hL).symm, ?_⟩
    cases e : I.Bg.get? h.objs.size with
    | none => rfl
    | some o => exact absurd rfl (old _ _ (hB _ _ e))
  refine callType_codes (Q₁ := fun obj s₁ => obj = .ref s.heap.objs.size ∧ s₁ = { s with heap := s.heap.push { cls := .type "list", data := .seq #[] } }) PySem.F.called_list (PySem.F.typeCall_list_1 _) PySem.F.entry_list_init
    (code_list_new _ ⟨rfl, rfl⟩) fun obj s₁ h₁ => ?_
  obtain ⟨rfl, rfl⟩ := h₁
  have hS : (s.heap.push { cls := .type "list", data := .seq #[] }).get? s.heap.objs.size = some { cls := .type "list", data := .seq #[] } := Heap.get?_push_size _ rfl
  refine ⟨⟨_, hS, rfl⟩, PySem.F.args_list_init_2 _ _, ?_⟩
  show wpAny _ A.in1.in1 (do let old ← Builtin.List.listItems (.ref s.heap.objs.size); Builtin.List.listUpdate (.ref s.heap.objs.size) (fun _ => #[]); letGo old.toList.reverse; Builtin.List.listExtendWith (.ref s.heap.objs.size) (.ref I.x) .none) _ _ _
  refine wpAny_bind ?_
  unfold Builtin.List.listItems
  refine wpAny_bind (wpAny_seqItems hS rfl (wpAny_pure ?_))
  show wpAny _ A.in1.in1 (updateSeq s.heap.objs.size (fun _ => #[]) >>= fun _ => letGo (#[] : Array Value).toList.reverse >>= fun _ => Builtin.List.listExtendWith (.ref s.heap.objs.size) (.ref I.x) .none) _ _ _
  refine wpAny_bind (wpAny_updateSeq hS rfl ?_)
  have hS₂ := Heap.get?_update_self (Obj.mapSeq (fun _ => (#[] : Array Value))) hS rfl
  refine wpAny_bind (wpAny_letGo ?_)
  have hst2 : IslSt w I s0 0 { s with heap := s.heap.push { cls := .type "list", data := .seq #[] } } := isl_moved (tk := s.toks) hst fun b o e => Heap.get?_push_of_some _ e
  refine list_ext (A := A.in1) K C hdep (by show A.units + 1 ≤ 50000; omega) hh hfr hne.2.2.2.2 ⟨hne.1, hne.2.1, hne.2.2.1, hne.2.2.2.1⟩ (isl_frame K hst2 hne.2.2.2.2 ⟨hne.1, hne.2.1, hne.2.2.1, hne.2.2.2.1⟩) hS₂ ?_
  intro h' tk gens' vs' c' a b m e e'
  refine ⟨rfl, hQ h' tk gens' vs' c' a b ⟨fun b o hb hf e => m.1 b o ?_ hf ?_, fun b o hb e hn => m.2 b o ?_ ?_ hn⟩ e e'⟩
  · simp only [List.mem_cons, List.not_mem_nil, or_false, not_or] at hb ⊢
    exact ⟨old _ _ e, hb⟩
  · exact (Heap.get?_update_other _ _ (Ne.symm (old _ _ e))).trans (Heap.get?_push_of_some _ e)
  · simp only [List.mem_cons, List.not_mem_nil, or_false, not_or] at hb ⊢
    exact ⟨old _ _ e, hb⟩
  · exact (Heap.get?_update_other _ _ (Ne.symm (old _ _ e))).trans (Heap.get?_push_of_some _ e)
end
end Mine
end

-- part L1
section
open PySem PySem.W PySem.Calls PyProof.Rows
set_option maxRecDepth 100000
set_option maxHeartbeats 4000000
namespace Mine
section
variable {w : World} {A : Around} {E : Value → Shared → Prop} {s : Shared} {mg mb : Str → Option Value} {g : Heap} {L : Addr} {m : Str → Option Value} {news : List (Addr × Obj)} {Q : Value → Shared → Prop}

theorem leads_use (F : Fr g L s.heap m) (N : News g L s.heap news) (X : (hd.heap_39 w.params).In g) (T : TopRead lawView Loo mg mb g) (hdep : A.depth + 10 < recursionLimit) (hh : A.handled = none)
    {l : Addr} {vs : List Value} {ns : List Int} {n0 : Nat} (hl : (l, listOf vs.toArray n0) ∈ news) (hi : IntsAre vs ns) (hn : ns.length ≤ 8)
    (h : ∀ h' tk o vs' n, Fr g L h' m → News g L h' ((o, listOf vs'.toArray n) :: news) → s.heap.get? o = none → StrsAre vs' (leadsFrom (Str.ofString "") ns) → Q (.ref o) { s with heap := h', toks := tk }) :
    wpAny (model PySem.Challenge.rw_ij0041_01.row.prog w) A (call (.ref 183) [.ref l] []) Q E s :=
  wpAny_call (leads_spec (X.keeps F.keep) (T.keeps F.keep) hdep hh l vs ns ⟨_, (N _ hl).1, rfl, _, rfl⟩ hi hn fun h' tk o vs' n hk hf ho hs => h h' tk o vs' n (F.keeps hk) (List.forall_mem_cons.mpr ⟨⟨ho, news_one F hf⟩, News.grown N hk⟩) hf hs)
theorem paths_use (F : Fr g L s.heap m) (N : News g L s.heap news) (X : (hd.heap_39 w.params).In g) (T : TopRead lawView Loo mg mb g) (hdep : A.depth + 40 < recursionLimit) (hh : A.handled = none)
    {nA lA : Addr} {nv lv : List Value} {ns : List Int} {ls : List Str} {n1 n2 : Nat} (hn : (nA, listOf nv.toArray n1) ∈ news) (hni : IntsAre nv ns) (hl : (lA, listOf lv.toArray n2) ∈ news) (hls : StrsAre lv ls)
    (hlen : ls.length = ns.length) (hmax : Small ns.length) (hln : ∀ x ∈ ls, x.length ≤ 60 ∧ Blank (KStt.codes x))
    (h : ∀ h' tk o pv n, Fr g L h' m → News g L h' ((o, listOf pv.toArray n) :: news) → s.heap.get? o = none → StrsAre pv (psAt ls ns ls.length) → Q (.ref o) { s with heap := h', toks := tk }) :
    wpAny (model PySem.Challenge.rw_ij0041_01.row.prog w) A (call (.ref 190) [.ref nA, .ref lA] []) Q E s :=
  wpAny_call (paths_spec (X.keeps F.keep) (T.keeps F.keep) hdep hh nA lA nv lv ns ls ⟨_, (N _ hn).1, rfl, _, rfl⟩ hni ⟨_, (N _ hl).1, rfl, _, rfl⟩ hls hlen hmax hln fun h' tk o pv n hk hf ho hs => h h' tk o pv n (F.keeps hk) (List.forall_mem_cons.mpr ⟨⟨ho, news_one F hf⟩, News.grown N hk⟩) hf hs)
theorem above_use (F : Fr g L s.heap m) (N : News g L s.heap news) (X : (hd.heap_39 w.params).In g) (T : TopRead lawView Loo mg mb g) (hdep : A.depth + 40 < recursionLimit) (hh : A.handled = none)
    {lA : Addr} {lv : List Value} {ls : List Str} {size : Int} {u : Tok} {n1 : Nat} (hs1 : 1 ≤ size) (hs2 : size ≤ 100) (hl : (lA, listOf lv.toArray n1) ∈ news) (hls : StrsAre lv ls) (hmax : Small ls.length) (hln : ∀ x ∈ ls, x.length ≤ 60)
    (h : ∀ h' tk o av n rest, Fr g L h' m → News g L h' ((o, listOf av.toArray n) :: (rest ++ news)) → s.heap.get? o = none → (∀ p ∈ rest, s.heap.get? p.1 = none) → AnsAre rest ls size ls.length av → Q (.ref o) { s with heap := h', toks := tk }) :
    wpAny (model PySem.Challenge.rw_ij0041_01.row.prog w) A (call (.ref 202) [.ref lA, .int size u] []) Q E s :=
  wpAny_call (above_spec (X.keeps F.keep) (T.keeps F.keep) hdep hh lA lv ls size u hs1 hs2 ⟨_, (N _ hl).1, rfl, _, rfl⟩ hls hmax hln fun h' tk o av n rest hk hf ho hs hr => h h' tk o av n rest (F.keeps hk) (List.forall_mem_cons.mpr ⟨⟨ho, news_one F hf⟩, fun p hp => by
    rcases List.mem_append.mp hp with hp | hp
    · exact ⟨(hr p hp).1, news_one F (hr p hp).2⟩
    · exact News.grown N hk p hp⟩) hf (fun p hp => (hr p hp).2) hs)

/-- list(_parents(path)) : the first half -/
theorem parents_use {env : Env} (F : Fr g L s.heap m) (N : News g L s.heap news) (X : (hd.heap_39 w.params).In g) (T : TopRead lawView Loo mg mb g) (hdep : A.depth + 100 < recursionLimit) (hh : A.handled = none) (hk : env.scope.kind ≠ .module) (hf : env.frame = some L)
    {p p0 : Str} {t0 : Tok} {As : List Str} {n : Nat} (hp0 : p0.cps.toList = p.cps.toList ++ List.replicate n 47) (hA : Anc p As) (hp : p0.length ≤ 100) (hl : 1 ≤ As.length ∧ As.length ≤ 500)
    (h : ∀ h' tk gs I, gs.bare = true → I.As = As → I.gn = s.gens.size → (∀ b o, s.heap.get? b = some o → I.Bg.get? b = some o) → IslOk w mg mb g [env] I → IslSt w I { s with gens := s.gens.push gs } 0 { s with heap := h', toks := tk, gens := s.gens.push gs } →
      Fr g L h' m → News g L h' news → Q (.ref I.x) { s with heap := h', toks := tk, gens := s.gens.push gs }) :
    wpAny (model PySem.Challenge.rw_ij0041_01.row.prog w) A (call (.ref 148) [.str p0 t0] []) Q E s := by
  refine wpAny_call (parents_spec (X.keeps F.keep) (T.keeps F.keep) hdep hh p p0 t0 As n hp0 hA hp ?_)
  intro h' tk gs base LG oL a x dx tc tn ts tp hb1 hb2 ha hLG hx hdx n3 n2 n1 n6 n5 hgen hbare hoL hox hodx hgoes
  obtain ⟨og, nm, qn, hog, hog2⟩ := hgen
  have hk2 : ∀ b o, s.heap.get? b = some o → h'.get? b = some o := fun b o e => hb2 _ _ (hb1 _ _ e)
  obtain ⟨oF, es, ep, hoF, hdF, _⟩ := id F.ns
  have gL : g.get? L = none := by
    cases e0 : g.get? L with
    | none => rfl
    | some o => exact absurd (Heap.lt_size e0) (Nat.not_lt.mpr F.above)
  refine h h' tk gs ⟨x, dx, a, LG, og, s.gens.size, As, base⟩ hbare rfl rfl hb1 ⟨⟨X, T, fun b o e => hb1 _ _ (F.keep _ _ e), hk, ⟨L, oF, hf, gL, hb1 _ _ hoF, fun vs q => by rw [hdF] at q; cases q⟩, trivial⟩, n1, n2, n3, ?_, n5, n6, hx, hdx, ha, hLG, fun h1 e => ⟨og, nm, qn, e, hog2⟩, ?_, hl⟩ ?_ (F.keeps hk2) (News.grown N hk2)
  · intro e
    have e' : dx = a := e
    rw [e', hog] at hodx
    cases hodx
    exact absurd hog2.1 (by decide)
  · intro b hb
    obtain ⟨e, he, hef⟩ := List.mem_filterMap.mp hb
    rw [List.mem_singleton.mp he, hf] at hef
    cases hef
    exact ⟨oF, hb1 _ _ hoF⟩
  · refine ⟨h', tk, _, gs, 0, 1, tc, tn, ts, tp, oL, As.length, rfl, hb2, hox, hodx, hog, hoL, ?_, hbare, ⟨rfl, fun _ _ => rfl⟩, hgoes, .inl ⟨rfl, rfl, rfl, rfl⟩⟩
    exact Array.getElem?_push_size
end
end Mine
end

-- part L2
section
open PySem PySem.W PySem.Calls PyProof.Rows
set_option maxRecDepth 100000
set_option maxHeartbeats 4000000
namespace Mine
section
variable {w : World} {A : Around} {E : Value → Shared → Prop} {s s0 : Shared} {mg mb : Str → Option Value} {g : Heap} {L : Addr} {m : Str → Option Value} {news : List (Addr × Obj)} {Q : Value → Shared → Prop}
theorem told_use {env : Env} {I : Isl} (F : Fr g L s.heap m) (N : News g L s.heap news) (hdep : A.depth ≤ 400) (hun : A.units ≤ 40000) (hh : A.handled = none) (hfr : A.frames = some [env]) (hf : env.frame = some L)
    (C : IslCls (hd.heap_39 w.params)) (K : IslOk w mg mb g [env] I) (hst : IslSt w I s0 0 s) (hN : ∀ p ∈ news, I.Bg.get? p.1 = some p.2)
    (h : ∀ h' tk gens' vs c S, gens'[I.gn]? = some .finished → GenOnly I.gn s0.gens gens' → Fr g L h' m → News g L h' ((S, listOf vs.toArray c) :: news) → s.heap.get? S = none → StrsAre vs (I.As.drop 1) → Q (.ref S) { s0 with heap := h', toks := tk, gens := gens' }) :
    wpAny (model PySem.Challenge.rw_ij0041_01.row.prog w) A (call (.type "list") [.ref I.x]) Q E s := by
  refine list_isl K C hdep hun hh hfr hst fun h' tk gens' vs c hfin honly hm hS hvs => ?_
  have hLm : L ∈ [env].filterMap (·.frame) := List.mem_filterMap.mpr ⟨env, .head _, hf⟩
  obtain ⟨oB, hoB⟩ := K.fB L hLm
  have bne : ∀ b o, I.Bg.get? b = some o → b ∉ [I.x, I.L] := fun b o e => by
    simp only [List.mem_cons, List.not_mem_nil, or_false, not_or]
    exact ⟨fun q => (by rw [q, K.bx] at e; cases e), fun q => (by rw [q, K.bL] at e; cases e)⟩
  have bfr : ∀ b, b ≠ L → b ∉ [env].filterMap (·.frame) := fun b hb hm => by
    obtain ⟨e, he, hef⟩ := List.mem_filterMap.mp hm
    rw [List.mem_singleton.mp he, hf] at hef
    exact hb (Option.some.inj hef).symm
  have hSn : s.heap.get? s.heap.objs.size = none := by
    cases e : s.heap.get? s.heap.objs.size with
    | none => rfl
    | some o => exact absurd (Heap.lt_size e) (Nat.lt_irrefl _)
  refine h h' tk gens' vs c _ hfin honly ⟨?_, fun b o e => ?_, F.above⟩ (List.forall_mem_cons.mpr ⟨⟨hS, news_one F hSn⟩, fun p hp => ⟨hm.1 _ _ (bne _ _ (hN p hp)) (bfr _ (N p hp).2.1) (N p hp).1, (N p hp).2⟩⟩) hSn hvs
  · obtain ⟨o, es, ep, ho, hd, r⟩ := F.ns
    obtain ⟨sl, e⟩ := hm.2 L o (bne _ _ hoB) ho (fun vs q => by rw [hd] at q; cases q)
    exact ⟨_, es, ep, e, hd, r⟩
  · exact hm.1 b o (bne _ _ (K.U.B _ _ e)) (bfr _ (fun q => absurd (Heap.lt_size e) (by rw [q]; exact Nat.not_lt.mpr F.above))) (F.keep b o e)
end
end Mine
end

-- part L3
section
open PySem PySem.W PySem.Calls PyProof.Rows
set_option maxRecDepth 100000
set_option maxHeartbeats 4000000
namespace Mine
section
variable {prog : Program} {w : World} {A : Around} {E : Value → Shared → Prop} {s : Shared} {g : Heap} {L : Addr} {m : Str → Option Value} {news : List (Addr × Obj)}
theorem sub_tmp {value slice : Expr} {o i : Value} {T id : String} {ops : List Value} {Q : Value → Shared → Prop} (hT : s.TypeIs o T)
    (hl : typeLookup (.type T) "__getitem__" = pure (some (.builtin id))) (h : wpAny (model prog w) A (getItem o i) Q E s)
    (hs : subscripted slice false o i = operate ops (getItem o i)) :
    wpAny (model prog w) A (subscriptTail value slice o i) Q E s := by
  unfold subscriptTail
  refine wpAny_bind ?_
  rw [getitemInPython_of_ne hT.not_modules]
  refine wpAny_bind (wpAny_specialOf hT hl ?_)
  have fin : wpAny (model prog w) A (subscripted slice false o i) (fun r s₃ => wpAny (model prog w) A (letTemporaryGo value o r >>= fun _ => pure r) Q E s₃) E s := by
    rw [hs]
    exact wpAny_operating (wpAny_mono h (fun r s₃ h₃ => wpAny_bind (wpAny_letTemporaryGo (wpAny_pure h₃))) fun _ _ x => x)
  first
    | exact wpAny_pure (wpAny_bind fin)
    | exact wpAny_bind (wpAny_pure (wpAny_bind fin))
    | exact wpAny_bind fin
theorem slice_tmp {value slice : Expr} {l : Addr} {vs : List Value} {vl vu : Value} {lo hi : Option Int} {n : Nat} {Q : Value → Shared → Prop}
    (F : Fr g L s.heap m) (N : News g L s.heap news) (hl : (l, listOf vs.toArray n) ∈ news) (pl : IsPart vl lo) (pu : IsPart vu hi)
    (h : ∀ h' D, Fr g L h' m → News g L h' ((D, listOf (kms_pick vs lo hi).toArray 0) :: news) → s.heap.get? D = none → (∀ p ∈ news, p.1 < D) → Q (.ref D) { s with heap := h' })
    (hs : subscripted slice false (.ref l) (.ref s.heap.objs.size) = operate [.ref s.heap.objs.size, .ref l] (getItem (.ref l) (.ref s.heap.objs.size)))
    (hsz : vs.length ≤ 16384) :
    wpAny (model prog w) A (subscriptTail value slice (.ref l) (.ref s.heap.objs.size)) Q E { s with heap := s.heap.push { cls := .type "slice", data := .fields #[vl, vu, .none] } } := by
  have hL : s.heap.IsList l vs.toArray := ⟨_, (N _ hl).1, rfl, _, rfl⟩
  refine sub_tmp (Heap.IsList.typeIs (s := { s with heap := s.heap.push { cls := .type "slice", data := .fields #[vl, vu, .none] } }) (hL.push _)) list_getitem_lookup
    (wpAny_getItem_list_slice (hL.push _) (Heap.IsSliceOf.new ..) pl pu .none (by simp) ?_ (size_ok (by simpa using hsz))) hs
  have N1 := News.push (F.push { cls := .type "slice", data := .fields #[vl, vu, .none] }) (N.grown fun _ _ e => Heap.get?_push_of_some _ e) { cls := .type "list", data := .seq (slicePick vs.toArray lo hi none) }
  rw [Heap.size_push] at N1
  show Q (.ref (s.heap.push _).objs.size) _
  rw [Heap.size_push]
  have e := kms_pick_eq vs.toArray lo hi
  refine h _ _ ((F.push _).push _) ?_ ?_ fun p hp => Nat.lt_succ_of_lt (Heap.lt_size (N p hp).1)
  · rw [← show slicePick vs.toArray lo hi none = (kms_pick vs lo hi).toArray from e]
    exact N1
  · cases e0 : s.heap.get? (s.heap.objs.size + 1) with
    | none => rfl
    | some o => exact absurd (Heap.lt_size e0) (Nat.not_lt.mpr (Nat.le_succ _))
end
theorem pick_from {vs : List Value} {ns : List Int} (h : IntsAre vs ns) (n : Nat) : IntsAre (kms_pick vs (some (n : Int)) none) (ns.drop n) := by
  have e : kms_pick vs (some (n : Int)) none = vs.drop n := by
    unfold kms_pick kms_lo kms_hi
    simp only
    rw [if_neg (by omega), Int.toNat_natCast]
    rcases Nat.le_total n vs.length with hn | hn
    · rw [Nat.min_eq_left hn]
      exact List.take_of_length_le (by simp)
    · rw [Nat.min_eq_right hn, List.drop_length, List.drop_of_length_le hn, List.take_nil]
  rw [e]
  exact h.drop n
theorem news_gen {g h : Heap} {L D : Addr} {n : Nat} {vs : List Value} {ns : List Int} {rest : List (Addr × Obj)} (N : News g L h ((D, { cls := .type "list", data := .seq vs.toArray n }) :: rest)) (hi : IntsAre vs ns) : ∃ nv, IntsAre nv ns ∧ News g L h ((D, listOf nv.toArray n) :: rest) := ⟨vs, hi, N⟩
theorem ne_new {g h : Heap} {L o : Addr} {news : List (Addr × Obj)} (N : News g L h news) (hf : h.get? o = none) : ∀ p ∈ news, @Ne Nat o p.1 := fun p hp e => by
  have := (N p hp).1
  rw [← show o = p.1 from e, hf] at this
  cases this
theorem lt_new {g h : Heap} {L : Addr} {news : List (Addr × Obj)} (N : News g L h news) : ∀ p ∈ news, p.1 < h.objs.size := fun p hp => Heap.lt_size (N p hp).1
def lawNums (ns : List Int) : List Int := ns.take 8 ++ [0, 16, 5, 32, 10, 0, 13].drop ns.length
theorem lawNums_len (ns : List Int) : 7 ≤ (lawNums ns).length ∧ (lawNums ns).length ≤ 8 := by
  unfold lawNums
  simp only [List.length_append, List.length_take, List.length_drop, List.length_cons, List.length_nil]
  omega
end Mine
end

-- part Q1
section
open PySem PySem.W PySem.Calls PyProof.Rows
set_option maxRecDepth 100000
set_option maxHeartbeats 4000000
namespace Mine
section
variable {prog : Program} {w : World} {A : Around} {R : Result → Shared → Prop} {s : Shared}
theorem turn_inner (elt i0 i1 : Expr) (t0 t1 : Expr) (scope : Scope) (pos : Pos) (it acc : Value) (env : Env) :
    compTurn (.ListComp elt [⟨t0, i0, [], 0⟩, ⟨t1, i1, [], 0⟩] scope pos) 1 it acc env = (standAt i1.pos >>= fun _ => pyNext it >>= fun r => match r with
      | none => pure (.done .next)
      | some v => letOwnedTupleGo t1 it v >>= fun _ => assign t1 env v >>= fun _ => (do let _ ← call (.builtin "list.append") [acc, ← eval elt env]) >>= fun _ => again (.compLoop (.ListComp elt [⟨t0, i0, [], 0⟩, ⟨t1, i1, [], 0⟩] scope pos) 1 it acc env)) := by rfl
theorem turn_outer (elt i0 i1 : Expr) (t0 t1 : Expr) (scope : Scope) (pos : Pos) (it acc : Value) (env : Env) :
    compTurn (.ListComp elt [⟨t0, i0, [], 0⟩, ⟨t1, i1, [], 0⟩] scope pos) 0 it acc env = (standAt i0.pos >>= fun _ => pyNext it >>= fun r => match r with
      | none => pure (.done .next)
      | some v => letOwnedTupleGo t0 it v >>= fun _ => assign t0 env v >>= fun _ => eval i1 env >>= fun x => standAt i1.pos >>= fun _ => foldedSetIterable i1 env x >>= fun x => holding [x] (pyIter x) >>= fun y =>
          runOwn (.compStart (.ListComp elt [⟨t0, i0, [], 0⟩, ⟨t1, i1, [], 0⟩] scope pos) 1 y acc env) env >>= fun _ => again (.compLoop (.ListComp elt [⟨t0, i0, [], 0⟩, ⟨t1, i1, [], 0⟩] scope pos) 0 it acc env)) := by rfl

theorem two_inner {elt i0 i1 : Expr} {t0 : Expr} {y : Str} {py : Pos} {scope : Scope} {pos : Pos} {I ax D : Addr} {cenv : Env} {items ys0 : Array Value} {m : Str → Option Value} (F : Value → Value → Prop)
    (hh : A.handled = none) (hx : cenv.kindOf y = some .local) (hp : (cenv.scope.kind == .class || (cenv.scope.kind == .module && cenv.locals != cenv.globals)) = false)
    (hDI : D ≠ I) (hDC : D ≠ cenv.locals) (hIC : I ≠ cenv.locals) (haI : ax ≠ I) (haC : ax ≠ cenv.locals) (haD : ax ≠ D)
    (hit : s.heap.IsListIter I ax 0) (hl : s.heap.IsList ax items) (hacc : s.heap.IsList D ys0) (hn : s.heap.Ns cenv.locals m)
    (helt : ∀ v s₂ m₂, v ∈ items → s₂.heap.Ns cenv.locals m₂ → m₂ y = some v → (∀ b o, b ≠ cenv.locals → b ≠ I → b ≠ D → s.heap.get? b = some o → s₂.heap.get? b = some o) →
      wpAny (model prog w) A (eval elt cenv) (fun x s₃ => F v x ∧ Keeps s₂ s₃) (notedBy (model prog w) A cenv fun e s' => R (.error e) s') s₂)
    (hR : ∀ h' tk m' ys, h'.Ns cenv.locals m' → h'.IsList D (ys0 ++ ys) → Paired F items.toList ys.toList →
      (∀ b o, b ≠ cenv.locals → b ≠ I → b ≠ D → s.heap.get? b = some o → h'.get? b = some o) → R (.ok .next) { s with heap := h', toks := tk })
    (hsz : ys0.size + items.size ≤ 1000) :
    codeAny (model prog w) A (.compLoop (.ListComp elt [⟨t0, i0, [], 0⟩, ⟨.Name y py, i1, [], 0⟩] scope pos) 1 (.ref I) (.ref D) cenv) R s := by
  refine codeAny_loop rfl
    (fun k s' => ∃ h' tk m' ys i, s' = { s with heap := h', toks := tk } ∧ h'.IsListIter I ax i ∧ h'.IsList ax items ∧ h'.IsList D (ys0 ++ ys) ∧ h'.Ns cenv.locals m' ∧
      Paired F (items.toList.take i) ys.toList ∧ i ≤ items.size ∧ k = items.size + 1 - i ∧
      ∀ b o, b ≠ cenv.locals → b ≠ I → b ≠ D → s.heap.get? b = some o → h'.get? b = some o) ?_ (items.size + 1)
    ⟨s.heap, s.toks, m, #[], 0, rfl, hit, hl, by simpa using hacc, hn, by simpa using Paired.nil, Nat.zero_le _, rfl, fun _ _ _ _ _ e => e⟩
  rintro k s' ⟨H, tk, m', ys, i, rfl, hit', hl', hacc', hn', hF, hi, rfl, hk⟩
  show wpAny _ A ((compTurn _ 1 (.ref I) (.ref D) cenv).onRaise (fun x => do noteFrame x cenv; theTreesLotGoes x)) _ _ _
  refine wpAny_noted ?_
  rw [turn_inner]
  refine wpAny_bind (wpAny_standAt (wpAny_bind ?_))
  cases hv : items[i]? with
  | none =>
    have hsz : items.toList.length ≤ i := by simpa using hv
    refine wpAny_pyNext_list_end hh hit' hl' hv fun h₁ he₁ => wpAny_pure ?_
    refine hR h₁ tk m' ys (hn'.extBut he₁ (Ne.symm hIC)) (hacc'.extBut he₁ hDI) ?_ fun b o hbC hbI hbD e => he₁ b o hbI (hk b o hbC hbI hbD e)
    rwa [List.take_of_length_le hsz] at hF
  | some v =>
    have hlt : i < items.size := (Array.getElem?_eq_some_iff.mp hv).1
    have hmem : v ∈ items := by obtain ⟨h1, rfl⟩ := Array.getElem?_eq_some_iff.mp hv; exact Array.getElem_mem h1
    have hvl : items.toList[i]? = some v := by simpa using hv
    refine wpAny_pyNext_list_item hit' hl' hv fun h₁ hit₁ hs₁ => ?_
    refine wpAny_bind (wpAny_of_eq (a := ()) rfl (wpAny_bind ?_))
    refine wpAny_assign_Name (wpAny_storeName_local hx (hn'.sameBut hs₁ (Ne.symm hIC)) (fun h₂ hn₂ hs₂ => ?_) hp)
    have up₂ : ∀ b o, b ≠ cenv.locals → b ≠ I → H.get? b = some o → h₂.get? b = some o := fun b o hbC hbI e => hs₂.extBut b o hbC (hs₁.extBut b o hbI e)
    refine wpAny_bind (wpAny_bind (wpAny_mono (helt v _ _ hmem hn₂ (by simp) fun b o hbC hbI hbD e => up₂ b o hbC hbI (hk b o hbC hbI hbD e)) (fun x s₄ h₄ => ?_) fun _ _ e => e))
    obtain ⟨hFy, h₄, tk₄, rfl, hk₄⟩ := h₄
    have up₄ : ∀ b o, b ≠ cenv.locals → b ≠ I → H.get? b = some o → h₄.get? b = some o := fun b o hbC hbI e => hk₄ b o (up₂ b o hbC hbI e)
    have hys : (ys0 ++ ys).size ≤ sizeLine := by
      have e1 := hF.length
      have e3 : (items.toList.take i).length ≤ items.size := by rw [List.length_take]; simp; omega
      have e4 : ys.toList.length = ys.size := by simp
      refine size_ok ?_
      rw [Array.size_append]; omega
    refine wpAny_bind (wpAny_list_append (hsz := hys) (hacc'.at fun o e => up₄ D o hDC hDI e) fun h₅ hl₅ hs₅ => wpAny_pure (wpAny_pure ⟨rfl, ?_⟩))
    refine ⟨items.size + 1 - (i + 1), by omega, h₅, tk₄, _, ys.push x, i + 1, rfl, ((hit₁.extBut hs₂.extBut hIC).at fun o e => hk₄ _ o e).extBut hs₅.extBut (Ne.symm hDI), (hl'.at fun o e => up₄ ax o haC haI e).extBut hs₅.extBut haD, by simpa using hl₅,
        (hn₂.keeps hk₄).sameBut hs₅ (Ne.symm hDC), ?_, hlt, rfl, fun b o hbC hbI hbD e => hs₅.extBut b o hbD (up₄ b o hbC hbI (hk b o hbC hbI hbD e))⟩
    rw [List.take_add_one, hvl]
    simpa using Paired.snoc hF hFy
end
end Mine
end

-- part Q2
section
open PySem PySem.W PySem.Calls PyProof.Rows
set_option maxRecDepth 100000
set_option maxHeartbeats 4000000
namespace Mine
section
variable {prog : Program} {w : World} {A : Around} {R : Result → Shared → Prop} {s : Shared}
theorem start_inner {elt i0 i1 t0 t1 : Expr} {scope : Scope} {pos : Pos} {it acc : Value} {env : Env}
    (h0 : codeAny (model prog w) A (.compLoop (.ListComp elt [⟨t0, i0, [], 0⟩, ⟨t1, i1, [], 0⟩] scope pos) 1 it acc env) R s)
    (h : wpAny (model prog w) A (pyIter it) (fun it' s' => codeAny (model prog w) A (.compLoop (.ListComp elt [⟨t0, i0, [], 0⟩, ⟨t1, i1, [], 0⟩] scope pos) 1 it' acc env) R s')
      (notedBy (model prog w) A env fun x s' => R (.error x) s') s) :
    codeAny (model prog w) A (.compStart (.ListComp elt [⟨t0, i0, [], 0⟩, ⟨t1, i1, [], 0⟩] scope pos) 1 it acc env) R s := by
  refine codeAny_of_tree ?_
  show wpAny _ _ ((compStart (.ListComp elt [⟨t0, i0, [], 0⟩, ⟨t1, i1, [], 0⟩] scope pos) 1 it acc env).onRaise (fun x => do noteFrame x env; standAt theWindowsPlace)) _ _ s
  refine wpAny_notedAt ?_
  unfold compStart
  show wpAny _ _ (ask >>= _) _ _ s
  refine wpAny_bind (wpAny_askSetting (wpAny_ite ?_))
  split
  · first
      | exact wpAny_bind (wpAny_pure (wpAny_pure (And.intro rfl h0)))
      | exact wpAny_pure (And.intro rfl h0)
  · refine wpAny_bind (wpAny_rule ?_)
    first
      | exact wpAny_bind (wpAny_standAt (wpAny_bind (wpAny_mono h (fun it' s' h' => wpAny_pure ⟨rfl, h'⟩) fun _ _ e => e)))
      | exact wpAny_standAt (wpAny_bind (wpAny_mono h (fun it' s' h' => wpAny_pure ⟨rfl, h'⟩) fun _ _ e => e))

inductive Flat (T : Value → List Value → Prop) (F : Value → Value → Prop) : List Value → List Value → Prop
  | nil : Flat T F [] []
  | snoc {l zs v its ws} : Flat T F l zs → T v its → Paired F its ws → Flat T F (l ++ [v]) (zs ++ ws)

theorem two_outer {elt i0 i1 : Expr} {x y : Str} {px py : Pos} {scope : Scope} {pos : Pos} {I lA D : Addr} {cenv : Env} {items : Array Value} {m : Str → Option Value} (T : Value → List Value → Prop) (F : Value → Value → Prop)
    (hh : A.handled = none) (hx : cenv.kindOf x = some .local) (hy : cenv.kindOf y = some .local) (hp : (cenv.scope.kind == .class || (cenv.scope.kind == .module && cenv.locals != cenv.globals)) = false)
    (hDI : D ≠ I) (hDC : D ≠ cenv.locals) (hIC : I ≠ cenv.locals) (haI : lA ≠ I) (haC : lA ≠ cenv.locals) (haD : lA ≠ D)
    (hit : s.heap.IsListIter I lA 0) (hl : s.heap.IsList lA items) (hacc : s.heap.IsList D #[]) (hn : s.heap.Ns cenv.locals m)
    (hfold : ∀ v, foldedSetIterable i1 cenv v = pure v)
    (hiter : ∀ v s₂ m₂ E', v ∈ items → s₂.heap.Ns cenv.locals m₂ → m₂ x = some v → (∀ b o, b ≠ cenv.locals → b ≠ I → b ≠ D → s.heap.get? b = some o → s₂.heap.get? b = some o) →
      wpAny (model prog w) A (eval i1 cenv) (fun xv s₃ => ∃ ax its, xv = .ref ax ∧ T v its ∧ s₃.heap.IsList ax its.toArray ∧ s₂.heap.get? ax = none ∧ its.length ≤ 20 ∧ Keeps s₂ s₃) E' s₂)
    (helt : ∀ u s₂ m₂ E', (∃ v its, v ∈ items ∧ T v its ∧ u ∈ its) → s₂.heap.Ns cenv.locals m₂ → m₂ y = some u → (∀ b o, b ≠ cenv.locals → b ≠ I → b ≠ D → s.heap.get? b = some o → s₂.heap.get? b = some o) →
      wpAny (model prog w) A (eval elt cenv) (fun z s₃ => F u z ∧ Keeps s₂ s₃) E' s₂)
    (hR : ∀ h' tk m' zs, h'.Ns cenv.locals m' → h'.IsList D zs.toArray → Flat T F items.toList zs →
      (∀ b o, b ≠ cenv.locals → b ≠ I → b ≠ D → s.heap.get? b = some o → h'.get? b = some o) → R (.ok .next) { s with heap := h', toks := tk })
    (hsz : items.size ≤ 10) :
    codeAny (model prog w) A (.compLoop (.ListComp elt [⟨.Name x px, i0, [], 0⟩, ⟨.Name y py, i1, [], 0⟩] scope pos) 0 (.ref I) (.ref D) cenv) R s := by
  refine codeAny_loop rfl
    (fun k s' => ∃ h' tk m' zs i, s' = { s with heap := h', toks := tk } ∧ h'.IsListIter I lA i ∧ h'.IsList lA items ∧ h'.IsList D zs.toArray ∧ h'.Ns cenv.locals m' ∧
      Flat T F (items.toList.take i) zs ∧ zs.length ≤ 20 * i ∧ i ≤ items.size ∧ k = items.size + 1 - i ∧
      ∀ b o, b ≠ cenv.locals → b ≠ I → b ≠ D → s.heap.get? b = some o → h'.get? b = some o) ?_ (items.size + 1)
    ⟨s.heap, s.toks, m, [], 0, rfl, hit, hl, hacc, hn, by simpa using Flat.nil, Nat.zero_le _, Nat.zero_le _, rfl, fun _ _ _ _ _ e => e⟩
  rintro k s' ⟨H, tk, m', zs, i, rfl, hit', hl', hacc', hn', hF, hzl, hi, rfl, hk⟩
  show wpAny _ A ((compTurn _ 0 (.ref I) (.ref D) cenv).onRaise (fun x => do noteFrame x cenv; theTreesLotGoes x)) _ _ _
  refine wpAny_noted ?_
  rw [turn_outer]
  refine wpAny_bind (wpAny_standAt (wpAny_bind ?_))
  cases hv : items[i]? with
  | none =>
    have hsz : items.toList.length ≤ i := by simpa using hv
    refine wpAny_pyNext_list_end hh hit' hl' hv fun h₁ he₁ => wpAny_pure ?_
    refine hR h₁ tk m' zs (hn'.extBut he₁ (Ne.symm hIC)) (hacc'.extBut he₁ hDI) ?_ fun b o hbC hbI hbD e => he₁ b o hbI (hk b o hbC hbI hbD e)
    rwa [List.take_of_length_le hsz] at hF
  | some v =>
    have hlt : i < items.size := (Array.getElem?_eq_some_iff.mp hv).1
    have hmem : v ∈ items := by obtain ⟨h1, rfl⟩ := Array.getElem?_eq_some_iff.mp hv; exact Array.getElem_mem h1
    have hvl : items.toList[i]? = some v := by simpa using hv
    refine wpAny_pyNext_list_item hit' hl' hv fun h₁ hit₁ hs₁ => ?_
    refine wpAny_bind (wpAny_of_eq (a := ()) rfl (wpAny_bind ?_))
    refine wpAny_assign_Name (wpAny_storeName_local hx (hn'.sameBut hs₁ (Ne.symm hIC)) (fun h₂ hn₂ hs₂ => ?_) hp)
    have up₂ : ∀ b o, b ≠ cenv.locals → b ≠ I → H.get? b = some o → h₂.get? b = some o := fun b o hbC hbI e => hs₂.extBut b o hbC (hs₁.extBut b o hbI e)
    refine wpAny_bind (wpAny_mono (hiter v _ _ _ hmem hn₂ (by simp) fun b o hbC hbI hbD e => up₂ b o hbC hbI (hk b o hbC hbI hbD e)) (fun xv s₄ h₄ => ?_) fun _ _ e => e)
    obtain ⟨ax, its, rfl, hT, hax, hax0, hlen, h₄, tk₄, rfl, hk₄⟩ := h₄
    have up₄ : ∀ b o, b ≠ cenv.locals → b ≠ I → H.get? b = some o → h₄.get? b = some o := fun b o hbC hbI e => hk₄ b o (up₂ b o hbC hbI e)
    refine wpAny_bind (wpAny_standAt (wpAny_bind ?_))
    rw [hfold]
    refine wpAny_pure (wpAny_bind (wpAny_holding (wpAny_pyIter_list hax ?_)))
    have old : ∀ b o, h₄.get? b = some o → @Ne Nat b h₄.objs.size := fun b o e => Nat.ne_of_lt (Heap.lt_size e)
    obtain ⟨oD, hoD, _⟩ := id hacc'
    obtain ⟨oC, _, _, hoC, _⟩ := id hn₂
    obtain ⟨oX, hoX, _⟩ := id hax
    have hD2 := up₂ D _ hDC hDI hoD
    have nD : D ≠ h₄.objs.size := old _ _ (hk₄ _ _ hD2)
    have nC : cenv.locals ≠ h₄.objs.size := old _ _ (hk₄ _ _ hoC)
    have nX : ax ≠ h₄.objs.size := old _ _ hoX
    have nXC : ax ≠ cenv.locals := fun q => by
      have e : h₂.get? ax = none := hax0
      rw [q, hoC] at e; cases e
    have nXD : ax ≠ D := fun q => by
      have e : h₂.get? ax = none := hax0
      rw [q, hD2] at e; cases e
    have up5 : ∀ b o, b ≠ cenv.locals → b ≠ I → H.get? b = some o → (h₄.push { cls := .type "list_iterator", data := .fields #[.ref ax, .int 0 0] }).get? b = some o := fun b o hbC hbI e => Heap.get?_push_of_some _ (up₄ b o hbC hbI e)
    have hit5 : (h₄.push { cls := .type "list_iterator", data := .fields #[.ref ax, .int 0 0] }).IsListIter h₄.objs.size ax 0 := ⟨_, Heap.get?_push_size _ rfl, rfl, rfl⟩
    have loop : ∀ R' : Result → Shared → Prop, (∀ h' tk m'' ys, h'.Ns cenv.locals m'' → h'.IsList D (zs.toArray ++ ys) → Paired F its.toArray.toList ys.toList →
        (∀ b o, b ≠ cenv.locals → b ≠ h₄.objs.size → b ≠ D → (h₄.push { cls := .type "list_iterator", data := .fields #[.ref ax, .int 0 0] }).get? b = some o → h'.get? b = some o) → R' (.ok .next) { s with heap := h', toks := tk }) →
        codeAny (model prog w) A (.compLoop (.ListComp elt [⟨.Name x px, i0, [], 0⟩, ⟨.Name y py, i1, [], 0⟩] scope pos) 1 (.ref h₄.objs.size) (.ref D) cenv) R' { s with heap := h₄.push { cls := .type "list_iterator", data := .fields #[.ref ax, .int 0 0] }, toks := tk₄ } := fun R' hR' =>
      two_inner (R := R') (s := { s with heap := h₄.push { cls := .type "list_iterator", data := .fields #[.ref ax, .int 0 0] }, toks := tk₄ }) F hh hy hp nD hDC nC.symm nX nXC nXD hit5 (hax.push _) ((hacc'.at fun o e => up5 D o hDC hDI e)) ((hn₂.keeps hk₄).keeps fun b o e => Heap.get?_push_of_some _ e)
        (fun u s₆ m₆ hu hn6 hm6 hk6 => helt u s₆ m₆ _ ⟨v, its, hmem, hT, by simpa using hu⟩ hn6 hm6 fun b o hbC hbI hbD e => hk6 b o hbC (old _ _ (up₄ b o hbC hbI (hk b o hbC hbI hbD e))) hbD (up5 b o hbC hbI (hk b o hbC hbI hbD e)))
        hR' (by simp; omega)
    refine wpAny_bind (wpAny_runOwn (start_inner (loop _ ?_) (wpAny_pyIter_listiter hit5 (loop _ ?_))))
    all_goals (
      intro h6 tk6 m6 ys hN6 hD6 hP6 hk6
      refine wpAny_pure ⟨rfl, ?_⟩
      have up6 : ∀ b o, b ≠ cenv.locals → b ≠ D → h₂.get? b = some o → h6.get? b = some o := fun b o hbC hbD e => hk6 b o hbC (old _ _ (hk₄ _ _ e)) hbD (Heap.get?_push_of_some _ (hk₄ _ _ e))
      have hlen6 : ys.toList.length = its.length := by have := hP6.length; simpa using this.symm
      refine ⟨items.size + 1 - (i + 1), by omega, h6, tk6, m6, zs ++ ys.toList, i + 1, rfl, (hit₁.extBut hs₂.extBut hIC).at fun o e => up6 I o hIC hDI.symm e, hl'.at fun o e => up6 lA o haC haD (up₂ lA o haC haI e), ?_, hN6, ?_, ?_, hlt, rfl,
        fun b o hbC hbI hbD e => up6 b o hbC hbD (up₂ b o hbC hbI (hk b o hbC hbI hbD e))⟩
      · have e : (zs ++ ys.toList).toArray = zs.toArray ++ ys := by simp
        rw [e]; exact hD6
      · rw [List.take_add_one, hvl]
        exact .snoc hF hT (by simpa using hP6)
      · rw [List.length_append, hlen6]; omega)
end
end Mine
end

-- part Q3
section
open PySem PySem.W PySem.Calls PyProof.Rows
set_option maxRecDepth 100000
set_option maxHeartbeats 4000000
namespace Mine
section
variable {prog : Program} {w : World} {A : Around} {E : Value → Shared → Prop} {s : Shared} {env : Env}
theorem comp_two {elt i0 i1 : Expr} {x y : Str} {px py : Pos} {scope : Scope} {pos : Pos} {Q : Value → Shared → Prop} (T : Value → List Value → Prop) (F : Value → Value → Prop)
    (hh : A.handled = none) (hfree : ∀ y ∈ scope.names, y.2 ≠ .free) (hcell : ∀ y ∈ scope.names, y.2 ≠ .cell) (hkind : scope.kind = .function)
    (hnames : ∀ y ∈ scope.names, y.2 = .local → scope.names.lookup y.1 = some .local) (hx : scope.names.lookup x = some .local) (hy : scope.names.lookup y = some .local)
    (h : wpAny (model prog w) A (eval i0 env) (fun xv s₁ => ∃ lA items, xv = .ref lA ∧ s₁.heap.IsList lA items ∧ items.size ≤ 10 ∧
      (∀ C v s₂ m₂ E', v ∈ items → s₂.heap.Ns C m₂ → m₂ x = some v → (∀ b o, s₁.heap.get? b = some o → s₂.heap.get? b = some o) →
        wpAny (model prog w) A (eval i1 (compEnv scope C env)) (fun xv s₃ => ∃ ax its, xv = .ref ax ∧ T v its ∧ s₃.heap.IsList ax its.toArray ∧ s₂.heap.get? ax = none ∧ its.length ≤ 20 ∧ Keeps s₂ s₃) E' s₂) ∧
      (∀ C u s₂ m₂ E', (∃ v its, v ∈ items ∧ T v its ∧ u ∈ its) → s₂.heap.Ns C m₂ → m₂ y = some u → (∀ b o, s₁.heap.get? b = some o → s₂.heap.get? b = some o) → wpAny (model prog w) A (eval elt (compEnv scope C env)) (fun z s₃ => F u z ∧ Keeps s₂ s₃) E' s₂) ∧
      (∀ D h' tk zs, s₁.heap.get? D = none → h'.IsList D zs.toArray → Flat T F items.toList zs → (∀ b o, s₁.heap.get? b = some o → h'.get? b = some o) →
        Q (.ref D) { s₁ with heap := h', toks := tk })) E s)
    (hs : ∀ x, foldedSetIterable i0 env x = pure x) (hs1 : ∀ C x, foldedSetIterable i1 (compEnv scope C env) x = pure x) :
    wpAny (model prog w) A (eval (.ListComp elt [⟨.Name x px, i0, [], 0⟩, ⟨.Name y py, i1, [], 0⟩] scope pos) env) Q E s := by
  refine wpAny_ListComp hfree hkind hnames (wpAny_mono h (fun xv s₁ h₁ => ?_) fun _ _ e => e) hs
  obtain ⟨ax, items, rfl, hl, hsz, hiter, helt, hQ⟩ := h₁
  refine wpAny_pyIter_list hl (wpAny_newObj_type (hd := by size_fits) (wpAny_newFunctionEnv hcell (by intro y hy; simp at hy) (fun h₁ hns₁ hsb₁ => ?_) hkind))
  dsimp only at hns₁ hsb₁ ⊢
  obtain ⟨ol, hol, hol'⟩ := id hl
  have hax : ax < s₁.heap.objs.size := Heap.lt_size hol
  generalize hH1 : s₁.heap.push { cls := .type "list_iterator", data := .fields #[.ref ax, .int 0 0] } = H1 at hns₁ hsb₁ ⊢
  have hD : H1.objs.size = s₁.heap.objs.size + 1 := by rw [← hH1, Heap.size_push]
  generalize hH2 : H1.push { cls := .type "list", dict := none, data := .seq ([] : List Value).toArray } = H2 at hns₁ hsb₁ ⊢
  have hC : H2.objs.size = s₁.heap.objs.size + 2 := by rw [← hH2, Heap.size_push, hD]
  have hDI : H1.objs.size ≠ s₁.heap.objs.size := by rw [hD]; exact Nat.succ_ne_self _
  have hDC : H1.objs.size ≠ H2.objs.size := by rw [hD, hC]; exact Nat.ne_of_lt (Nat.lt_succ_self _)
  have hIC : s₁.heap.objs.size ≠ H2.objs.size := by rw [hC]; exact Nat.ne_of_lt (Nat.lt_succ_of_lt (Nat.lt_succ_self _))
  have below : ∀ b, b < s₁.heap.objs.size → b ≠ H2.objs.size ∧ b ≠ s₁.heap.objs.size ∧ b ≠ H1.objs.size := fun b hb =>
    ⟨by rw [hC]; exact Nat.ne_of_lt (Nat.lt_succ_of_lt (Nat.lt_succ_of_lt hb)), Nat.ne_of_lt hb, by rw [hD]; exact Nat.ne_of_lt (Nat.lt_succ_of_lt hb)⟩
  have old : ∀ b o, s₁.heap.get? b = some o → h₁.get? b = some o := fun b o e =>
    hsb₁.extBut b o (below b (Heap.lt_size e)).1 (Heap.get?_push_of_some _ (hH2 ▸ Heap.get?_push_of_some _ (hH1 ▸ Heap.get?_push_of_some _ e)))
  have hit : h₁.IsListIter s₁.heap.objs.size ax 0 :=
    ⟨_, hsb₁.extBut _ _ hIC (Heap.get?_push_of_some _ (hH2 ▸ Heap.get?_push_of_some _ (hH1 ▸ Heap.get?_push_size _ rfl))), rfl, rfl⟩
  have hacc : h₁.IsList H1.objs.size #[] := ⟨_, hsb₁.extBut _ _ hDC (Heap.get?_push_of_some _ (hH2 ▸ Heap.get?_push_size _ rfl)), rfl, _, rfl⟩
  have hl₁ : h₁.IsList ax items := ⟨ol, old _ _ hol, hol'⟩
  have hnew : s₁.heap.get? H1.objs.size = none := by
    cases e : s₁.heap.get? H1.objs.size with
    | none => rfl
    | some o' => have := Heap.lt_size e; rw [hD] at this; exact absurd this (Nat.not_lt.mpr (Nat.le_succ _))
  have loop : ∀ s₂ : Shared, s₂ = { s₁ with heap := h₁, toks := s₁.toks + ([] : List (Str × Value)).length } →
      codeAny (model prog w) A (.compLoop (.ListComp elt [⟨.Name x px, i0, [], 0⟩, ⟨.Name y py, i1, [], 0⟩] scope pos) 0 (.ref s₁.heap.objs.size) (.ref H1.objs.size) (compEnv scope H2.objs.size env))
        (fun r s' => ∃ m, s'.heap.Ns H2.objs.size m ∧ ∀ h', Heap.SameBut H2.objs.size s'.heap h' →
          match r with | .ok _ => Q (.ref H1.objs.size) { s' with heap := h' } | .error x => wpAny (model prog w) A (passOn "comprehension.variables-let-go" x (compEnv scope H2.objs.size env)) Q E { s' with heap := h' }) s₂ := by
    rintro s₂ rfl
    refine two_outer (cenv := compEnv scope H2.objs.size env) T F hh hx hy (by simp [compEnv, hkind]) hDI hDC hIC (below ax hax).2.1 (below ax hax).1 (below ax hax).2.2 hit hl₁ hacc hns₁ (hs1 _)
      (fun v s₂ m₂ E' hv hn hm hk => hiter _ v s₂ m₂ E' hv hn hm fun b o e => hk b o (below b (Heap.lt_size e)).1 (below b (Heap.lt_size e)).2.1 (below b (Heap.lt_size e)).2.2 (old b o e))
      (fun u s₂ m₂ E' hu hn hm hk => helt _ u s₂ m₂ E' hu hn hm fun b o e => hk b o (below b (Heap.lt_size e)).1 (below b (Heap.lt_size e)).2.1 (below b (Heap.lt_size e)).2.2 (old b o e)) (fun h' tk m' zs hn ha hF hk => ?_) hsz
    exact ⟨m', hn, fun h'' hs'' => hQ _ h'' tk zs hnew (ha.extBut hs''.extBut hDC) hF fun b o e =>
      hs''.extBut b o (below b (Heap.lt_size e)).1 (hk b o (below b (Heap.lt_size e)).1 (below b (Heap.lt_size e)).2.1 (below b (Heap.lt_size e)).2.2 (old b o e))⟩
  exact codeAny_compStart_list (loop _ rfl) (wpAny_pyIter_listiter hit (loop _ rfl))
end
end Mine
end

-- part Q4
section
open PySem PySem.W PySem.Calls PyProof.Rows
set_option maxRecDepth 100000
set_option maxHeartbeats 4000000
namespace Mine
section
variable {prog : Program} {w : World} {A : Around} {E : Value → Shared → Prop} {s : Shared}
open Sem Spec Builtin Builtin.Str in
theorem split_new {x y : Str} {t u : Tok} {Q : Value → Shared → Prop} (hy : (y.length == 0) = false)
    (h : ∀ (l : List (Str × Tok)) k, l.map (·.1) = Txt.split x y → Q (.ref s.heap.objs.size) { s with heap := s.heap.push { cls := .type "list", data := .seq (strValues l).toArray }, toks := k })
    (hsz : x.length + 2 ≤ sizeLine) : wpAny (model prog w) A (call (.builtin "str.split") [.str x t, .str y u]) Q E s := by
  have hn : (partsBetween x (occurrences x y 0 x.length (x.length + 1)) y.length).length ≤ sizeLine := by
    have e1 := StrLaws.occ_length_le x y 0 x.length (x.length + 1)
    rw [length_partsBetween]; omega
  cases h1 : (decide (x.length < y.length) || decide (strKind x < strKind y)) with
  | true =>
    exact call_meets F.slot_str_split (typeIs_str _ _ _) F.entry_str_split (F.args_str_split_2 _ _) (meets_str_split_cannot_occur x y t u h1) (h [(x, t)] s.toks (if_pos h1).symm)
  | false =>
    cases hf : (occurrences x y 0 x.length (x.length + 1)).isEmpty with
    | true =>
      exact call_meets F.slot_str_split (typeIs_str _ _ _) F.entry_str_split (F.args_str_split_2 _ _) (meets_str_split_not_found x y t u h1 hy hf) (h [(x, t)] s.toks ((if_neg (ne_true_of_eq_false h1)).trans (if_pos hf)).symm)
    | false =>
      refine call_meets F.slot_str_split (typeIs_str _ _ _) F.entry_str_split (F.args_str_split_2 _ _) (meets_str_split_sep x y t u h1 hy hf (by omega) hn) ?_
      show wants Q E _ { s with toks := _, heap := s.heap.push { cls := .type "list", data := .seq (strsFrom s.toks (partsBetween x (occurrences x y 0 x.length (x.length + 1)) y.length)).toArray } }
      rw [strsFrom_eq]
      exact h (numbered s.toks _) _ ((numbered_texts _ _).trans ((if_neg (ne_true_of_eq_false h1)).trans (if_neg (ne_true_of_eq_false hf))).symm)

theorem lead_split {env : Env} {p1 p2 p3 p4 : Pos} {k0 : Nat} {C : Addr} {m : Str → Option Value} {l : Str} {t : Tok} {Q : Value → Shared → Prop} (hk : env.scope.kind = .function) (hx : env.kindOf (Str.ofString "lead") = some .local) (hC : env.locals = C)
    (hn : s.heap.Ns C m) (hm : m (Str.ofString "lead") = some (.str l t)) (hl : l.length ≤ 1000)
    (h : ∀ ax its h' tk, StrsAre its (Txt.split l (Str.ofString "\t")) → h'.IsList ax its.toArray → s.heap.get? ax = none → (∀ b o, s.heap.get? b = some o → h'.get? b = some o) → Q (.ref ax) { s with heap := h', toks := tk })
    (hline : (p2.endLine == p4.line) = true) :
    wpAny (model prog w) A (eval (.Call (.Attribute (.Name (Str.ofString "lead") p1) (Str.ofString "split") p2) [.Constant (.str (Str.ofString "\t")) k0 p3] [] p4) env) Q E s := by
  refine Call_method1 (by rfl) (by rfl) hline ?_
  refine wpAny_Name (wpAny_loadName_local hk hx (hC ▸ hn) hm ?_) (by decide)
  refine ⟨"str", "str.split", F.plainAttrs_str, F.slot_str_split, F.type_str_split, typeIs_str _ _ _, (fun _ e => nomatch e), ?_⟩
  refine callWith_builtin (by rfl) (evalArgs_plain (spliced_cons (wpAny_Constant_str (spliced_nil ?_))))
  refine split_new (by decide) (fun ls k e => ?_) (size_ok (by omega))
  refine h _ (strValues ls) _ _ (e ▸ strsAre_of_values ls) ⟨_, Heap.get?_push_size _ rfl, rfl, _, rfl⟩ ?_ fun b o e => Heap.get?_push_of_some _ e
  cases e0 : s.heap.get? s.heap.objs.size with
  | none => rfl
  | some o => exact absurd (Heap.lt_size e0) (Nat.lt_irrefl _)
end
end Mine
end

-- part Q5
section
open PySem PySem.W PySem.Calls PyProof.Rows
set_option maxRecDepth 100000
set_option maxHeartbeats 4000000
namespace Mine
section
variable {prog : Program} {w : World} {A : Around} {E : Value → Shared → Prop} {s : Shared} {K : Frag} {g : Heap} {L a : Addr} {m mg mb : Str → Option Value} {cn : Str} {cs : Scope} {ccd : Value} {cl : List (Str × Addr)} {p : Program} {loose : List Str} {news : List (Addr × Obj)}

theorem len_run {p1 p2 p3 : Pos} {sc : Scope} {C : Addr} {m₂ : Str → Option Value} {r : Str} {t : Tok} {Q : Value → Shared → Prop}
    (F : Fr g L s.heap m) (X : K.In g) (T : TopRead p loose mg mb g) (e : nsIn K mainGlobals (Str.ofString "len") = some none)
    (hk : sc.kind = .function) (hx : sc.names.lookup (Str.ofString "run") = some .local) (hx2 : sc.names.lookup (Str.ofString "len") = some .globalImplicit)
    (hn : s.heap.Ns C m₂) (hm : m₂ (Str.ofString "run") = some (.str r t)) (hl : r.length ≤ 1000)
    (h : ∀ tk t', Q (.int (r.length : Int) t') { s with toks := tk }) :
    wpAny (model prog w) A (eval (.Call (.Name (Str.ofString "len") p1) [.Name (Str.ofString "run") p2] [] p3) (compEnv sc C (envX cn cs L a ccd cl))) Q E s := by
  refine Call_Name1 ?_ (by rfl)
  have hb : mb (Str.ofString "len") = some (.builtin "len") := (T.builtins _ (by decide)).trans (by boot_by_name)
  refine Name_function_global (env := compEnv sc C (envX cn cs L a ccd cl)) hk hx2 (loadGlobal_builtin (env := compEnv sc C (envX cn cs L a ccd cl)) (T.g.keeps F.keep) (mg_none_of X T.g e) (T.b.keeps F.keep) hb ?_) (by decide)
  · refine callWith_builtin (by rfl) (evalArgs_plain (spliced_cons ?_))
    refine wpAny_Name (wpAny_loadName_local hk hx hn hm ?_) (by decide)
    refine spliced_nil ?_
    exact len_str (by omega) (h _ _)

def runLens (ls : List Str) : List Int := ls.flatMap fun l => (Txt.split l (Str.ofString "\t")).map fun r => (r.length : Int)
end
def TRun (ls : List Str) (v : Value) (its : List Value) : Prop := ∃ l t, v = .str l t ∧ l ∈ ls ∧ StrsAre its (Txt.split l (Str.ofString "\t"))
def FRun (u z : Value) : Prop := ∃ r t t', u = .str r t ∧ z = .int (r.length : Int) t'
theorem strs_concat {x y : Str} {t : Tok} : ∀ {l : List Value} {ls : List Str}, StrsAre (l ++ [.str x t]) (ls ++ [y]) → StrsAre l ls ∧ x = y
  | [], [], h => by cases h; exact ⟨.nil, rfl⟩
  | [], z :: ls, h => by have := h.length; simp at this
  | a :: l, [], h => by have := h.length; simp at this
  | a :: l, z :: ls, h => by
    cases h
    rename_i h
    have := strs_concat h
    exact ⟨.cons _ _ this.1, this.2⟩
theorem run_ints : ∀ {its ws : List Value} {rs : List Str}, StrsAre its rs → Paired FRun its ws → IntsAre ws (rs.map fun r => (r.length : Int))
  | _, _, _, .nil, .nil => .nil
  | _, _, _, .cons y t hr, .cons hz hp => by
    obtain ⟨r, t1, t2, e1, rfl⟩ := hz
    cases e1
    exact .cons _ _ (run_ints hr hp)
theorem flat_ints {ls0 : List Str} {items zs : List Value} (h : Flat (TRun ls0) FRun items zs) : ∀ ls, StrsAre items ls → IntsAre zs (runLens ls) := by
  induction h with
  | nil => intro ls hs; cases hs; exact .nil
  | @snoc l zs v its ws _ hT hP ih =>
    intro ls hs
    obtain ⟨x, t, rfl, _, hst⟩ := hT
    have hlen := hs.length
    rcases List.eq_nil_or_concat ls with rfl | ⟨ls', y, rfl⟩
    · simp at hlen
    · rw [List.concat_eq_append] at hs ⊢
      have := strs_concat hs
      obtain ⟨h1, rfl⟩ := this
      have e : runLens (ls' ++ [x]) = runLens ls' ++ (Txt.split x (Str.ofString "\t")).map fun r => (r.length : Int) := by simp [runLens]
      rw [e]
      exact (ih ls' h1).append (run_ints hst hP)
section
variable {prog : Program} {w : World} {A : Around} {E : Value → Shared → Prop} {s : Shared} {K : Frag} {g : Heap} {L a : Addr} {m mg mb : Str → Option Value} {cn : Str} {cs : Scope} {ccd : Value} {cl : List (Str × Addr)} {p : Program} {loose : List Str} {news : List (Addr × Obj)}
theorem runs_comp {p1 p2 p3 p4 p5 p6 p7 p8 p9 p10 p11 : Pos} {k0 : Nat} {sc : Scope} {c lA : Addr} {o : Obj} {lv : List Value} {ls : List Str} {n : Nat} {Q : Value → Shared → Prop}
    (F : Fr g L s.heap m) (N : News g L s.heap news) (X : K.In g) (T : TopRead p loose mg mb g) (e : nsIn K mainGlobals (Str.ofString "len") = some none) (hh : A.handled = none)
    (hc : cl.lookup (Str.ofString "leads") = some c) (hm : (c, o) ∈ news) (hd : o.data = .cell (some (.ref lA))) (hk : cs.kind = .function) (hx : (envX cn cs L a ccd cl).kindOf (Str.ofString "leads") = some .cell)
    (hl : (lA, listOf lv.toArray n) ∈ news) (hls : StrsAre lv ls) (hln : ls.length ≤ 8) (hlen : ∀ x ∈ ls, x.length ≤ 16)
    (hsn : sc.names = [(Str.ofString ".0", .local), (Str.ofString "lead", .local), (Str.ofString "run", .local), (Str.ofString "len", .globalImplicit)]) (hsk : sc.kind = .function) (hline : (p8.endLine == p10.line) = true)
    (h : ∀ h' tk D zs, Fr g L h' m → News g L h' news → h'.IsList D zs.toArray → IntsAre zs (runLens ls) → Q (.ref D) { s with heap := h', toks := tk }) :
    wpAny (model prog w) A (eval (.ListComp (.Call (.Name (Str.ofString "len") p1) [.Name (Str.ofString "run") p2] [] p3) [⟨.Name (Str.ofString "lead") p4, .Name (Str.ofString "leads") p5, [], 0⟩,
      ⟨.Name (Str.ofString "run") p6, .Call (.Attribute (.Name (Str.ofString "lead") p7) (Str.ofString "split") p8) [.Constant (.str (Str.ofString "\t")) k0 p9] [] p10, [], 0⟩] sc p11) (envX cn cs L a ccd cl)) Q E s := by
  have hlx : sc.names.lookup (Str.ofString "lead") = some .local := by rw [hsn]; decide
  have hlr : sc.names.lookup (Str.ofString "run") = some .local := by rw [hsn]; decide
  refine comp_two (TRun ls) FRun hh (by rw [hsn]; decide) (by rw [hsn]; decide) hsk (by rw [hsn]; decide) hlx hlr ?_ (by intro _; rfl) (by intro _ _; rfl)
  refine nameX_C N hc hm hd ?_ hk hx (by decide)
  refine ⟨lA, lv.toArray, rfl, ⟨_, (N _ hl).1, rfl, _, rfl⟩, by have := hls.length; simp; omega, ?_, ?_, ?_⟩
  · intro C v s₂ m₂ E' hv hn hm2 hk2
    have hv' : v ∈ lv := by simpa using hv
    obtain ⟨i, hi⟩ := List.mem_iff_getElem?.mp hv'
    obtain ⟨y, t, rfl, hy⟩ := hls.item i v hi
    have hmem : y ∈ ls := List.mem_of_getElem? hy
    refine lead_split (env := compEnv sc C (envX cn cs L a ccd cl)) hsk hlx rfl hn hm2 (by have := hlen y hmem; omega) (fun ax its h' tk hst hax hax0 hkk => ?_) hline
    refine ⟨ax, its, rfl, ⟨y, t, rfl, hmem, hst⟩, hax, hax0, ?_, h', tk, rfl, hkk⟩
    have h1 := split_le y (Str.ofString "\t")
    have h2 := hlen y hmem
    have h3 := hst.length
    omega
  · rintro C u s₂ m₂ E' ⟨v, its, hv, ⟨l, t, rfl, hl, hst⟩, hu⟩ hn hm2 hk2
    obtain ⟨i, hi⟩ := List.mem_iff_getElem?.mp hu
    obtain ⟨y, t', rfl, hy⟩ := hst.item i u hi
    have hy1 := split_short (List.mem_of_getElem? hy)
    refine len_run (F.keeps hk2) X T e hsk hlr (by rw [hsn]; decide) hn hm2 (by have := hlen l hl; omega) fun tk t2 => ⟨⟨y, t', t2, rfl, rfl⟩, _, _, rfl, fun _ _ e => e⟩
  · intro D h' tk zs _ hD hF hkk
    exact h h' tk D zs (F.keeps hkk) (N.grown hkk) hD (flat_ints hF ls (by simpa using hls))
theorem runLens_mem {ls : List Str} {z : Int} : z ∈ runLens ls ↔ ∃ l ∈ ls, ∃ r ∈ Txt.split l (Str.ofString "\t"), z = (r.length : Int) := by
  unfold runLens
  simp only [List.mem_flatMap, List.mem_map]
  constructor
  · rintro ⟨l, hl, r, hr, e⟩; exact ⟨l, hl, r, hr, e.symm⟩
  · rintro ⟨l, hl, r, hr, e⟩; exact ⟨l, hl, r, hr, e.symm⟩
theorem max_runs {ls : List Str} {M : Int} (h1 : M ∈ runLens ls) (h2 : ∀ a, a ∈ runLens ls → a ≤ M) (hlen : ∀ x ∈ ls, x.length ≤ 16) : ∃ k : Nat, M = (k : Int) ∧ k ≤ 16 ∧ ∀ x ∈ ls, ∀ p ∈ Txt.split x (Str.ofString "\t"), p.length ≤ k := by
  obtain ⟨l, hl, r, hr, rfl⟩ := runLens_mem.mp h1
  refine ⟨r.length, rfl, Nat.le_trans (split_short hr) (hlen l hl), fun x hx p hp => ?_⟩
  have := h2 _ (runLens_mem.mpr ⟨x, hx, p, hp, rfl⟩)
  omega
theorem runs_ne {ls : List Str} (h : 1 ≤ ls.length) : 0 < (runLens ls).length := by
  cases ls with
  | nil => simp at h
  | cons l r =>
    have h1 := split_pos l (Str.ofString "\t")
    cases hs : Txt.split l (Str.ofString "\t") with
    | nil => rw [hs] at h1; simp at h1
    | cons p q =>
      exact List.length_pos_of_mem (runLens_mem.mpr ⟨l, .head _, p, by rw [hs]; exact .head _, rfl⟩)
end
end Mine
end

-- part Q6
section
open PySem PySem.W PySem.Calls PyProof.Rows
set_option maxRecDepth 100000
set_option maxHeartbeats 4000000
namespace Mine
def IsRangeIt (h : Heap) (I : Addr) (x left step : Int) : Prop := IsRangeIter h I x left step
theorem none_of_new {h : Heap} {a : Addr} (ha : h.objs.size ≤ a) : h.get? a = none := by
  cases e : h.get? a with
  | none => rfl
  | some o => exact absurd (Heap.lt_size e) (Nat.not_lt.mpr ha)
theorem ne_of_get {h : Heap} {a b : Addr} {o : Obj} (ha : h.get? a = none) (hb : h.get? b = some o) : a ≠ b := fun q => by rw [q, hb] at ha; cases ha
section
variable {prog : Program} {w : World} {A : Around} {R : Result → Shared → Prop} {s : Shared}
/-- a comprehension over a range whose elements make objects; these are kept in a ledger -/
theorem loop_led {elt iter : Expr} {x : Str} {px : Pos} {scope : Scope} {pos : Pos} {I D : Addr} {cenv : Env} {a₀ c₀ : Int} {n : Nat} {m : Str → Option Value} (J : Nat → List Value → List (Addr × Obj) → Prop)
    (hh : A.handled = none) (hx : cenv.kindOf x = some .local) (hp : (cenv.scope.kind == .class || (cenv.scope.kind == .module && cenv.locals != cenv.globals)) = false)
    (hDI : D ≠ I) (hDC : D ≠ cenv.locals) (hIC : I ≠ cenv.locals)
    (hit : IsRangeIter s.heap I (a₀ + (0 : Nat) * c₀) ((n : Int) - (0 : Nat)) c₀) (hacc : s.heap.PlainList D #[]) (hn : s.heap.Ns cenv.locals m) (hJ : J 0 [] [])
    (helt : ∀ i t ys led s₂ m₂ E', i < n → J i ys led → (∀ p ∈ led, s₂.heap.get? p.1 = some p.2) → s₂.heap.Ns cenv.locals m₂ → m₂ x = some (.int (a₀ + (i : Nat) * c₀) t) → (∀ b o, b ≠ cenv.locals → b ≠ I → b ≠ D → s.heap.get? b = some o → s₂.heap.get? b = some o) →
      wpAny (model prog w) A (eval elt cenv) (fun y s₃ => ∃ led', J (i + 1) (ys ++ [y]) led' ∧ (∀ p ∈ led', s₃.heap.get? p.1 = some p.2) ∧ (∀ p ∈ led', p ∈ led ∨ s₂.heap.get? p.1 = none) ∧ Keeps s₂ s₃) E' s₂)
    (hR : ∀ h' tk m' ys led, h'.Ns cenv.locals m' → h'.PlainList D ys.toArray → J n ys led → (∀ p ∈ led, h'.get? p.1 = some p.2) → (∀ p ∈ led, s.heap.get? p.1 = none) → (∀ p ∈ led, p.1 ≠ D ∧ p.1 ≠ cenv.locals) →
      (∀ b o, b ≠ cenv.locals → b ≠ I → b ≠ D → s.heap.get? b = some o → h'.get? b = some o) → R (.ok .next) { s with heap := h', toks := tk })
    (hsz : n ≤ 1000) :
    codeAny (model prog w) A (.compLoop (.ListComp elt [⟨.Name x px, iter, [], 0⟩] scope pos) 0 (.ref I) (.ref D) cenv) R s := by
  have W : Walks prog w A I [I] [I] n (fun i v => i < n ∧ ∃ t, v = .int (a₀ + i * c₀) t) (fun i h => IsRangeIter h I (a₀ + (i : Nat) * c₀) ((n : Int) - (i : Nat)) c₀) := (Walks.range hh _ a₀ c₀ n).bound
  refine codeAny_compLoop_tests
    (fun k s' => ∃ h' tk m' ys led i, s' = { s with heap := h', toks := tk } ∧ IsRangeIter h' I (a₀ + (i : Nat) * c₀) ((n : Int) - (i : Nat)) c₀ ∧ h'.PlainList D ys.toArray ∧ h'.Ns cenv.locals m' ∧ J i ys led ∧ ys.length = i ∧ i ≤ n ∧ k = n + 1 - i ∧
      (∀ p ∈ led, h'.get? p.1 = some p.2) ∧ (∀ p ∈ led, s.heap.get? p.1 = none) ∧ (∀ p ∈ led, p.1 ≠ I ∧ p.1 ≠ D ∧ p.1 ≠ cenv.locals) ∧
      (∀ b o, b ≠ cenv.locals → b ≠ I → b ≠ D → s.heap.get? b = some o → h'.get? b = some o)) ?_ (n + 1)
    ⟨s.heap, s.toks, m, [], [], 0, rfl, hit, hacc, hn, hJ, rfl, Nat.zero_le _, rfl, fun _ h => (nomatch h), fun _ h => (nomatch h), fun _ h => (nomatch h), fun _ _ _ _ _ e => e⟩
  rintro k s' ⟨H, tk, m', ys, led, i, rfl, hst, hacc', hn', hJi, hlen, hi, rfl, hled, hnew, hoff, hk⟩
  by_cases hlt : i < n
  · refine W.item i _ _ _ hlt hst fun v h₁ tk₁ hPv hst₁ hk₁ => ?_
    obtain ⟨_, t, rfl⟩ := hPv
    have hk₁' : ∀ b o, b ≠ I → H.get? b = some o → h₁.get? b = some o := fun b o hb e => hk₁ b o (fun hm => hb (List.mem_singleton.mp hm)) e
    refine wpAny_assign_Name (wpAny_storeName_local hx (hn'.at' fun o e => hk₁' _ o (Ne.symm hIC) e) (fun h₂ hn₂ hs₂ => ?_) hp)
    have up₂ : ∀ b o, b ≠ cenv.locals → b ≠ I → H.get? b = some o → h₂.get? b = some o := fun b o hbC hbI e => hs₂.extBut b o hbC (hk₁' b o hbI e)
    have hst₂ : IsRangeIter h₂ I (a₀ + ((i + 1 : Nat) : Nat) * c₀) ((n : Int) - ((i + 1 : Nat) : Nat)) c₀ := W.frame _ _ _ hst₁ fun b hb o e => hs₂.extBut b o (by rw [List.mem_singleton.mp hb]; exact hIC) e
    have hled₂ : ∀ p ∈ led, h₂.get? p.1 = some p.2 := fun p hp => up₂ p.1 p.2 (hoff p hp).2.2 (hoff p hp).1 (hled p hp)
    simp only [List.forIn_nil]
    refine wpAny_pure ?_
    rw [if_pos rfl]
    refine wpAny_mono (helt i t ys led _ _ _ hlt hJi hled₂ hn₂ (by simp) fun b o hbC hbI hbD e => up₂ b o hbC hbI (hk b o hbC hbI hbD e)) (fun y s₃ h₃ => ?_) fun _ _ e => e
    obtain ⟨led', hJ', hled', hfrom, h₃, tk₃, rfl, hk₃⟩ := h₃
    obtain ⟨nD, hD⟩ := hacc'
    have hD₂ := up₂ D _ hDC hDI hD
    have hacc₃ : h₃.PlainList D ys.toArray := ⟨nD, hk₃ _ _ hD₂⟩
    have hoff' : ∀ p ∈ led', p.1 ≠ I ∧ p.1 ≠ D ∧ p.1 ≠ cenv.locals := fun p hp => by
      rcases hfrom p hp with h | h
      · exact hoff p h
      · obtain ⟨_, _, _, hoC, _⟩ := hn₂
        have h' : h₂.get? p.1 = none := h
        exact ⟨ne_of_get h' hst₂, ne_of_get h' hD₂, ne_of_get h' hoC⟩
    have hnew' : ∀ p ∈ led', s.heap.get? p.1 = none := fun p hp => by
      rcases hfrom p hp with h | h
      · exact hnew p h
      · cases e : s.heap.get? p.1 with
        | none => rfl
        | some o =>
          have h' : h₂.get? p.1 = none := h
          rw [up₂ _ _ (hoff' p hp).2.2 (hoff' p hp).1 (hk _ _ (hoff' p hp).2.2 (hoff' p hp).1 (hoff' p hp).2.1 e)] at h'; cases h'
    refine wpAny_list_append_plain (hsz := size_ok (by simp; omega)) hacc₃ fun h₅ hl₅ hs₅ => ?_
    refine ⟨n + 1 - (i + 1), by omega, h₅, tk₃, _, ys ++ [y], led', i + 1, rfl, ?_, by simpa using hl₅, (hn₂.keeps hk₃).sameBut hs₅ (Ne.symm hDC), hJ', by simp [hlen], hlt, rfl, ?_, hnew', hoff', fun b o hbC hbI hbD e => hs₅.extBut b o hbD (hk₃ b o (up₂ b o hbC hbI (hk b o hbC hbI hbD e)))⟩
    · exact W.frame _ _ _ hst₂ fun b hb o e => hs₅.extBut b o (by rw [List.mem_singleton.mp hb]; exact Ne.symm hDI) (hk₃ b o e)
    · exact fun p hp => hs₅.extBut p.1 p.2 (hoff' p hp).2.1 (hled' p hp)
  · have hin : i = n := by omega
    subst hin
    refine W.done _ _ _ hst fun h₁ tk₁ hk₁ => ?_
    have hk₁' : ∀ b o, b ≠ I → H.get? b = some o → h₁.get? b = some o := fun b o hb e => hk₁ b o (fun hm => hb (List.mem_singleton.mp hm)) e
    exact hR h₁ tk₁ m' ys led (hn'.at' fun o e => hk₁' _ o (Ne.symm hIC) e) (hacc'.at fun o e => hk₁' _ o hDI e) hJi (fun p hp => hk₁' _ _ (hoff p hp).1 (hled p hp)) hnew (fun p hp => (hoff p hp).2) fun b o hbC hbI hbD e => hk₁' b o hbI (hk b o hbC hbI hbD e)
end
section
variable {prog : Program} {w : World} {A : Around} {E : Value → Shared → Prop} {s : Shared} {env : Env}
theorem assign_led {elt iter : Expr} {x y : Str} {px py : Pos} {scope : Scope} {cl : List (Str × Addr)} {pos spos : Pos} {Q : Flow → Shared → Prop} (J : Nat → List Value → List (Addr × Obj) → Prop)
    (hh : A.handled = none) (hsw : swapsWith (.ListComp elt [⟨.Name x px, iter, [], 0⟩] scope pos) (some (.Name y py)) spos.line env = pure true)
    (hclos : closureFor scope env = pure cl) (hcell : ∀ z ∈ scope.names, z.2 ≠ .cell) (hkind : scope.kind = .function)
    (hnames : ∀ z ∈ scope.names, z.2 = .local → scope.names.lookup z.1 = some .local) (hx : scope.names.lookup x = some .local)
    (hy : env.kindOf y = some .local) (hp : (env.scope.kind == .class || (env.scope.kind == .module && env.locals != env.globals)) = false)
    (h : wpAny (model prog w) A (eval iter env) (fun xv s₁ => ∃ r a₀ b₀ c₀ t₀ u₀ v₀ m, ∃ n : Nat, xv = .ref r ∧ IsRange s₁.heap r a₀ b₀ c₀ t₀ u₀ v₀ ∧ Builtin.Range.small a₀ b₀ c₀ = true ∧ Builtin.Range.rangeSize a₀ b₀ c₀ = (n : Int) ∧ n ≤ 1000 ∧ s₁.heap.Ns env.locals m ∧ J 0 [] [] ∧
      (∀ C i t ys led s₂ m₂ E', i < n → J i ys led → (∀ p ∈ led, s₂.heap.get? p.1 = some p.2) → s₂.heap.Ns C m₂ → m₂ x = some (.int (a₀ + (i : Nat) * c₀) t) → (∀ b o, s₁.heap.get? b = some o → s₂.heap.get? b = some o) →
        wpAny (model prog w) A (eval elt (compEnvC scope cl C env)) (fun y s₃ => ∃ led', J (i + 1) (ys ++ [y]) led' ∧ (∀ p ∈ led', s₃.heap.get? p.1 = some p.2) ∧ (∀ p ∈ led', p ∈ led ∨ s₂.heap.get? p.1 = none) ∧ Keeps s₂ s₃) E' s₂) ∧
      (∀ D k h' tk ys led, s₁.heap.get? D = none → J n ys led → h'.get? D = some (listOf ys.toArray k) → (∀ p ∈ led, h'.get? p.1 = some p.2) → (∀ p ∈ led, s₁.heap.get? p.1 = none) → (∀ p ∈ led, p.1 ≠ D) →
        h'.Ns env.locals (fun z => if z = y then some (.ref D) else m z) → (∀ b o, b ≠ env.locals → s₁.heap.get? b = some o → h'.get? b = some o) → Q .next { s₁ with heap := h', toks := tk })) E s)
    (hs : ∀ x, foldedSetIterable iter env x = pure x) :
    wpAny (model prog w) A (exec (.Assign [.Name y py] (.ListComp elt [⟨.Name x px, iter, [], 0⟩] scope pos) spos) env) Q E s := by
  rw [exec_Assign_Name_used _ _ _ _ hsw]
  refine wpAny_bind (wpAny_standAt (wpAny_bind ?_))
  show wpAny _ A (do let _ ← comprehension (.ListComp elt [⟨.Name x px, iter, [], 0⟩] scope pos) scope env _ (newList []) false (eval iter env) (some (assign (.Name y py) env))) _ _ s
  refine wpAny_bind (wpAny_mono (wpAny_comprehension_free (use := some (assign (.Name y py) env)) (Q := fun _ s' => Q .next s') rfl hs hclos hkind hnames
    (wpAny_mono h (fun xv s₁ h₁ => ?_) fun _ _ e => e)) (fun _ s' hq => wpAny_pure (wpAny_pure hq)) fun _ _ e => e)
  obtain ⟨r, a₀, b₀, c₀, t₀, u₀, v₀, m, n, rfl, hr, hsmall, hn, hsz, hns, hJ, helt, hQ⟩ := h₁
  refine wpAny_pyIter_range hr hsmall ?_
  rw [hn]
  generalize hH1 : s₁.heap.push { cls := .type "range_iterator", data := .fields #[rawInt a₀, rawInt (n : Int), rawInt c₀] } = H1
  refine wpAny_newObj_type (wpAny_newFunctionEnv hcell (by intro y hy; simp at hy) (fun h₁ hns₁ hsb₁ => ?_) hkind)
  dsimp only at hns₁ hsb₁ ⊢
  have hD : H1.objs.size = s₁.heap.objs.size + 1 := by rw [← hH1, Heap.size_push]
  generalize hH2 : H1.push { cls := .type "list", dict := none, data := .seq ([] : List Value).toArray } = H2 at hns₁ hsb₁ ⊢
  have hC : H2.objs.size = s₁.heap.objs.size + 2 := by rw [← hH2, Heap.size_push, hD]
  have hDI : H1.objs.size ≠ s₁.heap.objs.size := by rw [hD]; exact Nat.succ_ne_self _
  have hDC : H1.objs.size ≠ H2.objs.size := by rw [hD, hC]; exact Nat.ne_of_lt (Nat.lt_succ_self _)
  have hIC : s₁.heap.objs.size ≠ H2.objs.size := by rw [hC]; exact Nat.ne_of_lt (Nat.lt_succ_of_lt (Nat.lt_succ_self _))
  have below : ∀ b, b < s₁.heap.objs.size → b ≠ H2.objs.size ∧ b ≠ s₁.heap.objs.size ∧ b ≠ H1.objs.size := fun b hb =>
    ⟨by rw [hC]; exact Nat.ne_of_lt (Nat.lt_succ_of_lt (Nat.lt_succ_of_lt hb)), Nat.ne_of_lt hb, by rw [hD]; exact Nat.ne_of_lt (Nat.lt_succ_of_lt hb)⟩
  have old : ∀ b o, s₁.heap.get? b = some o → h₁.get? b = some o := fun b o e =>
    hsb₁.extBut b o (below b (Heap.lt_size e)).1 (Heap.get?_push_of_some _ (hH2 ▸ Heap.get?_push_of_some _ (hH1 ▸ Heap.get?_push_of_some _ e)))
  have hit : IsRangeIter h₁ s₁.heap.objs.size (a₀ + (0 : Nat) * c₀) ((n : Int) - (0 : Nat)) c₀ := by
    have : h₁.get? s₁.heap.objs.size = some { cls := .type "range_iterator", data := .fields #[rawInt a₀, rawInt (n : Int), rawInt c₀] } := hsb₁.extBut _ _ hIC (Heap.get?_push_of_some _ (hH2 ▸ Heap.get?_push_of_some _ (hH1 ▸ Heap.get?_push_size _ rfl)))
    show IsRangeIter _ _ _ _ _
    simpa using this
  have hacc : h₁.PlainList H1.objs.size #[] := ⟨0, hsb₁.extBut _ _ hDC (Heap.get?_push_of_some _ (hH2 ▸ Heap.get?_push_size _ rfl))⟩
  have hgD : s₁.heap.get? H1.objs.size = none := none_of_new (by rw [hD]; exact Nat.le_succ _)
  have hgC : s₁.heap.get? H2.objs.size = none := none_of_new (by rw [hC]; exact Nat.le_trans (Nat.le_succ _) (Nat.le_succ _))
  have hLne : env.locals < s₁.heap.objs.size := hns.lt
  have loop : ∀ s₃ : Shared, s₃ = { s₁ with heap := h₁, toks := s₁.toks + ([] : List (Str × Value)).length } →
      codeAny (model prog w) A (.compLoop (.ListComp elt [⟨.Name x px, iter, [], 0⟩] scope pos) 0 (.ref s₁.heap.objs.size) (.ref H1.objs.size) (compEnvC scope cl H2.objs.size env))
        (compPost (model prog w) A E (some (assign (.Name y py) env)) (fun _ s' => Q .next s') (.ref H1.objs.size) H2.objs.size) s₃ := by
    rintro s₃ rfl
    refine loop_led (cenv := compEnvC scope cl H2.objs.size env) J hh (lookup_relabel_local hx) (by simp [compEnvC, relabel, hkind]) hDI hDC hIC hit hacc hns₁ hJ
      (fun i t ys led s₂ m₂ E' hi hJi hled hn hm hk => helt _ i t ys led s₂ m₂ E' hi hJi hled hn hm fun b o e => hk b o (below b (Heap.lt_size e)).1 (below b (Heap.lt_size e)).2.1 (below b (Heap.lt_size e)).2.2 (old b o e))
      (fun h' tk m' ys led hnC hpl hJn hled hnew hoff hk => ?_) hsz
    have up : ∀ b o, s₁.heap.get? b = some o → h'.get? b = some o := fun b o e => hk b o (below b (Heap.lt_size e)).1 (below b (Heap.lt_size e)).2.1 (below b (Heap.lt_size e)).2.2 (old b o e)
    show wpAny _ A (assign (.Name y py) env (.ref H1.objs.size)) _ _ _
    refine wpAny_assign_Name (wpAny_storeName_local hy (hns.at' fun o e => up _ o e) (fun h₂ hn₂ hs₂ => ?_) hp)
    have hLC : env.locals ≠ H2.objs.size := (below _ hLne).1
    have hLD : env.locals ≠ H1.objs.size := (below _ hLne).2.2
    refine ⟨m', hnC.sameBut hs₂ (Ne.symm hLC), fun h₃ hs₃ => ?_⟩
    obtain ⟨kD, hkD⟩ := hpl
    have hnone : ∀ p ∈ led, s₁.heap.get? p.1 = none := fun p hp => by
      cases e : s₁.heap.get? p.1 with
      | none => rfl
      | some o => have := old _ _ e; rw [hnew p hp] at this; cases this
    obtain ⟨oL, _, _, hoL, _⟩ := id hns
    have hne : ∀ p ∈ led, p.1 ≠ env.locals := fun p hp => ne_of_get (hnone p hp) hoL
    refine hQ _ kD h₃ _ ys led hgD hJn (hs₃.extBut _ _ hDC (hs₂.extBut _ _ (Ne.symm hLD) hkD)) (fun p hp => hs₃.extBut _ _ (hoff p hp).2 (hs₂.extBut _ _ (hne p hp) (hled p hp))) hnone (fun p hp => (hoff p hp).1) (hn₂.sameBut hs₃ hLC) fun b o hbL e =>
      hs₃.extBut b o (below b (Heap.lt_size e)).1 (hs₂.extBut b o hbL (up b o e))
  exact codeAny_compStart_list (loop _ rfl) (wpAny_pyIter_rangeiter hit (loop _ rfl))
end
end Mine
end

-- part Q7
section
open PySem PySem.W PySem.Calls PyProof.Rows
set_option maxRecDepth 100000
set_option maxHeartbeats 4000000
namespace Mine
inductive ReadersAre (ls : List Str) : Nat → List Value → List (Addr × Obj) → Prop
  | nil : ReadersAre ls 0 [] []
  | cons {i ys led led' o k av} : ReadersAre ls i ys led → (∀ p ∈ led, p ∈ led') → (o, listOf av.toArray k) ∈ led' → AnsAre led' ls (1 + (i : Int) * 1) ls.length av → ReadersAre ls (i + 1) (ys ++ [.ref o]) led'
theorem ReadersAre.length {ls : List Str} {n : Nat} {ys : List Value} {led : List (Addr × Obj)} (h : ReadersAre ls n ys led) : ys.length = n := by
  induction h with
  | nil => rfl
  | cons _ _ _ _ ih => simp [ih]
theorem ReadersAre.at {ls : List Str} {n : Nat} {ys : List Value} {led : List (Addr × Obj)} (h : ReadersAre ls n ys led) : ∀ i, i < n → ∃ o k av, ys[i]? = some (.ref o) ∧ (o, listOf av.toArray k) ∈ led ∧ AnsAre led ls (1 + (i : Int) * 1) ls.length av := by
  induction h with
  | nil => intro i hi; exact absurd hi (Nat.not_lt_zero _)
  | @cons j ys led led' o k av hr hs hm ha ih =>
    intro i hi
    have hlen := hr.length
    rcases Nat.lt_or_ge i j with h1 | h1
    · obtain ⟨o', k', av', e1, e2, e3⟩ := ih i h1
      exact ⟨o', k', av', by rw [List.getElem?_append_left (by omega)]; exact e1, hs _ e2, e3.mono hs⟩
    · have : i = j := by omega
      subst this
      exact ⟨o, k, av, by rw [List.getElem?_append_right (by omega), hlen, Nat.sub_self]; rfl, hm, ha⟩
section
variable {w : World} {A : Around} {E : Value → Shared → Prop} {s : Shared} {g : Heap} {L a : Addr} {m mg mb : Str → Option Value} {cn : Str} {cs : Scope} {ccd : Value} {cl cl' : List (Str × Addr)} {news : List (Addr × Obj)}
theorem readers_elt {p1 p2 p3 p4 : Pos} {sc : Scope} {C c lA : Addr} {o ob : Obj} {fd : FuncData} {lv : List Value} {ls : List Str} {n i : Nat} {t : Tok} {m₂ : Str → Option Value} {ys : List Value} {led : List (Addr × Obj)} {s₂ : Shared}
    (F : Fr g L s.heap m) (N : News g L s.heap news) (X : (hd.heap_39 w.params).In g) (T : TopRead lawView Loo mg mb g) (hdep : A.depth + 40 < recursionLimit) (hh : A.handled = none)
    (e : nsIn (hd.heap_39 w.params) mainGlobals (Str.ofString "_law_above") = some (some (.ref 202))) (hob : (hd.heap_39 w.params).lookup 202 = some ob) (hfd : ob.data = .func fd)
    (hk : sc.kind = .function) (hx1 : (compEnvC sc cl' C (envX cn cs L a ccd cl)).kindOf (Str.ofString "_law_above") = some .globalImplicit) (hx2 : (compEnvC sc cl' C (envX cn cs L a ccd cl)).kindOf (Str.ofString "leads") = some .cell)
    (hx3 : (compEnvC sc cl' C (envX cn cs L a ccd cl)).kindOf (Str.ofString "size") = some .local)
    (hc : cl'.lookup (Str.ofString "leads") = some c) (hm : (c, o) ∈ news) (hd : o.data = .cell (some (.ref lA)))
    (hl : (lA, listOf lv.toArray n) ∈ news) (hls : StrsAre lv ls) (hln : Small ls.length) (hlen : ∀ x ∈ ls, x.length ≤ 60) (hi : i ≤ 60)
    (hJ : ReadersAre ls i ys led) (hled : ∀ p ∈ led, s₂.heap.get? p.1 = some p.2) (hn : s₂.heap.Ns C m₂) (hm2 : m₂ (Str.ofString "size") = some (.int (1 + (i : Nat) * 1) t)) (hk2 : ∀ b o, s.heap.get? b = some o → s₂.heap.get? b = some o) :
    wpAny (model PySem.Challenge.rw_ij0041_01.row.prog w) A (eval (.Call (.Name (Str.ofString "_law_above") p1) [.Name (Str.ofString "leads") p2, .Name (Str.ofString "size") p3] [] p4) (compEnvC sc cl' C (envX cn cs L a ccd cl)))
      (fun y s₃ => ∃ led', ReadersAre ls (i + 1) (ys ++ [y]) led' ∧ (∀ p ∈ led', s₃.heap.get? p.1 = some p.2) ∧ (∀ p ∈ led', p ∈ led ∨ s₂.heap.get? p.1 = none) ∧ Keeps s₂ s₃) E s₂ := by
  have F2 := F.keeps hk2
  have N2 := N.grown hk2
  refine Call_ ?_
  refine nameG_K F2 X T e ?_ rfl hk hx1 (by decide)
  refine callWith_def (o := ob) (fd := fd) hfd ?_
  refine args_cons ?_
  refine wpAny_Name (wpAny_loadName_cell (env := compEnvC sc cl' C (envX cn cs L a ccd cl)) hk hx2 hc ⟨o, N2.get hm, hd⟩ ?_) (by decide)
  refine args_cons ?_
  refine wpAny_Name (wpAny_loadName_local (env := compEnvC sc cl' C (envX cn cs L a ccd cl)) hk hx3 hn hm2 ?_) (by decide)
  refine args_nil ?_
  refine ⟨F2.keep _ _ (X _ _ hob), ?_⟩
  refine wpAny_call (above_spec (X.keeps F2.keep) (T.keeps F2.keep) hdep hh lA lv ls _ _ (by omega) (by omega) ⟨_, (N2 _ hl).1, rfl, _, rfl⟩ hls hln hlen fun h' tk o' av k rest hkk hf ho ha hr => ?_)
  refine ⟨(o', listOf av.toArray k) :: (rest ++ led), .cons (led := led) (k := k) (av := av) hJ (fun p hp => .tail _ (List.mem_append_right _ hp)) (.head _) (ha.mono fun p hp => .tail _ (List.mem_append_left _ hp)), ?_, ?_, h', tk, rfl, hkk⟩
  · intro p hp
    rcases List.mem_cons.mp hp with rfl | hp
    · exact ho
    · rcases List.mem_append.mp hp with hp | hp
      · exact (hr p hp).1
      · exact hkk _ _ (hled p hp)
  · intro p hp
    rcases List.mem_cons.mp hp with rfl | hp
    · exact .inr hf
    · rcases List.mem_append.mp hp with hp | hp
      · exact .inr (hr p hp).2
      · exact .inl hp
theorem readers_use {iter : Expr} {px py p1 p2 p3 p4 pos spos : Pos} {sc : Scope} {c lA : Addr} {o ob : Obj} {fd : FuncData} {lv : List Value} {ls : List Str} {n lg : Nat} {Q : Flow → Shared → Prop}
    (F : Fr g L s.heap m) (N : News g L s.heap news) (X : (hd.heap_39 w.params).In g) (T : TopRead lawView Loo mg mb g) (hdep : A.depth + 40 < recursionLimit) (hh : A.handled = none)
    (e : nsIn (hd.heap_39 w.params) mainGlobals (Str.ofString "_law_above") = some (some (.ref 202))) (hob : (hd.heap_39 w.params).lookup 202 = some ob) (hfd : ob.data = .func fd)
    (hsw : swapsWith (.ListComp (.Call (.Name (Str.ofString "_law_above") p1) [.Name (Str.ofString "leads") p2, .Name (Str.ofString "size") p3] [] p4) [⟨.Name (Str.ofString "size") px, iter, [], 0⟩] sc pos) (some (.Name (Str.ofString "readers") py)) spos.line (envOfC cn cs L a ccd) = pure true)
    (hclos : closureFor sc (envOfC cn cs L a ccd) = pure cl') (hcell : ∀ z ∈ sc.names, z.2 ≠ .cell) (hk : sc.kind = .function) (hkc : cs.kind = .function)
    (hnames : ∀ z ∈ sc.names, z.2 = .local → sc.names.lookup z.1 = some .local) (hx : sc.names.lookup (Str.ofString "size") = some .local)
    (hy : (envOfC cn cs L a ccd).kindOf (Str.ofString "readers") = some .local)
    (hx1 : ∀ C, (compEnvC sc cl' C (envOfC cn cs L a ccd)).kindOf (Str.ofString "_law_above") = some .globalImplicit) (hx2 : ∀ C, (compEnvC sc cl' C (envOfC cn cs L a ccd)).kindOf (Str.ofString "leads") = some .cell)
    (hc : cl'.lookup (Str.ofString "leads") = some c) (hm : (c, o) ∈ news) (hd : o.data = .cell (some (.ref lA)))
    (hl : (lA, listOf lv.toArray n) ∈ news) (hls : StrsAre lv ls) (hln : Small ls.length) (hlen : ∀ x ∈ ls, x.length ≤ 60) (hlg : lg ≤ 50)
    (hs : ∀ x, foldedSetIterable iter (envOfC cn cs L a ccd) x = pure x)
    (hiter : wpAny (model PySem.Challenge.rw_ij0041_01.row.prog w) A (eval iter (envOfC cn cs L a ccd)) (fun xv s₁ => Stop (∃ r t₀ u₀ v₀ h' tk, xv = .ref r ∧ s₁ = { s with heap := h', toks := tk } ∧ IsRange h' r 1 ((lg : Int) + 2) 1 t₀ u₀ v₀ ∧ Fr g L h' m ∧ News g L h' news)) E s)
    (h : ∀ D k h' tk ys led, Fr g L h' (fun z => if z = Str.ofString "readers" then some (.ref D) else m z) → News g L h' ((D, listOf ys.toArray k) :: (led ++ news)) → ReadersAre ls (lg + 1) ys led → (∀ p ∈ news, D ≠ p.1) → (∀ p ∈ led, p.1 ≠ D) → (∀ p ∈ led, ∀ q ∈ news, p.1 ≠ q.1) → Q .next { s with heap := h', toks := tk }) :
    wpAny (model PySem.Challenge.rw_ij0041_01.row.prog w) A (exec (.Assign [.Name (Str.ofString "readers") py] (.ListComp (.Call (.Name (Str.ofString "_law_above") p1) [.Name (Str.ofString "leads") p2, .Name (Str.ofString "size") p3] [] p4) [⟨.Name (Str.ofString "size") px, iter, [], 0⟩] sc pos) spos) (envOfC cn cs L a ccd)) Q E s := by
  refine assign_led (ReadersAre ls) hh hsw hclos hcell hk hnames hx hy (by show (cs.kind == .class || (cs.kind == .module && L != mainGlobals)) = false; rw [hkc]; rfl) (wpAny_mono hiter (fun xv s₁ h₁ => ?_) fun _ _ e => e) hs
  obtain ⟨r, t₀, u₀, v₀, h₁, tk₁, rfl, rfl, hr, F1, N1⟩ := h₁
  refine ⟨r, 1, (lg : Int) + 2, 1, t₀, u₀, v₀, m, lg + 1, rfl, hr, small_one (by omega) (by omega) (by omega) (by omega), (rangeSize_nat _ _).trans (by omega), by omega, F1.ns, .nil, ?_, ?_⟩
  · intro C i t ys led s₂ m₂ E' hi hJ hled hn hm2 hk2
    exact readers_elt (cl := cellsFrom (L + 1) cs.names []) (s := { s with heap := h₁, toks := tk₁ }) F1 N1 X T hdep hh e hob hfd hk (hx1 C) (hx2 C) (lookup_relabel_local hx) hc hm hd hl hls hln hlen (by omega) hJ hled hn hm2 hk2
  · intro D k h' tk ys led hD hJ hDl hled hnew hoff hns hkk
    have old : ∀ p ∈ news, h'.get? p.1 = some p.2 := fun p hp => hkk _ _ (N1 p hp).2.1 (N1 p hp).1
    have gnone : ∀ b, h₁.get? b = none → g.get? b = none := fun b hb => by
      cases e : g.get? b with
      | none => rfl
      | some o => have := F1.keep _ _ e; rw [hb] at this; cases this
    obtain ⟨oL, _, _, hoL, _⟩ := id F1.ns
    refine h D k h' tk ys led ⟨hns, fun b o e => hkk b o (fun q => absurd (Heap.lt_size e) (by rw [q]; exact Nat.not_lt.mpr F1.above)) (F1.keep b o e), F1.above⟩ ?_ hJ (fun p hp => ne_of_get hD (N1 p hp).1) hoff fun p hp q hq => ne_of_get (hnew p hp) (N1 q hq).1
    intro p hp
    rcases List.mem_cons.mp hp with rfl | hp
    · exact ⟨hDl, ne_of_get hD hoL, gnone _ hD⟩
    · rcases List.mem_append.mp hp with hp | hp
      · exact ⟨hled p hp, ne_of_get (hnew p hp) hoL, gnone _ (hnew p hp)⟩
      · exact ⟨old p hp, (N1 p hp).2⟩
end
end Mine
end

-- part Q8
section
open PySem PySem.W PySem.Calls PyProof.Rows
set_option maxRecDepth 100000
set_option maxHeartbeats 4000000
namespace Mine
section
variable {prog : Program} {w : World} {A : Around} {E : Value → Shared → Prop} {s : Shared} {env : Env} {R : Result → Shared → Prop}
theorem for_range_any {target : Expr} {body : List Stmt} {r : Addr} {a₀ b₀ c₀ : Int} {t₀ u₀ v₀ : Tok} {n : Nat} (J : Nat → Shared → Prop)
    (hh : A.handled = none) (hr : IsRange s.heap r a₀ b₀ c₀ t₀ u₀ v₀) (hsmall : Builtin.Range.small a₀ b₀ c₀ = true) (hn : Builtin.Range.rangeSize a₀ b₀ c₀ = (n : Int))
    (h0 : ∀ o, J 0 { s with heap := s.heap.push o })
    (hst : ∀ i s₁ h' tk, J i s₁ → (∀ b o, b ≠ s.heap.objs.size → s₁.heap.get? b = some o → h'.get? b = some o) → J i { s₁ with heap := h', toks := tk })
    (turn : ∀ i t s₁ o, i < n → J i s₁ → s₁.heap.get? s.heap.objs.size = some o →
      wpAny (model prog w) A (assign target env (.int (a₀ + (i : Nat) * c₀) t)) (fun _ s₂ => wpAny (model prog w) A (execs body env) (fun f s₃ => match f with
        | .next | .cont => s₃.heap.get? s.heap.objs.size = some o ∧ J (i + 1) s₃
        | .brk => R (.ok .next) s₃
        | .ret v => R (.ok (.ret v)) s₃) (notedBy (model prog w) A env fun e s' => R (.error e) s') s₂) (notedBy (model prog w) A env fun e s' => R (.error e) s') s₁)
    (done : ∀ s₁, J n s₁ → R (.ok .next) s₁) (ht : ∀ v, letOwnedTupleGo target (.ref s.heap.objs.size) v = pure ()) :
    wpAny (model prog w) A (pyIter (.ref r)) (fun it s₂ => codeAny (model prog w) A (.forLoop target it body [] env) R s₂) E s := by
  refine wpAny_pyIter_range hr hsmall ?_
  rw [hn]
  generalize hI : s.heap.objs.size = I at *
  have W : Walks prog w A I [I] [I] n (fun i v => i < n ∧ ∃ t, v = .int (a₀ + i * c₀) t) (fun i h => IsRangeIter h I (a₀ + (i : Nat) * c₀) ((n : Int) - (i : Nat)) c₀) := (Walks.range hh _ a₀ c₀ n).bound
  refine codeAny_forLoop_any (fun k s' => ∃ i, i ≤ n ∧ k = n + 1 - i ∧ IsRangeIter s'.heap I (a₀ + (i : Nat) * c₀) ((n : Int) - (i : Nat)) c₀ ∧ J i s') ?_ (n + 1) ⟨0, Nat.zero_le _, rfl, ?_, h0 _⟩
  · rintro k s' ⟨i, hi, rfl, hit, hJ⟩
    by_cases hlt : i < n
    · refine W.item i _ _ _ hlt hit fun v h₁ tk₁ hPv hst₁ hk₁ => ?_
      obtain ⟨_, t, rfl⟩ := hPv
      have hJ₁ := hst i s' h₁ tk₁ hJ fun b o hb e => hk₁ b o (fun hm => hb (List.mem_singleton.mp hm)) e
      refine wpAny_of_eq (ht _) ?_
      refine wpAny_mono (turn i t _ _ hlt hJ₁ hst₁) (fun _ s₂ h₂ => wpAny_mono h₂ (fun f s₃ h₃ => ?_) fun _ _ e => e) fun _ _ e => e
      cases f with
      | next => exact ⟨n + 1 - (i + 1), by omega, i + 1, hlt, rfl, h₃.1, h₃.2⟩
      | cont => exact ⟨n + 1 - (i + 1), by omega, i + 1, hlt, rfl, h₃.1, h₃.2⟩
      | brk => exact h₃
      | ret v => exact h₃
    · have hin : i = n := by omega
      subst hin
      refine W.done _ _ _ hit fun h₁ tk₁ hk₁ => ?_
      have hJ₁ := hst i s' h₁ tk₁ hJ fun b o hb e => hk₁ b o (fun hm => hb (List.mem_singleton.mp hm)) e
      exact wpAny_pure (done _ hJ₁)
  · have := Heap.get?_push_size (o := { cls := .type "range_iterator", data := .fields #[rawInt a₀, rawInt (n : Int), rawInt c₀] }) s.heap rfl
    rw [hI] at this
    show IsRangeIter _ _ _ _ _
    simpa using this
def ForRest (prog : Program) (w : World) (A : Around) (E : Value → Shared → Prop) (env : Env) (target : Expr) (body orelse : List Stmt) (Q : Flow → Shared → Prop) (x : Value) (s₁ : Shared) : Prop :=
  wpAny (model prog w) A (pyIter x) (fun it s₂ => codeAny (model prog w) A (.forLoop target it body orelse env) (fun r s' => match r with | .ok f => Q f s' | .error e => cameBackBy (model prog w) A env E e s') s₂) E s₁
theorem for_stop {target iter : Expr} {body orelse : List Stmt} {pos : Pos} {Q : Flow → Shared → Prop} (h : wpAny (model prog w) A (eval iter env) (fun x s₁ => Stop (ForRest prog w A E env target body orelse Q x s₁)) E s)
    (hs : ∀ x, foldedSetIterable iter env x = pure x) : wpAny (model prog w) A (exec (.For target iter body orelse pos) env) Q E s := wpAny_For h hs
end
end Mine
end

-- part Q9
section
open PySem PySem.W PySem.Calls PyProof.Rows PySem.Spec
set_option maxRecDepth 100000
set_option maxHeartbeats 4000000
namespace Mine
theorem strs_lay : ∀ ns : List Str, (∀ x ∈ ns, PyData.strOk x = true) → PyData.canLayAll0 (ns.map PyData.str) = true
  | [], _ => rfl
  | a :: r, h => by simp [PyData.canLayAll0, PyData.canLay0, strs_lay r (fun x hx => h x (.tail _ hx)), h a (.head _)]
theorem strs_depth : ∀ ns : List Str, PyData.depthAll (ns.map PyData.str) = 0
  | [] => rfl
  | _ :: r => by simp [PyData.depthAll, PyData.depth, strs_depth r]
theorem strs_shaped (ns : List Str) (h : ∀ x ∈ ns, PyData.strOk x = true) : SeqAt.shaped (.list (ns.map PyData.str)) = true := by
  simp [SeqAt.shaped, PyData.canLay0, PyData.depth, strs_lay ns h, strs_depth]
theorem strs_same : ∀ ns : List Str, PySem.Spec.sameAll (ns.map PyData.str) (ns.map PyData.str) = true
  | [] => by simp [PySem.Spec.sameAll]
  | a :: r => by simp [PySem.Spec.sameAll, PySem.Spec.same, strs_same r]
section
variable {prog : Program} {w : World} {A : Around} {E : Value → Shared → Prop} {s : Shared} {a b : Addr} {xs ys : List Value} {ns : List Str} {Q : Value → Shared → Prop}
theorem ne_strs (ha : s.heap.IsList a xs.toArray) (hb : s.heap.IsList b ys.toArray) (hi : StrsAre xs ns) (hj : StrsAre ys ns) (hok : ∀ x ∈ ns, PyData.strOk x = true) (hu : A.units + 64 < cLine) (h : Q (.bool false) s) :
    wpAny (model prog w) A (compareOp .NotEq (.ref a) (.ref b)) Q E s :=
  ne_dataH_same (reads_newData ha hi.carried) (reads_newData hb hj.carried) (strs_shaped _ hok) (strs_shaped _ hok) hu (SeqAt.noMix_of_shape (.list .str) rfl _ _ (list_map_has fun _ => rfl) (list_map_has fun _ => rfl)) (by
    have : PySem.Spec.same (.list (ns.map PyData.str)) (.list (ns.map PyData.str)) = true := by simp only [PySem.Spec.same]; exact strs_same ns
    rw [this]; exact h)
end
theorem AnsAre.at {rest : List (Addr × Obj)} {ls : List Str} {size : Int} {n : Nat} {av : List Value} (h : AnsAre rest ls size n av) : ∀ i, i < n → ∃ a k vs, av[i]? = some (.ref a) ∧ (a, listOf vs.toArray k) ∈ rest ∧ IntsAre vs (idxOf (abPop ls size i (abAt ls size i))) := by
  induction h with
  | nil => intro i hi; exact absurd hi (Nat.not_lt_zero _)
  | @cons j av a vs k hr hm hi' ih =>
    intro i hi
    have hlen := hr.length
    rcases Nat.lt_or_ge i j with h1 | h1
    · obtain ⟨a', k', vs', e1, e2⟩ := ih i h1
      exact ⟨a', k', vs', by rw [List.getElem?_append_left (by omega)]; exact e1, e2⟩
    · have : i = j := by omega
      subst this
      exact ⟨a, k, vs, by rw [List.getElem?_append_right (by omega), hlen, Nat.sub_self]; rfl, hm, hi'⟩
theorem ints_fun : ∀ {vs : List Value} {a b : List Int}, IntsAre vs a → IntsAre vs b → a = b
  | _, _, _, .nil, .nil => rfl
  | _, _, _, .cons n t h, .cons _ _ k => by rw [ints_fun h k]
theorem list_inj {h : Heap} {a : Addr} {x y : List Value} {j k : Nat} (h1 : h.get? a = some (listOf x.toArray j)) (h2 : h.get? a = some (listOf y.toArray k)) : x = y := by
  rw [h1] at h2
  have := congrArg Obj.data (Option.some.inj h2)
  simp only [Data.seq.injEq] at this
  simpa using congrArg Array.toList this.1

def rankAt (ls : List Str) (i j : Nat) : List Int := idxOf (abPop ls (1 + (j : Int) * 1) i (abAt ls (1 + (j : Int) * 1) i))
section
variable {prog : Program} {w : World} {A : Around} {E : Value → Shared → Prop} {s : Shared} {g : Heap} {L a : Addr} {m : Str → Option Value} {cn : Str} {cs : Scope} {ccd : Value} {cl' : List (Str × Addr)} {news : List (Addr × Obj)} {Q : Value → Shared → Prop}
open Classical in
theorem pick_comp {p1 p2 p3 p4 p5 p6 p7 p8 p9 : Pos} {sc : Scope} {D9 cA cP : Addr} {oA oP : Obj} {rv : List Value} {ls : List Str} {led : List (Addr × Obj)} {k9 n i : Nat} {x xp : Int} {tA tP : Tok}
    (F : Fr g L s.heap m) (N : News g L s.heap news) (hh : A.handled = none) (hv : m (Str.ofString "readers") = some (.ref D9)) (hm9 : (D9, listOf rv.toArray k9) ∈ news) (hrv : ReadersAre ls n rv led) (hled : ∀ p ∈ led, p ∈ news) (hn : n ≤ 1000) (hi : i < ls.length) (hls : ls.length ≤ 1000)
    (hkc : cs.kind = .function) (hl9 : (envOfC cn cs L a ccd).kindOf (Str.ofString "readers") = some .local)
    (hclos : closureFor sc (envOfC cn cs L a ccd) = pure cl') (hcell : ∀ z ∈ sc.names, z.2 ≠ .cell) (hk : sc.kind = .function)
    (hnames : ∀ z ∈ sc.names, z.2 = .local → sc.names.lookup z.1 = some .local) (hx : sc.names.lookup (Str.ofString "reader") = some .local)
    (hx1 : ∀ C, (compEnvC sc cl' C (envOfC cn cs L a ccd)).kindOf (Str.ofString "above") = some .cell) (hx2 : ∀ C, (compEnvC sc cl' C (envOfC cn cs L a ccd)).kindOf (Str.ofString "place") = some .cell)
    (hcA : cl'.lookup (Str.ofString "above") = some cA) (hmA : (cA, oA) ∈ news) (hdA : oA.data = .cell (some (.int x tA)))
    (hcP : cl'.lookup (Str.ofString "place") = some cP) (hmP : (cP, oP) ∈ news) (hdP : oP.data = .cell (some (.int xp tP))) (hxp : xp = (i : Int))
    (h : ∀ D k h' tk ys, Fr g L h' m → News g L h' ((D, listOf ys.toArray k) :: news) → (∀ p ∈ news, D ≠ p.1) → (ys = [] ↔ ∀ j, j < n → x ∈ rankAt ls i j) → Q (.ref D) { s with heap := h', toks := tk }) :
    wpAny (model prog w) A (eval (.ListComp (.Name (Str.ofString "reader") p1) [⟨.Name (Str.ofString "reader") p2, .Name (Str.ofString "readers") p3,
      [.Compare (.Name (Str.ofString "above") p4) [.NotIn] [.Subscript (.Name (Str.ofString "reader") p5) (.Name (Str.ofString "place") p6) p7] p8], 0⟩] sc p9) (envOfC cn cs L a ccd)) Q E s := by
  subst hxp
  have hlist : s.heap.IsList D9 rv.toArray := News.isList N hm9
  have hq0 := (N _ hm9).1
  have hlen := hrv.length
  -- what a reader says
  have sayAt : ∀ j v, rv[j]? = some v → ∃ (o : Addr) (k : Nat) (av : List Value) (a' : Addr) (k' : Nat) (vs : List Value), v = .ref o ∧ s.heap.get? o = some (listOf av.toArray k) ∧ av[i]? = some (.ref a') ∧ s.heap.get? a' = some (listOf vs.toArray k') ∧ IntsAre vs (rankAt ls i j) ∧ av.length ≤ 1000 := fun j v e => by
    have hj : j < n := by
      have := (List.getElem?_eq_some_iff.mp e).1
      omega
    obtain ⟨o, k, av, e1, e2, e3⟩ := hrv.at j hj
    obtain ⟨a', k', vs, e4, e5, e6⟩ := e3.at i hi
    rw [e] at e1; cases e1
    exact ⟨o, k, av, a', k', vs, rfl, (N _ (hled _ e2)).1, e4, (N _ (hled _ e5)).1, e6, by rw [e3.length]; exact hls⟩
  have same : ∀ j j' v, rv[j]? = some v → rv[j']? = some v → rankAt ls i j = rankAt ls i j' := fun j j' v e e' => by
    obtain ⟨o, k, av, a', k', vs, rfl, h1, h2, h3, h4, _⟩ := sayAt j v e
    obtain ⟨o2, k2, av2, a2, k2', vs2, e2, g1, g2, g3, g4, _⟩ := sayAt j' _ e'
    cases e2
    have := list_inj h1 g1; subst this
    rw [h2] at g2; cases g2
    have := list_inj h3 g3; subst this
    exact ints_fun h4 g4
  let p : Value → Bool := fun v => decide (∃ j, rv[j]? = some v ∧ x ∉ rankAt ls i j)
  have pj : ∀ j v, rv[j]? = some v → p v = !((rankAt ls i j).any (· == x)) := fun j v e => by
    have e1 : (rankAt ls i j).any (· == x) = decide (x ∈ rankAt ls i j) := by
      rw [Bool.eq_iff_iff]; simp
    rw [e1]
    show decide _ = !decide _
    rw [← decide_not]
    refine decide_eq_decide.mpr ⟨?_, fun hx => ⟨j, e, hx⟩⟩
    rintro ⟨j', e', hx'⟩
    rwa [same j j' v e e']
  refine wpAny_ListComp_free p (fun v y => v = y) hclos hcell hk hnames hx ?_ (by intro _; rfl)
  refine wpAny_Name (wpAny_loadName_local hkc hl9 F.ns hv ?_) (by decide)
  refine wpAny_pyIter_list hlist ?_
  have hne : D9 ≠ s.heap.objs.size := Nat.ne_of_lt (Heap.lt_size hq0)
  refine ⟨s.heap.objs.size, [s.heap.objs.size, D9], [s.heap.objs.size], rv.toArray.size, _, _, rfl, Walks.list hh s.heap.objs.size D9 hne rv.toArray, size_ok (by simp; omega), ⟨⟨_, Heap.get?_push_size _ rfl, rfl, rfl⟩, hlist.at fun o e => Heap.get?_push_of_some _ e⟩, ?_, ?_, ?_⟩
  · intro b hb
    rw [Heap.size_push]
    rcases List.mem_cons.mp hb with rfl | hb
    · exact Nat.lt_succ_self _
    · rw [List.mem_singleton.mp hb]; exact Nat.lt_succ_of_lt (Heap.lt_size hq0)
  · have up : ∀ {s₃ : Shared}, (∀ b o, b ∉ [s.heap.objs.size] → (s.heap.push { cls := .type "list_iterator", data := .fields #[.ref D9, .int 0 0] }).get? b = some o → s₃.heap.get? b = some o) → ∀ b o, s.heap.get? b = some o → s₃.heap.get? b = some o := fun hk3 b o e => hk3 b o (by
      intro hb; rw [List.mem_singleton.mp hb] at e
      exact absurd (Heap.lt_size e) (Nat.lt_irrefl _)) (Heap.get?_push_of_some _ e)
    constructor
    · intro C j v s₃ m₃ E' hC hP hn3 hm3 hk3 htk
      have hP' : rv[j]? = some v := by simpa using hP
      obtain ⟨o, k, av, a', k', vs, rfl, h1, h2, h3, h4, h5⟩ := sayAt j v hP'
      rw [pj j _ hP']
      refine wpAny_tests_one (wpAny_isTrue_Compare1 ?_ (by with_unfolding_all rfl))
      refine wpAny_Name (wpAny_loadName_cell (env := compEnvC sc cl' C (envOfC cn cs L a ccd)) hk (hx1 C) hcA ⟨oA, up hk3 _ _ (N _ hmA).1, hdA⟩ ?_) (by decide)
      refine Subscript_ ?_
      refine wpAny_Name (wpAny_loadName_local (env := compEnvC sc cl' C (envOfC cn cs L a ccd)) hk (lookup_relabel_local hx) hn3 hm3 ?_) (by decide)
      refine wpAny_Name (wpAny_loadName_cell (env := compEnvC sc cl' C (envOfC cn cs L a ccd)) hk (hx2 C) hcP ⟨oP, up hk3 _ _ (N _ hmP).1, hdP⟩ ?_) (by decide)
      have hl1 : s₃.heap.IsList o av.toArray := ⟨_, up hk3 _ _ h1, rfl, _, rfl⟩
      have hl2 : s₃.heap.IsList a' vs.toArray := ⟨_, up hk3 _ _ h3, rfl, _, rfl⟩
      have hlt : i < av.length := (List.getElem?_eq_some_iff.mp h2).1
      refine tail_any hl1.typeIs slot_list_getitem.lookup (wpAny_getItem_list hl1 (by omega) (by omega) (by simpa using h2) ?_) (by with_unfolding_all rfl)
      refine notin_list_ints hl2 h4 ?_
      exact wpAny_truthy_bool ⟨rfl, s₃.heap, s₃.toks, rfl, fun _ _ e => e⟩
    · intro C j v s₃ m₃ E' hC hP _ hn3 hm3 hk3 htk
      refine wpAny_Name (wpAny_loadName_local (env := compEnvC sc cl' C (envOfC cn cs L a ccd)) hk (lookup_relabel_local hx) hn3 hm3 ?_) (by decide)
      exact ⟨rfl, s₃.heap, s₃.toks, rfl, fun _ _ e => e⟩
  · intro D h' tk ys vs hD hl' hpl hlenv hP hF hk'
    have hk2 : ∀ b o, s.heap.get? b = some o → h'.get? b = some o := fun b o e => hk' b o (by
      intro hb; rw [List.mem_singleton.mp hb] at e
      exact absurd (Heap.lt_size e) (Nat.lt_irrefl _)) (Heap.get?_push_of_some _ e)
    have hvs : vs = rv := list_eq_of_get (by rw [hlenv]; simp) fun j v e => by simpa using hP j v e
    subst hvs
    obtain ⟨k, hpl⟩ := hpl
    have hD0 : s.heap.get? D = none := by
      cases e : s.heap.get? D with
      | none => rfl
      | some o => rw [Heap.get?_push_of_some _ e] at hD; cases hD
    refine h D k h' tk ys.toList (F.keeps hk2) (fun q hq => ?_) (fun q hq => ne_of_get hD0 (N q hq).1) ?_
    · rcases List.mem_cons.mp hq with rfl | hq
      · exact ⟨by simpa using hpl, (news_one F hD0).1, (news_one F hD0).2⟩
      · exact ⟨hk2 _ _ (N q hq).1, (N q hq).2⟩
    · have e1 : ys.toList = [] ↔ vs.filter p = [] := by
        have := hF.length
        constructor
        · intro e; rw [e] at this; exact List.length_eq_zero_iff.mp (by simpa using this)
        · intro e; rw [e] at this; exact List.length_eq_zero_iff.mp (by simpa using this.symm)
      rw [e1, List.filter_eq_nil_iff]
      constructor
      · intro hall j hj
        have hjl : j < vs.length := by omega
        have := hall vs[j] (List.getElem_mem hjl)
        rw [pj j _ (List.getElem?_eq_getElem hjl)] at this
        simpa using this
      · intro hall v hv
        obtain ⟨j, hj⟩ := List.mem_iff_getElem?.mp hv
        have hjl : j < n := by have := (List.getElem?_eq_some_iff.mp hj).1; omega
        rw [pj j _ hj]
        simpa using hall j hjl
end
end Mine
end

-- part Q10
section
open PySem PySem.W PySem.Calls PyProof.Rows
set_option maxRecDepth 100000
set_option maxHeartbeats 4000000
namespace Mine
/-- between the turns of the law's own loop -/
def LawJ (g : Heap) (L cP cA pA nA D9 : Addr) (base : List (Addr × Obj)) (os0 : OsState) (s' : Shared) : Prop :=
  ∃ M oP oA vP vA, Fr g L s'.heap M ∧ News g L s'.heap ((cP, oP) :: (cA, oA) :: base) ∧ oP.data = .cell vP ∧ oA.data = .cell vA ∧
    M (Str.ofString "paths") = some (.ref pA) ∧ M (Str.ofString "numbers") = some (.ref nA) ∧ M (Str.ofString "readers") = some (.ref D9) ∧ AllBare s'.gens ∧ s'.os = os0
theorem fr_move {g h h' : Heap} {L I : Addr} {M : Str → Option Value} (F : Fr g L h M) (hL : L ≠ I) (hg : g.get? I = none) (hk : ∀ b o, b ≠ I → h.get? b = some o → h'.get? b = some o) : Fr g L h' M :=
  ⟨F.ns.at' fun o e => hk _ o hL e, fun b o e => hk b o (fun q => by rw [q, hg] at e; cases e) (F.keep b o e), F.above⟩
theorem news_move {g h h' : Heap} {L I : Addr} {l : List (Addr × Obj)} (N : News g L h l) (hl : ∀ p ∈ l, p.1 ≠ I) (hk : ∀ b o, b ≠ I → h.get? b = some o → h'.get? b = some o) : News g L h' l := fun p hp =>
  ⟨hk _ _ (hl p hp) (N p hp).1, (N p hp).2⟩
theorem LawJ.move {g : Heap} {L cP cA pA nA D9 I : Addr} {base : List (Addr × Obj)} {os0 : OsState} {s' : Shared} {h' : Heap} {tk : Nat} (H : LawJ g L cP cA pA nA D9 base os0 s') (hL : L ≠ I) (hg : g.get? I = none) (h1 : cP ≠ I) (h2 : cA ≠ I) (h3 : ∀ p ∈ base, p.1 ≠ I)
    (hk : ∀ b o, b ≠ I → s'.heap.get? b = some o → h'.get? b = some o) : LawJ g L cP cA pA nA D9 base os0 { s' with heap := h', toks := tk } := by
  obtain ⟨M, oP, oA, vP, vA, F, N, r⟩ := H
  exact ⟨M, oP, oA, vP, vA, fr_move F hL hg hk, news_move N (List.forall_mem_cons.mpr ⟨h1, List.forall_mem_cons.mpr ⟨h2, h3⟩⟩) hk, r⟩
theorem news_add {g h : Heap} {L I : Addr} {o : Obj} {l : List (Addr × Obj)} (N : News g L h l) (hL : I ≠ L) (hg : g.get? I = none) (hI : h.get? I = some o) : News g L h ((I, o) :: l) :=
  List.forall_mem_cons.mpr ⟨⟨hI, hL, hg⟩, N⟩
noncomputable def dueK (ls : List Str) (ns : List Int) (n i k : Nat) : List Str := (((List.range i).reverse.take k).filter fun a => decide (∀ t ∈ sizesOf n, a ∈ abPop ls t i (abAt ls t i))).map (pathAt ls ns)
theorem dueK_zero (ls : List Str) (ns : List Int) (n i : Nat) : dueK ls ns n i 0 = [] := rfl
theorem dueK_all (ls : List Str) (ns : List Int) (n i : Nat) : dueK ls ns n i i = (dueAt ls n i).map (pathAt ls ns) := by
  unfold dueK dueAt
  rw [List.take_of_length_le (by simp)]
theorem dueK_succ {ls : List Str} {ns : List Int} {n i k : Nat} (hk : k < i) : dueK ls ns n i (k + 1) = dueK ls ns n i k ++ (if (∀ t ∈ sizesOf n, (i - 1 - k) ∈ abPop ls t i (abAt ls t i)) then [pathAt ls ns (i - 1 - k)] else []) := by
  have e : (List.range i).reverse.take (k + 1) = (List.range i).reverse.take k ++ [i - 1 - k] := by
    rw [List.take_add_one, List.getElem?_reverse (by simpa using hk)]
    simp only [List.length_range]
    rw [List.getElem?_range (by omega)]
    rfl
  unfold dueK
  rw [e, List.filter_append, List.map_append]
  congr 1
  by_cases h : ∀ t ∈ sizesOf n, (i - 1 - k) ∈ abPop ls t i (abAt ls t i)
  · rw [if_pos h, List.filter_cons_of_pos (by simpa using h)]; rfl
  · rw [if_neg h, List.filter_cons_of_neg (by simpa using h)]; rfl
theorem mem_idx {st : List Nat} {a : Nat} : (a : Int) ∈ idxOf st ↔ a ∈ st := by
  unfold idxOf
  simp only [List.mem_map, List.mem_reverse]
  constructor
  · rintro ⟨b, hb, e⟩
    have : b = a := by omega
    exact this ▸ hb
  · intro h; exact ⟨a, h, rfl⟩
theorem rank_sizes {ls : List Str} {i n a : Nat} {x : Int} (hx : x = (a : Int)) : (∀ j, j < n → x ∈ rankAt ls i j) ↔ ∀ t ∈ sizesOf n, a ∈ abPop ls t i (abAt ls t i) := by
  subst hx
  unfold rankAt
  simp only [mem_idx]
  constructor
  · intro h t ht
    have := mem_sizes.mp ht
    have h2 := h (t - 1).toNat (by omega)
    have e : 1 + (((t - 1).toNat : Nat) : Int) * 1 = t := by omega
    rwa [e] at h2
  · intro h j hj
    exact h _ (mem_sizes.mpr ⟨by omega, by omega⟩)
/-- between the turns of the inner loop -/
def LawJ2 (g : Heap) (L cA dA pA nA D9 S : Addr) (base : List (Addr × Obj)) (gens0 : Array GenState) (os0 : OsState) (due : Nat → List Str) (k : Nat) (s' : Shared) : Prop :=
  ∃ M oA vA dv kd, Fr g L s'.heap M ∧ News g L s'.heap ((cA, oA) :: (dA, listOf dv.toArray kd) :: base) ∧ oA.data = .cell vA ∧ StrsAre dv (due k) ∧
    M (Str.ofString "paths") = some (.ref pA) ∧ M (Str.ofString "numbers") = some (.ref nA) ∧ M (Str.ofString "readers") = some (.ref D9) ∧ M (Str.ofString "told") = some (.ref S) ∧ M (Str.ofString "due") = some (.ref dA) ∧ s'.gens = gens0 ∧ s'.os = os0
theorem LawJ2.move {g : Heap} {L cA dA pA nA D9 S I : Addr} {base : List (Addr × Obj)} {gens0 : Array GenState} {os0 : OsState} {due : Nat → List Str} {k : Nat} {s' : Shared} {h' : Heap} {tk : Nat} (H : LawJ2 g L cA dA pA nA D9 S base gens0 os0 due k s') (hL : L ≠ I) (hg : g.get? I = none) (h1 : cA ≠ I) (h2 : dA ≠ I) (h3 : ∀ p ∈ base, p.1 ≠ I)
    (hk : ∀ b o, b ≠ I → s'.heap.get? b = some o → h'.get? b = some o) : LawJ2 g L cA dA pA nA D9 S base gens0 os0 due k { s' with heap := h', toks := tk } := by
  obtain ⟨M, oA, vA, dv, kd, F, N, r⟩ := H
  exact ⟨M, oA, vA, dv, kd, fr_move F hL hg hk, news_move N (List.forall_mem_cons.mpr ⟨h1, List.forall_mem_cons.mpr ⟨h2, h3⟩⟩) hk, r⟩
theorem law_ledger {g h : Heap} {L D9 pA lA nA cA cP cL : Addr} {r9 op ol on oA oP oL : Obj} {x1 x2 x3 : Addr × Obj} {led : List (Addr × Obj)} {M : Str → Option Value} {vP vA : Option Value} {gens : Array GenState} {drawn : Drawn} {tk : Nat} {os0 : OsState}
    (F : Fr g L h M) (N : News g L h ((D9, r9) :: (led ++ [(pA, op), (lA, ol), (nA, on), x1, x2, x3, (cA, oA), (cP, oP), (cL, oL)])))
    (hnn : ∀ p ∈ led, ∀ q ∈ [(pA, op), (lA, ol), (nA, on), x1, x2, x3, (cA, oA), (cP, oP), (cL, oL)], p.1 ≠ q.1)
    (hP : oP.data = .cell vP) (hA : oA.data = .cell vA) (h1 : M (Str.ofString "paths") = some (.ref pA)) (h2 : M (Str.ofString "numbers") = some (.ref nA)) (h3 : M (Str.ofString "readers") = some (.ref D9)) (hg : gens = #[])
    (e1 : cL ≠ cP) (e2 : pA ≠ cP) (e3 : nA ≠ cP) (e4 : lA ≠ cP) (e5 : D9 ≠ cP) (d1 : cL ≠ cA) (d2 : pA ≠ cA) (d3 : nA ≠ cA) (d4 : lA ≠ cA) (d5 : D9 ≠ cA) :
    ∃ base, base = (cL, oL) :: (pA, op) :: (nA, on) :: (lA, ol) :: (D9, r9) :: led ∧ LawJ g L cP cA pA nA D9 base os0 ⟨h, gens, drawn, tk, os0⟩ ∧ (∀ p ∈ base, p.1 ≠ cP) ∧ (∀ p ∈ base, p.1 ≠ cA) := by
  refine ⟨_, rfl, ⟨M, oP, oA, vP, vA, F, ?_, hP, hA, h1, h2, h3, .of_eq hg, rfl⟩, ?_, ?_⟩
  · refine news_sub N ?_
    have m : ∀ q, q ∈ [(pA, op), (lA, ol), (nA, on), x1, x2, x3, (cA, oA), (cP, oP), (cL, oL)] → q ∈ (D9, r9) :: (led ++ [(pA, op), (lA, ol), (nA, on), x1, x2, x3, (cA, oA), (cP, oP), (cL, oL)]) := fun q hq => .tail _ (List.mem_append_right _ hq)
    simp only [List.forall_mem_cons]
    refine ⟨m _ (by simp), m _ (by simp), m _ (by simp), m _ (by simp), m _ (by simp), m _ (by simp), .head _, fun p hp => .tail _ (List.mem_append_left _ hp)⟩
  · simp only [List.forall_mem_cons]
    exact ⟨e1, e2, e3, e4, e5, fun p hp => hnn p hp (cP, oP) (by simp)⟩
  · simp only [List.forall_mem_cons]
    exact ⟨d1, d2, d3, d4, d5, fun p hp => hnn p hp (cA, oA) (by simp)⟩
end Mine
end

-- part Q11
section
open PySem PySem.W PySem.Calls PyProof.Rows
set_option maxRecDepth 100000
set_option maxHeartbeats 4000000
namespace Mine
section
variable {prog : Program} {w : World} {A : Around} {E : Value → Shared → Prop} {s : Shared} {env : Env} {R : Result → Shared → Prop} {g : Heap} {L cP cA pA nA D9 : Addr} {base : List (Addr × Obj)} {os0 : OsState}
theorem LawJ.keeps {s' : Shared} {h' : Heap} {tk : Nat} (H : LawJ g L cP cA pA nA D9 base os0 s') (hk : ∀ b o, s'.heap.get? b = some o → h'.get? b = some o) : LawJ g L cP cA pA nA D9 base os0 { s' with heap := h', toks := tk } := by
  obtain ⟨M, oP, oA, vP, vA, F, N, r⟩ := H
  exact ⟨M, oP, oA, vP, vA, F.keeps hk, N.grown hk, r⟩
/-- the end of a turn of the law's loop -/
def TurnEnd (R : Result → Shared → Prop) (g : Heap) (L cP cA pA nA D9 : Addr) (base : List (Addr × Obj)) (os0 : OsState) (I : Addr) (o : Obj) (f : Flow) (s₃ : Shared) : Prop :=
  match f with
  | .next | .cont => s₃.heap.get? I = some o ∧ LawJ g L cP cA pA nA D9 base os0 s₃
  | .brk => R (.ok .next) s₃
  | .ret v => R (.ok (.ret v)) s₃
theorem law_for {target : Expr} {body : List Stmt} {r : Addr} {t₀ u₀ v₀ : Tok} {n : Nat} (hh : A.handled = none) (hr : IsRange s.heap r 0 (n : Int) 1 t₀ u₀ v₀) (hn : n ≤ 1000) (H : LawJ g L cP cA pA nA D9 base os0 s)
    (turn : ∀ i t s₁ I o M oP oA vP vA, i < n → Fr g L s₁.heap M → News g L s₁.heap ((cP, oP) :: (cA, oA) :: (I, o) :: base) → oP.data = .cell vP → oA.data = .cell vA →
      M (Str.ofString "paths") = some (.ref pA) → M (Str.ofString "numbers") = some (.ref nA) → M (Str.ofString "readers") = some (.ref D9) → AllBare s₁.gens → s₁.os = os0 → I ≠ cP → I ≠ cA → (∀ p ∈ base, p.1 ≠ I) →
      wpAny (model prog w) A (assign target env (.int (i : Int) t)) (fun _ s₂ => wpAny (model prog w) A (execs body env) (TurnEnd R g L cP cA pA nA D9 base os0 I o) (notedBy (model prog w) A env fun e s' => R (.error e) s') s₂) (notedBy (model prog w) A env fun e s' => R (.error e) s') s₁)
    (done : ∀ s', LawJ g L cP cA pA nA D9 base os0 s' → R (.ok .next) s') (ht : ∀ I v, letOwnedTupleGo target (.ref I) v = pure ()) :
    wpAny (model prog w) A (pyIter (.ref r)) (fun it s₂ => codeAny (model prog w) A (.forLoop target it body [] env) R s₂) E s := by
  obtain ⟨M0, oP0, oA0, vP0, vA0, F0, N0, _⟩ := id H
  have hI : ∀ p ∈ (cP, oP0) :: (cA, oA0) :: base, p.1 ≠ s.heap.objs.size := fun p hp => Nat.ne_of_lt (Heap.lt_size (N0 p hp).1)
  have hL : L ≠ s.heap.objs.size := Nat.ne_of_lt F0.ns.lt
  have hg : g.get? s.heap.objs.size = none := by
    cases e : g.get? s.heap.objs.size with
    | none => rfl
    | some o => exact absurd (Heap.lt_size (F0.keep _ _ e)) (Nat.lt_irrefl _)
  have h1 := hI _ (.head _)
  have h2 := hI _ (.tail _ (.head _))
  have h3 : ∀ p ∈ base, p.1 ≠ s.heap.objs.size := fun p hp => hI p (.tail _ (.tail _ hp))
  refine for_range_any (n := n) (fun _ s' => LawJ g L cP cA pA nA D9 base os0 s') hh hr (small_one (by omega) (by omega) (by omega) (by omega)) ((rangeSize_nat _ _).trans (by omega)) (fun o => H.keeps fun b o e => Heap.get?_push_of_some _ e)
    (fun _ s₁ h' tk H' hk => H'.move hL hg h1 h2 h3 hk) (fun i t s₁ o hi H' ho => ?_) done (ht _)
  obtain ⟨M, oP, oA, vP, vA, F, N, d1, d2, m1, m2, m3, hgb, hos⟩ := H'
  have N' : News g L s₁.heap ((cP, oP) :: (cA, oA) :: (s.heap.objs.size, o) :: base) := by
    simp only [News, List.forall_mem_cons] at N ⊢
    exact ⟨N.1, N.2.1, ⟨ho, Ne.symm hL, hg⟩, N.2.2⟩
  have ev : (0 : Int) + (i : Nat) * 1 = (i : Int) := by omega
  rw [ev]
  exact turn i t s₁ _ o M oP oA vP vA hi F N' d1 d2 m1 m2 m3 hgb hos (Ne.symm h1) (Ne.symm h2) h3
/-- the inner loop: from the place ahead down to the first -/
def TurnEnd2 (R : Result → Shared → Prop) (g : Heap) (L cA dA pA nA D9 S : Addr) (base : List (Addr × Obj)) (gens0 : Array GenState) (os0 : OsState) (due : Nat → List Str) (k : Nat) (I : Addr) (o : Obj) (f : Flow) (s₃ : Shared) : Prop :=
  match f with
  | .next | .cont => s₃.heap.get? I = some o ∧ LawJ2 g L cA dA pA nA D9 S base gens0 os0 due (k + 1) s₃
  | .brk => R (.ok .next) s₃
  | .ret v => R (.ok (.ret v)) s₃
theorem LawJ2.keeps {dA S : Addr} {gens0 : Array GenState} {due : Nat → List Str} {k : Nat} {s' : Shared} {h' : Heap} {tk : Nat} (H : LawJ2 g L cA dA pA nA D9 S base gens0 os0 due k s') (hk : ∀ b o, s'.heap.get? b = some o → h'.get? b = some o) : LawJ2 g L cA dA pA nA D9 S base gens0 os0 due k { s' with heap := h', toks := tk } := by
  obtain ⟨M, oA, vA, dv, kd, F, N, r⟩ := H
  exact ⟨M, oA, vA, dv, kd, F.keeps hk, N.grown hk, r⟩
theorem small_down {i : Int} (h0 : 0 ≤ i) (h1 : i ≤ 1000) : Builtin.Range.small (i - 1) (-1) (-1) = true := by
  have hs : Builtin.Range.rangeSize (i - 1) (-1) (-1) = i := by
    unfold Builtin.Range.rangeSize
    simp
    omega
  unfold Builtin.Range.small
  rw [hs]
  simp only [Builtin.Range.rangeFitsLong, Bool.and_eq_true, Bool.or_eq_true, decide_eq_true_eq, beq_iff_eq, show ¬ ((-1 : Int) > 0) by decide, if_false]
  (try split) <;> omega
theorem size_down {i : Nat} : Builtin.Range.rangeSize ((i : Int) - 1) (-1) (-1) = (i : Int) := by
  unfold Builtin.Range.rangeSize
  simp
  omega
theorem law_for2 {target : Expr} {body : List Stmt} {r dA S : Addr} {t₀ u₀ v₀ : Tok} {i : Nat} {gens0 : Array GenState} {due : Nat → List Str} (hh : A.handled = none) (hr : IsRange s.heap r ((i : Int) - 1) (-1) (-1) t₀ u₀ v₀) (hn : i ≤ 1000) (H : LawJ2 g L cA dA pA nA D9 S base gens0 os0 due 0 s)
    (turn : ∀ k t s₁ I o M oA vA dv kd, k < i → Fr g L s₁.heap M → News g L s₁.heap ((cA, oA) :: (dA, listOf dv.toArray kd) :: (I, o) :: base) → oA.data = .cell vA → StrsAre dv (due k) →
      M (Str.ofString "paths") = some (.ref pA) → M (Str.ofString "numbers") = some (.ref nA) → M (Str.ofString "readers") = some (.ref D9) → M (Str.ofString "told") = some (.ref S) → M (Str.ofString "due") = some (.ref dA) → s₁.gens = gens0 → s₁.os = os0 → I ≠ cA → I ≠ dA → (∀ p ∈ base, p.1 ≠ I) →
      wpAny (model prog w) A (assign target env (.int ((i : Int) - 1 - (k : Int)) t)) (fun _ s₂ => wpAny (model prog w) A (execs body env) (TurnEnd2 R g L cA dA pA nA D9 S base gens0 os0 due k I o) (notedBy (model prog w) A env fun e s' => R (.error e) s') s₂) (notedBy (model prog w) A env fun e s' => R (.error e) s') s₁)
    (done : ∀ s', LawJ2 g L cA dA pA nA D9 S base gens0 os0 due i s' → R (.ok .next) s') (ht : ∀ I v, letOwnedTupleGo target (.ref I) v = pure ()) :
    wpAny (model prog w) A (pyIter (.ref r)) (fun it s₂ => codeAny (model prog w) A (.forLoop target it body [] env) R s₂) E s := by
  obtain ⟨M0, oA0, vA0, dv0, kd0, F0, N0, _⟩ := id H
  have hI : ∀ p ∈ (cA, oA0) :: (dA, listOf dv0.toArray kd0) :: base, p.1 ≠ s.heap.objs.size := fun p hp => Nat.ne_of_lt (Heap.lt_size (N0 p hp).1)
  have hL : L ≠ s.heap.objs.size := Nat.ne_of_lt F0.ns.lt
  have hg : g.get? s.heap.objs.size = none := by
    cases e : g.get? s.heap.objs.size with
    | none => rfl
    | some o => exact absurd (Heap.lt_size (F0.keep _ _ e)) (Nat.lt_irrefl _)
  have h1 := hI _ (.head _)
  have h2 := hI _ (.tail _ (.head _))
  have h3 : ∀ p ∈ base, p.1 ≠ s.heap.objs.size := fun p hp => hI p (.tail _ (.tail _ hp))
  refine for_range_any (n := i) (fun k s' => LawJ2 g L cA dA pA nA D9 S base gens0 os0 due k s') hh hr (small_down (by omega) (by omega)) size_down (fun o => H.keeps fun b o e => Heap.get?_push_of_some _ e)
    (fun _ s₁ h' tk H' hk => H'.move hL hg h1 h2 h3 hk) (fun k t s₁ o hi H' ho => ?_) done (ht _)
  obtain ⟨M, oA, vA, dv, kd, F, N, d2, hdv, m1, m2, m3, m4, m5, hgb, hos⟩ := H'
  have N' : News g L s₁.heap ((cA, oA) :: (dA, listOf dv.toArray kd) :: (s.heap.objs.size, o) :: base) := by
    simp only [News, List.forall_mem_cons] at N ⊢
    exact ⟨N.1, N.2.1, ⟨ho, Ne.symm hL, hg⟩, N.2.2⟩
  have ev : (i : Int) - 1 + (k : Nat) * -1 = (i : Int) - 1 - (k : Int) := by omega
  rw [ev]
  exact turn k t s₁ _ o M oA vA dv kd hi F N' d2 hdv m1 m2 m3 m4 m5 hgb hos (Ne.symm h1) (Ne.symm h2) h3
end
section
variable {prog : Program} {w : World} {A : Around} {E : Value → Shared → Prop} {s : Shared} {g : Heap} {L : Addr} {news : List (Addr × Obj)} {Q : Value → Shared → Prop}
theorem item_strsN {value slice : Expr} {l : Addr} {vs : List Value} {ws : List Str} {k : Int} {u : Tok} {n : Nat} (N : News g L s.heap news) (hm : (l, listOf vs.toArray n) ∈ news) (hi : StrsAre vs ws)
    (h0 : 0 ≤ k) (h1 : k < (ws.length : Int)) (h2 : ws.length ≤ 1000) (h : ∀ t', Q (.str (ws.getD k.toNat Str.empty) t') s)
    (hs : subscripted slice false (.ref l) (.int k u) = operate [.ref l, .int k u] (getItem (.ref l) (.int k u)) := by with_unfolding_all rfl) :
    wpAny (model prog w) A (subscriptTail value slice (.ref l) (.int k u)) Q E s := my_itemS (News.isList N hm) hi h0 h1 (by omega) h hs
theorem item_intsN {value slice : Expr} {l : Addr} {vs : List Value} {ws : List Int} {k : Int} {u : Tok} {n : Nat} (N : News g L s.heap news) (hm : (l, listOf vs.toArray n) ∈ news) (hi : IntsAre vs ws)
    (h0 : 0 ≤ k) (h1 : k < (ws.length : Int)) (h2 : ws.length ≤ 1000) (h : ∀ t', Q (.int (ws.getD k.toNat 0) t') s)
    (hs : subscripted slice false (.ref l) (.int k u) = operate [.ref l, .int k u] (getItem (.ref l) (.int k u)) := by with_unfolding_all rfl) :
    wpAny (model prog w) A (subscriptTail value slice (.ref l) (.int k u)) Q E s := by
  obtain ⟨t', e⟩ := ints_at hi (i := k.toNat) (by omega)
  have hl := News.isList N hm
  exact tail_any hl.typeIs slot_list_getitem.lookup (wpAny_getItem_list hl h0 (by omega) (by simpa using e) (h t')) hs
end
theorem told_path {ls : List Str} {ns : List Int} {n i : Nat} {k : Int} (hi : i < n) : ((psAt ls ns n).getD (i : Int).toNat Str.empty ++ Txt.mul (Str.ofString "/") k).cps.toList = (pathAt ls ns i).cps.toList ++ List.replicate k.toNat 47 := by
  have e1 : Str.ofString "/" = ⟨#[47]⟩ := by decide
  rw [Str.cps_append, Array.toList_append, Int.toNat_natCast, psAt_getD ls ns n i hi, e1, mul_one_list]
theorem path_short {ls : List Str} {ns : List Int} {n : Nat} (hn : n ≤ 8) (i : Nat) : ((psAt ls ns n).getD i Str.empty).length ≤ 32 := Nat.le_trans (getD_le (psAt_le ls ns n) i) (by omega)
theorem stack_len (ls : List Str) (ns : List Int) (i : Nat) (hi : i ≤ 8) : 1 ≤ ((stAt ls (i + 1)).map (pathAt ls ns)).length ∧ ((stAt ls (i + 1)).map (pathAt ls ns)).length ≤ 500 := by
  have := stAt_length ls (i + 1)
  rw [List.length_map]
  refine ⟨?_, by omega⟩
  rw [stAt]; simp
theorem psAt_codes (ls : List Str) (ns : List Int) : ∀ n, ∀ p ∈ psAt ls ns n, ∀ c ∈ p.cps.toList, c < 1000 + n
  | 0 => fun _ h => nomatch h
  | n + 1 => fun p hp c hc => by
    have ih := psAt_codes ls ns n
    rcases List.mem_append.mp hp with h | h
    · have := ih p h c hc; omega
    · rw [List.mem_singleton.mp h] at hc
      have hlet : ∀ c ∈ (letter n).cps.toList, c < 1000 + (n + 1) := fun c hc => by
        have : c ∈ [((97 : Int) + (n : Int)).toNat] := hc
        have := List.mem_singleton.mp this
        omega
      unfold mkPath at hc
      split at hc
      · exact hlet c hc
      · rename_i j st _
        rw [Str.cps_append, Str.cps_append, Array.toList_append, Array.toList_append] at hc
        rcases List.mem_append.mp hc with hc | hc
        · rcases List.mem_append.mp hc with hc | hc
          · rw [List.getD_eq_getElem?_getD] at hc
            cases e : (psAt ls ns n)[j]? with
            | none => rw [e] at hc; simp [Str.empty] at hc
            | some q =>
              rw [e] at hc
              have := ih q (List.mem_of_getElem? e) c hc
              omega
          · obtain ⟨k, hk⟩ := slashes_list (ns.getD n 0)
            rw [hk] at hc
            have := (List.mem_replicate.mp hc).2
            omega
        · exact hlet c hc
theorem path_ok (ls : List Str) (ns : List Int) {i : Nat} (hi : i ≤ 8) : PyData.strOk (pathAt ls ns i) = true := by
  have hm : pathAt ls ns i ∈ psAt ls ns (i + 1) := by rw [psAt]; exact List.mem_append_right _ (.head _)
  unfold PyData.strOk
  rw [Array.all_eq_true']
  intro c hc
  have := psAt_codes ls ns (i + 1) _ hm c (by simpa using hc)
  simp; omega
end Mine
end

-- part Q12
section
open PySem PySem.W PySem.Calls PyProof.Rows
set_option maxRecDepth 100000
set_option maxHeartbeats 4000000
namespace Mine
section
variable {w : World} {A : Around} {E : Value → Shared → Prop} {s : Shared} {mg mb : Str → Option Value} {g : Heap} {L : Addr} {m : Str → Option Value} {news : List (Addr × Obj)} {Q : Value → Shared → Prop}
theorem parents_use2 {env : Env} (hfr : A.frames = some [env]) (F : Fr g L s.heap m) (N : News g L s.heap news) (X : (hd.heap_39 w.params).In g) (T : TopRead lawView Loo mg mb g) (hdep : A.depth + 100 < recursionLimit) (hh : A.handled = none) (hk : env.scope.kind = .function) (hf : env.frame = some L)
    {p p0 : Str} {t0 : Tok} {As : List Str} {n : Nat} (hp0 : p0.cps.toList = p.cps.toList ++ List.replicate n 47) (hA : Anc p As) (hp : p0.length ≤ 100) (hl : 1 ≤ As.length ∧ As.length ≤ 500)
    (h : ∀ h' tk gs I, gs.bare = true → I.As = As → I.gn = s.gens.size → (∀ p ∈ news, I.Bg.get? p.1 = some p.2) → IslOk w mg mb g [env] I → IslSt w I { s with gens := s.gens.push gs } 0 { s with heap := h', toks := tk, gens := s.gens.push gs } →
      Fr g L h' m → News g L h' news → Q (.ref I.x) { s with heap := h', toks := tk, gens := s.gens.push gs }) :
    wpAny (model PySem.Challenge.rw_ij0041_01.row.prog w) A (call (.ref 148) [.str p0 t0] []) Q E s :=
  parents_use (env := env) F N X T hdep hh (by rw [hk]; exact fun q => nomatch q) hf hp0 hA hp hl fun h' tk gs I h1 h2 h3 h4 h5 h6 F' N' => h h' tk gs I h1 h2 h3 (fun p hp => h4 _ _ (N p hp).1) h5 h6 F' N'
theorem bare_after {gens gens' : Array GenState} {gs : GenState} (h0 : AllBare gens) (hb : gs.bare = true) (hf : gens'[gens.size]? = some .finished) (ho : GenOnly gens.size (gens.push gs) gens') : AllBare gens' := by
  intro y hy
  obtain ⟨k, hk⟩ := Array.mem_iff_getElem?.mp hy
  by_cases e : k = gens.size
  · subst e
    rw [hf] at hk; cases hk; rfl
  · rw [ho.2 k e] at hk
    exact h0.push hb y (Array.mem_of_getElem? hk)
end
theorem isl_cls (w : World) : IslCls (hd.heap_39 w.params) := by
  have hp : PySem.Challenge.rw_ij0041_01.row.prog = PySem.Challenge.rw_ij0041_01.row.prog := rfl
  revert hp
  k_fill
  intro _
  constructor
  · k_is
  · k_is
  · k_is
  · k_is
  · k_is
  · k_is
theorem all_ne {d : Addr} : ∀ {l : List (Addr × Obj)}, AllLt d l → ∀ p ∈ l, p.1 ≠ d
  | [], _, p, hp => nomatch hp
  | q :: r, h, p, hp => by
    rcases List.mem_cons.mp hp with rfl | hp
    · exact Nat.ne_of_lt h.1
    · exact all_ne h.2 p hp
theorem ne_lt {a b : Nat} (h : a < b) : a ≠ b := Nat.ne_of_lt h
theorem off_due {S cP I cL pA nA lA D9 cA d : Addr} {o1 o2 o3 o4 o5 o6 o7 o8 : Obj} {led : List (Addr × Obj)}
    (h : @LT.lt Nat _ S d ∧ @LT.lt Nat _ cP d ∧ @LT.lt Nat _ cA d ∧ @LT.lt Nat _ I d ∧ @LT.lt Nat _ cL d ∧ @LT.lt Nat _ pA d ∧ @LT.lt Nat _ nA d ∧ @LT.lt Nat _ lA d ∧ @LT.lt Nat _ D9 d ∧ AllLt d led) :
    ∀ p ∈ (S, o1) :: (cP, o2) :: (I, o3) :: (cL, o4) :: (pA, o5) :: (nA, o6) :: (lA, o7) :: (D9, o8) :: led, p.1 ≠ d :=
  List.forall_mem_cons.mpr ⟨ne_lt h.1, List.forall_mem_cons.mpr ⟨ne_lt h.2.1, List.forall_mem_cons.mpr ⟨ne_lt h.2.2.2.1, List.forall_mem_cons.mpr ⟨ne_lt h.2.2.2.2.1, List.forall_mem_cons.mpr ⟨ne_lt h.2.2.2.2.2.1,
    List.forall_mem_cons.mpr ⟨ne_lt h.2.2.2.2.2.2.1, List.forall_mem_cons.mpr ⟨ne_lt h.2.2.2.2.2.2.2.1, List.forall_mem_cons.mpr ⟨ne_lt h.2.2.2.2.2.2.2.2.1, all_ne h.2.2.2.2.2.2.2.2.2⟩⟩⟩⟩⟩⟩⟩⟩
theorem off_above {S cP I cA : Addr} {o1 o2 o3 : Obj} {base : List (Addr × Obj)} (h1 : S ≠ cA) (h2 : cA ≠ cP) (h3 : I ≠ cA) (h : ∀ p ∈ base, p.1 ≠ cA) : ∀ p ∈ (S, o1) :: (cP, o2) :: (I, o3) :: base, p.1 ≠ cA :=
  List.forall_mem_cons.mpr ⟨h1, List.forall_mem_cons.mpr ⟨Ne.symm h2, List.forall_mem_cons.mpr ⟨h3, h⟩⟩⟩
section
variable {prog : Program} {w : World} {A : Around} {E : Value → Shared → Prop} {s : Shared} {g : Heap} {L D e : Addr} {news : List (Addr × Obj)} {Q : Value → Shared → Prop}
theorem eq_empty {ys : List Value} {k n : Nat} (N : News g L s.heap news) (h1 : (D, listOf ys.toArray k) ∈ news) (h2 : (e, listOf #[] n) ∈ news) (hu : A.units < cLine) (h : Q (.bool (decide (ys = []))) s) :
    wpAny (model prog w) A (compareOp .Eq (.ref D) (.ref e)) Q E s := by
  have l1 : s.heap.IsList D ys.toArray := News.isList N h1
  have l2 : s.heap.IsList e #[] := ⟨_, (N _ h2).1, rfl, n, rfl⟩
  by_cases hy : ys = []
  · rw [decide_eq_true hy] at h
    subst hy
    exact SeqAt.eq_listAt (e := fun _ => true) l1 l2 rfl hu (fun j _ h2 => absurd h2 (Nat.not_lt_zero _)) h
  · rw [decide_eq_false hy] at h
    exact SeqAt.eq_list_lengthsAt l1 l2 (by simp [hy]) hu h
end
theorem news_rest {g h : Heap} {L : Addr} {a b : Addr × Obj} {r : List (Addr × Obj)} (N : News g L h (a :: b :: r)) : News g L h r := fun p hp => N p (.tail _ (.tail _ hp))
theorem dueK_len (ls : List Str) (ns : List Int) (n i k : Nat) : (dueK ls ns n i k).length ≤ k := by
  unfold dueK
  rw [List.length_map]
  refine Nat.le_trans (List.length_filter_le _ _) ?_
  rw [List.length_take]; omega
theorem due_more {ls : List Str} {ns : List Int} {n m i k : Nat} {dv : List Value} {t : Tok} (hk : k < i) (hi : i ≤ m) (h : StrsAre dv (dueK ls ns n i k)) (hds : dueK ls ns n i (k + 1) = dueK ls ns n i k ++ [pathAt ls ns (i - 1 - k)]) :
    StrsAre (dv ++ [.str ((psAt ls ns m).getD ((i : Int) - 1 - (k : Int)).toNat Str.empty) t]) (dueK ls ns n i (k + 1)) := by
  have e : ((i : Int) - 1 - (k : Int)).toNat = i - 1 - k := by omega
  rw [hds, e, psAt_getD ls ns m _ (by omega)]
  exact h.append' (.cons _ _ .nil)
theorem turn2_next {R : Result → Shared → Prop} {g h : Heap} {L cA dA pA nA D9 S I : Addr} {o oA : Obj} {vA : Option Value} {base : List (Addr × Obj)} {gens gens0 : Array GenState} {os os0 : OsState} {due : Nat → List Str} {k : Nat} {M : Str → Option Value} {dv : List Value} {kd : Nat} {drawn : Drawn} {tk : Nat}
    (F : Fr g L h M) (N : News g L h ((cA, oA) :: (dA, listOf dv.toArray kd) :: (I, o) :: base)) (hd : oA.data = .cell vA) (hs : StrsAre dv (due (k + 1)))
    (m1 : M (Str.ofString "paths") = some (.ref pA)) (m2 : M (Str.ofString "numbers") = some (.ref nA)) (m3 : M (Str.ofString "readers") = some (.ref D9)) (m4 : M (Str.ofString "told") = some (.ref S)) (m5 : M (Str.ofString "due") = some (.ref dA)) (hg : gens = gens0) (hos : os = os0) :
    TurnEnd2 R g L cA dA pA nA D9 S base gens0 os0 due k I o .next ⟨h, gens, drawn, tk, os⟩ :=
  ⟨(N _ (.tail _ (.tail _ (.head _)))).1, M, oA, vA, dv, kd, F, news_sub N (List.forall_mem_cons.mpr ⟨.head _, List.forall_mem_cons.mpr ⟨.tail _ (.head _), fun p hp => .tail _ (.tail _ (.tail _ hp))⟩⟩), hd, hs, m1, m2, m3, m4, m5, hg, hos⟩
theorem turn_next {R : Result → Shared → Prop} {g h : Heap} {L cP cA pA nA D9 I : Addr} {o oP oA : Obj} {vP vA : Option Value} {base news : List (Addr × Obj)} {gens : Array GenState} {os os0 : OsState} {M : Str → Option Value} {drawn : Drawn} {tk : Nat}
    (F : Fr g L h M) (N : News g L h news) (hN : ∀ p ∈ (I, o) :: (cP, oP) :: (cA, oA) :: base, p ∈ news) (hP : oP.data = .cell vP) (hA : oA.data = .cell vA)
    (m1 : M (Str.ofString "paths") = some (.ref pA)) (m2 : M (Str.ofString "numbers") = some (.ref nA)) (m3 : M (Str.ofString "readers") = some (.ref D9)) (hg : AllBare gens) (hos : os = os0) :
    TurnEnd R g L cP cA pA nA D9 base os0 I o .next ⟨h, gens, drawn, tk, os⟩ :=
  ⟨(N _ (hN _ (.head _))).1, M, oP, oA, vP, vA, F, news_sub N (fun p hp => hN p (.tail _ hp)), hP, hA, m1, m2, m3, hg, hos⟩
theorem goodWG_true {c : ClaimW} {cl : Str → Option Addr} {mean : ExcName → Option Value} {args : List WData} {s₁ s' : Shared} {L : Addr} {m : Str → Option Value} (F : Fr s₁.heap L s'.heap m) (hb : AllBare s'.gens)
    (hn : ∀ cls, c.raises args cls = false) (hp : c.post args (.bool true) args = true) (hos : s'.os = s₁.os) : GoodWG c cl mean args s₁ (.ok (.ret (.bool true))) s' := by
  have g : GoodW c cl mean args s₁ (.ok (.ret (.bool true))) { s' with gens := #[] } := goodW_bool F rfl hn hp hos
  exact ⟨g.1, .of_keep g.2.1, hos, hb⟩
theorem dues_ok {ls : List Str} {ns : List Int} {n i : Nat} (hi : i ≤ 8) : ∀ x ∈ (dueAt ls n i).map (pathAt ls ns), PyData.strOk x = true := by
  intro x hx
  obtain ⟨a, ha, rfl⟩ := List.mem_map.mp hx
  unfold dueAt at ha
  have := (List.mem_filter.mp ha).1
  have : a < i := by simpa using this
  exact path_ok ls ns (by omega)
end Mine
end

-- part W1
section
open PySem PySem.W PySem.Calls PyProof.Rows
set_option maxRecDepth 100000
set_option maxHeartbeats 8000000
namespace Mine
local macro_rules | `(tactic| walk_at "exec Assign cons ListComp") => `(tactic| (refine stop_here ?_))
local macro_rules | `(tactic| walk_at "call builtin:max") => `(tactic| (refine stop_here ?_))
local macro_rules | `(tactic| walk_at "call builtin:len") => `(tactic| (k_here; (with_reducible show wpAny _ _ (call (Value.builtin "len") [Value.ref _]) _ _ _); k_dflt (refine' kst_len ?k1 ?k2 ?k3 ?k4 ?_; (case k1 => k_asm); (case k2 => k_mem); (case k3 => assumption); (case k4 => omega))))
local macro_rules | `(tactic| walk_at "call ref") => `(tactic| (k_here; (try dsimp only [List.append_nil, List.cons_append, List.nil_append]); (with_reducible show wpAny _ _ (call (Value.ref 148) _ _) _ _ _); refine stop_here ?_))
local macro_rules | `(tactic| walk_at "subscriptTail") => `(tactic| (k_here; (with_reducible show wpAny _ _ (subscriptTail _ _ (Value.ref _) (Value.int _ _)) _ _ _); k_dflt (first | (refine' item_strsN ?k1 ?k2 ?k3 ?k4 ?k5 ?k6 ?_; (case k1 => k_asm); (case k2 => k_mem); (case k3 => assumption); (case k4 => omega); (case k5 => omega); (case k6 => omega)) | (refine' item_intsN ?k1 ?k2 ?k3 ?k4 ?k5 ?k6 ?_; (case k1 => k_asm); (case k2 => k_mem); (case k3 => assumption); (case k4 => omega); (case k5 => omega); (case k6 => omega))); intro _))
local macro_rules | `(tactic| walk_at "compareOp Eq ref ref") => `(tactic| (refine stop_here ?_))
local macro_rules | `(tactic| walk_at "compareOp NotEq ref ref") => `(tactic| (refine stop_here ?_))
local macro_rules | `(tactic| walk_at "call builtin:list.append") => `(tactic| (refine stop_here ?_))
local macro_rules | `(tactic| walk_at "call type:list") => `(tactic| (refine stop_here ?_))
local macro_rules | `(tactic| walk_at "exec For Name Call cons nil") => `(tactic| (refine stop_here ?_))
local macro_rules | `(tactic| walk_at "call ref") => `(tactic| (k_here; (try dsimp only [List.append_nil, List.cons_append, List.nil_append]); (with_reducible show wpAny _ _ (call (Value.ref 183) _ _) _ _ _); refine stop_here ?_))
local macro_rules | `(tactic| walk_at "call ref") => `(tactic| (k_here; (try dsimp only [List.append_nil, List.cons_append, List.nil_append]); (with_reducible show wpAny _ _ (call (Value.ref 190) _ _) _ _ _); refine stop_here ?_))
local macro_rules | `(tactic| walk_at "subscriptTail List Slice ref ref") => `(tactic| (refine stop_here ?_))
local macro_rules | `(tactic| walk_at "subscriptTail") => `(tactic| ((with_reducible show wpAny _ _ (subscriptTail (Expr.List _ _) _ _ _) _ _ _); refine stop_here ?_))
local macro_rules | `(tactic| walk_at "binaryOp Add") => `(tactic| (k_here; (with_reducible show wpAny _ _ (binaryOp Operator.Add (Value.ref _) (Value.ref _)) _ _ _); refine stop_here ?_))
local macro_rules | `(tactic| walk_at "eval ListComp") => `(tactic| (refine stop_here ?_))
theorem law_holds : PySem.Challenge.rw_ij0041_01.Holds := hd ⟨law_left, by
  k_fill
  intro w s₀ s₁ mg mb G Y fa o pm cd doc dV kV ho hdd hcd hD hmg hg args vals as hpre hlay hrd hwl hlo
  have KX := kIn_of Y
  have X := (Ground.X G).1
  have V := (Ground.X G).2
  refine Ground.open G ?_
  intro T B D TE TW
  try (refine guard_noD D (by decide +kernel) ?_; clear D)
  obtain ⟨_, _, M⟩ := bmod_of_top T
  have TA := at_of_top T
  try (obtain ⟨_, _, he, B0⟩ := based_of_top T rfl hmg ho hdd; have he' : cd = _ := he; subst he'; clear he)
  clear hmg
  wrow_args hpre hlay hrd hwl hlo
  refine enter_call ?_
  w_top on
  have K0 := below_caller (Top.heap T)
  w_call any ho hdd hcd hD T F
  clear hdd TA
  k_drop
  rename List Int => scr
  k_steps
  rename Fr _ _ _ _ => F9
  rename News _ _ _ _ => N9
  refine (show Stop _ from ?_)
  refine slice_tmp F9 N9 (.head _) (IsPart.int _ _) IsPart.none ?_ ?s ?z
  case s => with_unfolding_all rfl
  case z => simp
  clear F9 N9
  intro h1 D F N hD lD
  k_lt lD
  k_steps
  rename Fr _ _ _ _ => F9
  rename News _ _ _ _ => N9
  rename IntsAre _ (List.take _ _) => hI8
  refine (show Stop _ from ?_)
  refine add_lists_ints F9 N9 ⟨_, (N9 _ (.tail _ (.tail _ (.head _)))).1, rfl, _, rfl⟩ ⟨_, (N9 _ (.head _)).1, rfl, _, rfl⟩ hI8 (pick_from (.cons _ _ (.cons _ _ (.cons _ _ (.cons _ _ (.cons _ _ (.cons _ _ (.cons _ _ .nil))))))) _) ?_ ?_
  rotate_left
  · exact size_ok (by simp only [List.length_take, List.length_drop, List.length_cons, List.length_nil]; omega)
  have lN := lt_new N9
  clear F9 N9
  k_lt lN
  intro h2 F N hnum
  obtain ⟨nv, hnv, N⟩ := news_gen N hnum
  clear hnum hI8
  change IntsAre nv (lawNums _) at hnv
  have hlen := lawNums_len
  k_steps
  rename Fr _ _ _ _ => F9
  rename News _ _ _ _ => N9
  rename Top _ _ _ _ _ _ => T9
  refine (show Stop _ from leads_use F9 N9 (by assumption) (topRead_of T9) ?d rfl (.head _) hnv (hlen _).2 ?_)
  case d => simp only [depth_deeper]; decide
  intro h3 tk3 lA lv n3 F N hlA hlv
  have hne := ne_new N9 hlA
  clear F9 N9
  simp only [List.forall_mem_cons] at hne
  dsimp only
  k_steps
  rename Fr _ _ _ _ => F9
  rename News _ _ _ _ => N9
  refine (show Stop _ from paths_use F9 N9 (by assumption) (topRead_of T9) ?d rfl (by k_mem) hnv (by k_mem) hlv (leadsFrom_length _ _) ?sm (fun y hy => ?_) ?_)
  case d => simp only [depth_deeper]; decide
  case sm => exact (hlen _).2
  · have := leads_fine (hlen _).2 y hy
    exact ⟨by omega, blank_of this.2⟩
  intro h5 tk5 pA pv n5 F N hpA hpv
  have hne2 := ne_new N9 hpA
  clear F9 N9
  simp only [List.forall_mem_cons] at hne2
  dsimp only
  k_steps
  rename Fr _ _ _ _ => F9
  rename News _ _ _ _ => N9
  refine (show Stop _ from ?_)
  refine' runs_comp F9 N9 ?qX (topRead_of T9) ?qe rfl ?qhc ?qhm ?qhd ?qhk ?qhx ?qhl hlv ?qhln ?qhlen ?qhsn ?qhsk ?qhline ?_
  case qX => k_asm
  case qe => k_is
  case qhc => with_unfolding_all rfl
  case qhm => k_mem
  case qhd => assumption
  case qhk => rfl
  case qhx => with_unfolding_all rfl
  case qhl => k_mem
  case qhln => rw [leadsFrom_length]; exact (hlen _).2
  case qhlen => exact fun y hy => (leads_fine (hlen _).2 y hy).1
  case qhsn => with_unfolding_all rfl
  case qhsk => rfl
  case qhline => with_unfolding_all rfl
  clear F9 N9
  intro h6 tk6 D6 zs6 F N hD6 hzs
  k_steps
  rename Fr _ _ _ _ => F9
  rename News _ _ _ _ => N9
  refine (show Stop _ from ?_)
  refine max_list_N rfl F9 N9 hD6 hzs (runs_ne (by rw [leadsFrom_length]; have := (hlen scr).1; omega)) ?_
  clear F9 N9
  intro h7 M t7 tk7 F N hM1 hM2
  obtain ⟨lg, rfl, hlg, hruns⟩ := max_runs hM1 hM2 (fun y hy => (leads_fine (hlen _).2 y hy).1)
  clear hM1 hM2 hzs hD6
  k_steps
  rename Fr _ _ _ _ => F9
  rename News _ _ _ _ => N9
  refine (show Stop _ from ?_)
  refine' readers_use (lg := lg) F9 N9 ?qX (topRead_of T9) ?qd ?qh ?qe ?qob ?qfd ?qsw ?qclos ?qcell ?qk ?qkc ?qnames ?qx ?qy ?qx1 ?qx2 ?qc ?qm ?qcd ?ql hlv ?qln ?qlen ?qlg ?qs ?qiter ?_
  case qX => k_asm
  case qd => simp only [depth_deeper]; decide
  case qh => rfl
  case qe => k_is
  case qob => k_is
  case qfd => rfl
  case qsw => with_unfolding_all rfl
  case qclos => with_unfolding_all rfl
  case qcell => decide
  case qk => rfl
  case qkc => rfl
  case qnames => decide
  case qx => with_unfolding_all rfl
  case qy => with_unfolding_all rfl
  case qx1 => intro _; with_unfolding_all rfl
  case qx2 => intro _; with_unfolding_all rfl
  case qc => with_unfolding_all rfl
  case qm => k_mem
  case qcd => assumption
  case ql => k_mem
  case qln => rw [leadsFrom_length]; exact (hlen _).2
  case qlen => exact fun y hy => by have := (leads_fine (hlen _).2 y hy).1; omega
  case qlg => omega
  case qs => intro _; with_unfolding_all rfl
  case qiter =>
    k_steps
    rename Fr _ _ _ _ => F9
    rename News _ _ _ _ => N9
    rename IsRange _ _ _ _ _ _ _ _ => hr9
    exact ⟨_, _, _, _, _, _, rfl, rfl, hr9, F9, N9⟩
  clear F9 N9
  intro D9 k9 h9 tk9 rv led9 F N hrv hnD hnl hnn
  k_steps
  rename Fr _ _ _ _ => F9
  rename News _ _ _ _ => N9
  rename Top _ _ _ _ _ _ => T9
  refine (show Stop _ from ?_)
  clear G Y X V B TE TW M
  rename (Obj.data _ = Data.cell (some (Value.ref lA))) => dL
  simp only [List.forall_mem_cons] at hnD
  obtain ⟨base, hbase, hJ, offP, offA⟩ := law_ledger (drawn := s₁.drawn) (tk := tk9) (os0 := s₁.os) F9 N9 hnn (by assumption) (by assumption) rfl rfl rfl hg
    (Nat.ne_of_lt (Nat.lt_succ_self _)) hne2.2.2.2.2.2.2.1 (Nat.ne_of_gt lN.2.2.2.2.1) hne.2.2.2.2.2.1 hnD.2.2.2.2.2.2.2.1 (Nat.ne_of_lt (Nat.lt_succ_of_lt (Nat.lt_succ_self _))) hne2.2.2.2.2.2.1 (Nat.ne_of_gt lN.2.2.2.1) hne.2.2.2.2.1 hnD.2.2.2.2.2.2.1
  subst hbase
  have hPA : s₁.heap.objs.size + 1 + 1 + 1 ≠ s₁.heap.objs.size + 1 + 1 := Nat.succ_ne_self _
  clear N9 F9 hnn hnl hnD hne hne2 lN lD hlA hpA
  have hJ0 := hJ
  obtain ⟨M, oP, oA, vP, vA, F, N, hdP, hdA, hm1, hm2, hm3, hgens, hos⟩ := hJ
  refine for_stop ?_ (by intro _; with_unfolding_all rfl)
  have hlvl := hlv.length.trans (leadsFrom_length _ _)
  have hlenS := hlen scr
  k_steps
  rename Fr _ _ _ _ => F9
  rename News _ _ _ _ => N9
  rename IsRange _ _ _ _ _ _ _ _ => hr9
  have hlsl : (leadsFrom (Str.ofString "") (lawNums scr)).length = (lawNums scr).length := leadsFrom_length _ _
  refine (show Stop _ from ?_)
  unfold ForRest
  refine law_for (os0 := s₁.os) rfl hr9 (by omega) ⟨M, oP, oA, vP, vA, F9, N9, hdP, hdA, hm1, hm2, hm3, hgens, hos⟩ ?_ ?_ (by intro _ _; rfl)
  · clear hJ0 F9 N9 hr9 hdP hdA hm1 hm2 hm3 hgens hos
    intro i t s₂ I o M oP oA vP vA hi F N dP dA m1 m2 m3 hgb hos hIp hIa hIb
    refine wpAny_assign_Name ?_
    k_dflt (refine' storeX_C F N ?qc (UpdF.head ?qU) dP ?_ ?qa ?qb)
    case qc => rfl
    case qa => rfl
    case qb => rfl
    case qU => exact List.forall_mem_cons.mpr ⟨hPA, List.forall_mem_cons.mpr ⟨hIp, offP⟩⟩
    intro h3 oP3 F N dP3
    have hpvl := hpv.length
    have F := fr_pin (fr_pin (fr_pin F (x := Str.ofString "paths") m1) (x := Str.ofString "numbers") m2) (x := Str.ofString "readers") m3
    have hpsl := psAt_length (leadsFrom (Str.ofString "") (lawNums scr)) (lawNums scr) (leadsFrom (Str.ofString "") (lawNums scr)).length
    have hpth := path_short (ls := leadsFrom (Str.ofString "") (lawNums scr)) (ns := lawNums scr) (n := (leadsFrom (Str.ofString "") (lawNums scr)).length) (by omega) (i : Int).toNat
    have hf3 := Int.fmod_lt_of_pos (((lawNums scr).getD (i : Int).toNat 0).fdiv 16) (show (0 : Int) < 3 by decide)
    have hf0 := Int.fmod_nonneg_of_pos (((lawNums scr).getD (i : Int).toNat 0).fdiv 16) (show (0 : Int) < 3 by decide)
    k_steps
    rename Fr _ _ _ _ => F9
    rename News _ _ _ _ => N9
    refine (show Stop _ from ?_)
    refine' parents_use2 rfl (As := (stAt (leadsFrom (Str.ofString "") (lawNums scr)) (i + 1)).map (pathAt (leadsFrom (Str.ofString "") (lawNums scr)) (lawNums scr))) F9 N9 KX (topRead_of T9) ?qd rfl ?qk rfl (told_path (by omega)) (path_chain _ _ (i + 1) i (Nat.lt_succ_self _)) ?ql (stack_len _ _ _ (by omega)) ?_
    case qd => simp only [depth_deeper]; decide
    case qk => rfl
    case ql => rw [Str.length_append]; omega
    clear F9 N9
    intro h4 tk4 gs Is hbare hIA hIgn hNB hIok hIst F N
    k_steps
    rename Fr _ _ _ _ => F9
    rename News _ _ _ _ => N9
    refine (show Stop _ from ?_)
    refine' told_use F9 N9 ?qd ?qu rfl rfl rfl (isl_cls w) hIok hIst hNB ?_
    case qd => simp only [depth_deeper]; decide
    case qu => exact Nat.le_of_ble_eq_true rfl
    have hNe := fun S hS => ne_new N9 (o := S) hS
    clear F9 N9
    intro h5 tk5 gens5 tv tc S hfin honly F N hS htv
    have hgb5 : AllBare gens5 := bare_after hgb hbare (hIgn ▸ hfin) (hIgn ▸ honly)
    rw [hIA, told_due (M := lg) (fun x hx => (leads_fine (hlen _).2 x hx).2) hruns (by omega)] at htv
    have hSne := hNe S hS
    simp only [List.forall_mem_cons] at hSne
    clear hfin honly hIst hIok hNB hIgn hIA hNe hS hbare
    k_steps
    rename Fr _ _ _ _ => F9
    rename News _ _ _ _ => N9
    rename _ ∧ _ ∧ _ ∧ _ ∧ _ ∧ _ ∧ _ ∧ _ ∧ _ ∧ AllLt _ _ => l9
    refine (show Stop _ from ?_)
    refine for_stop ?_ (by intro _; with_unfolding_all rfl)
    k_steps
    rename Fr _ _ _ _ => F9
    rename News _ _ _ _ => N9
    rename IsRange _ _ _ _ _ _ _ _ => hr9
    refine (show Stop _ from ?_)
    unfold ForRest
    refine law_for2 (os0 := s₁.os) (gens0 := gens5) (due := dueK (leadsFrom (Str.ofString "") (lawNums scr)) (lawNums scr) (lg + 1) i) rfl hr9 (by omega) ⟨_, oA, vA, [], 0, F9, news_sub N9 (l' := (s₁.heap.objs.size + 1 + 1 + 1, oA) :: (_, listOf [].toArray 0) :: (S, listOf tv.toArray tc) :: (s₁.heap.objs.size + 1 + 1, oP3) :: (I, o) :: (s₁.heap.objs.size + 1, _) :: (pA, listOf pv.toArray n5) :: (h1.objs.size, listOf nv.toArray 0) :: (lA, listOf lv.toArray n3) :: (D9, listOf rv.toArray k9) :: led9)
      (List.forall_mem_cons.mpr ⟨by k_mem, List.forall_mem_cons.mpr ⟨by k_mem, List.forall_mem_cons.mpr ⟨by k_mem, List.forall_mem_cons.mpr ⟨by k_mem, List.forall_mem_cons.mpr ⟨by k_mem, List.forall_mem_cons.mpr ⟨by k_mem, List.forall_mem_cons.mpr ⟨by k_mem, List.forall_mem_cons.mpr ⟨by k_mem, List.forall_mem_cons.mpr ⟨by k_mem, List.forall_mem_cons.mpr ⟨by k_mem, fun p hp => by repeat (first | exact hp | refine .tail _ ?_)⟩⟩⟩⟩⟩⟩⟩⟩⟩⟩),
      dA, .nil, rfl, rfl, rfl, rfl, rfl, rfl, hos⟩ ?_ ?_ (by intro _ _; rfl)
    · clear F9 N9 hr9 m1 m2 m3 dA
      intro k t s₃ I2 o2 M oA2 vA2 dv kd hk F N dA2 hdv m1 m2 m3 m4 m5 hg2 hos2 hI2A hI2d hI2b
      refine wpAny_assign_Name ?_
      k_dflt (refine' storeX_C F N ?qc (UpdF.head ?qU) dA2 ?_ ?qa ?qb)
      case qc => rfl
      case qa => rfl
      case qb => rfl
      case qU => exact List.forall_mem_cons.mpr ⟨Ne.symm (ne_lt l9.2.2.1), List.forall_mem_cons.mpr ⟨hI2A, off_above hSne.2.1 hPA hIa offA⟩⟩
      clear F N
      intro h6 oA3 F N dA3
      have F := fr_pin (fr_pin (fr_pin (fr_pin (fr_pin F (x := Str.ofString "paths") m1) (x := Str.ofString "numbers") m2) (x := Str.ofString "readers") m3) (x := Str.ofString "told") m4) (x := Str.ofString "due") m5
      k_steps
      rename Fr _ _ _ _ => F9
      rename News _ _ _ _ => N9
      refine (show Stop _ from ?_)
      refine' pick_comp (i := i) F9 N9 rfl ?qv ?q9 hrv ?qled ?qn ?qi ?qls ?qkc ?ql9 ?qclos ?qcell ?qk ?qnames ?qx ?qx1 ?qx2 ?qcA ?qmA dA3 ?qcP ?qmP dP3 rfl ?_
      case qv => rfl
      case q9 => k_mem
      case qled => exact fun p hp => by repeat (first | exact hp | refine .tail _ ?_)
      case qn => omega
      case qi => omega
      case qls => omega
      case qkc => rfl
      case ql9 => with_unfolding_all rfl
      case qclos => with_unfolding_all rfl
      case qcell => decide
      case qk => rfl
      case qnames => decide
      case qx => with_unfolding_all rfl
      case qx1 => intro _; with_unfolding_all rfl
      case qx2 => intro _; with_unfolding_all rfl
      case qcA => with_unfolding_all rfl
      case qmA => k_mem
      case qcP => with_unfolding_all rfl
      case qmP => k_mem
      clear F9 N9
      intro D7 k7 h7 tk7' ys F N hD7 hys
      simp only [List.forall_mem_cons] at hD7
      k_steps
      rename Fr _ _ _ _ => F9
      rename News _ _ _ _ => N9
      refine (show Stop _ from ?_)
      refine eq_empty N9 (.tail _ (.head _)) (.head _) (Nat.le_of_ble_eq_true rfl) ?_
      have hrk := hys.trans (rank_sizes (a := i - 1 - k) (by omega))
      have N10 := news_rest N9
      have hds := dueK_succ (ls := leadsFrom (Str.ofString "") (lawNums scr)) (ns := lawNums scr) (n := lg + 1) hk
      have hsl := dv.length
      clear N9
      cases hb : decide (ys = []) with
      | true =>
        rw [if_pos (hrk.mp (of_decide_eq_true hb))] at hds
        k_steps
        rename Fr _ _ _ _ => F9
        rename News _ _ _ _ => N9
        refine (show Stop _ from ?_)
        have hdl := hdv.length
        have hdl2 := dueK_len (leadsFrom (Str.ofString "") (lawNums scr)) (lawNums scr) (lg + 1) i k
        refine append_K F9 N9 (.tail (ne_lt l9.2.2.1) (.head (List.forall_mem_cons.mpr ⟨hI2d, off_due l9⟩))) ?_ (size_ok (by rw [List.size_toArray]; omega))
        clear F9 N9
        intro h8 F N
        rw [List.push_toArray] at N
        dsimp only
        k_steps
        rename Fr _ _ _ _ => F9
        rename News _ _ _ _ => N9
        exact turn2_next F9 N9 dA3 (due_more hk (by omega) hdv hds) rfl rfl rfl rfl rfl hg2 hos2
      | false =>
        rw [if_neg (fun q => of_decide_eq_false hb (hrk.mpr q)), List.append_nil] at hds
        k_steps
        rename Fr _ _ _ _ => F9
        rename News _ _ _ _ => N9
        exact turn2_next F9 N9 dA3 (hds ▸ hdv) rfl rfl rfl rfl rfl hg2 hos2
    · clear F9 N9 hr9 m1 m2 m3 dA
      intro s₃ H2
      obtain ⟨M, oA2, vA2, dv, kd, F, N, dA2, hdv, m1, m2, m3, m4, m5, hg2, hos2⟩ := H2
      rw [dueK_all] at hdv
      have F := fr_pin (fr_pin (fr_pin (fr_pin (fr_pin F (x := Str.ofString "paths") m1) (x := Str.ofString "numbers") m2) (x := Str.ofString "readers") m3) (x := Str.ofString "told") m4) (x := Str.ofString "due") m5
      dsimp only
      k_steps
      rename Fr _ _ _ _ => F9
      rename News _ _ _ _ => N9
      refine (show Stop _ from ?_)
      refine ne_strs (News.isList N9 (by k_mem)) (News.isList N9 (by k_mem)) htv hdv (dues_ok (by omega)) (Nat.le_of_ble_eq_true rfl) ?_
      clear htv hdv
      k_steps
      rename Fr _ _ _ _ => F9
      rename News _ _ _ _ => N9
      exact turn_next F9 N9 (List.forall_mem_cons.mpr ⟨by k_mem, List.forall_mem_cons.mpr ⟨by k_mem, List.forall_mem_cons.mpr ⟨by k_mem, fun p hp => by repeat (first | exact hp | refine .tail _ ?_)⟩⟩⟩) dP3 dA2 rfl rfl rfl (hg2 ▸ hgb5) hos2
  · intro s₃ H2
    obtain ⟨M, oP, oA, vP, vA, F, N, dP, dA, m1, m2, m3, hgb, hos⟩ := H2
    dsimp only
    k_steps
    rename Fr _ _ _ _ => F9
    dsimp only
    exact goodWG_true F9 hgb (raisesW_false (by wrow_none_raised)) (by wrow_post) hos⟩
end Mine
end

theorem PySem.Challenge.cw_ij0041_01_holds : PySem.Challenge.rw_ij0041_01.Holds :=
  Mine.law_holds
