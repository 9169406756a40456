import PyProof.Rows.All
import Wide.All
import OpenK.AllK
import Wide.FinOn
import PySem.Challenge.RW_rt0031_01
open PySem PySem.W PyProof.Rows
set_option Elab.async false
set_option rowWalk.seconds 0
set_option maxRecDepth 100000
namespace Mine
/-- the statements of the text that the view keeps, by their places -/
def viewB : List Stmt := [0, 2, 4, 5, 6, 11, 13, 15, 16, 18, 20, 22, 23, 24, 25, 26, 28, 29, 30, 31, 32, 33, 34, 35].filterMap fun i => PySem.Challenge.pw_rt0031_01.main.body[i]?
def viewK : Program := { PySem.Challenge.pw_rt0031_01 with main := { PySem.Challenge.pw_rt0031_01.main with body := viewB } }
abbrev looseK : List Str := [Str.ofString "b2a_base64", Str.ofString "b64encode"]
abbrev rowK : OpenRow := PySem.Challenge.rw_rt0031_01.row
/-- the head over any hook -/
theorem head_of (H : Hook) {d : DefRec} {kwd : List (Str × PySem.Expr)} (said : rowK.wellSaid = true) (hdef : defOf viewK rowK.name = some (d, kwd)) (hp : rowK.prog.theDef rowK.name = some (d.params, d.body, d.scope)) (hk : kwWritten? d.params.kwonlyargs d.params.kw_defaults = some kwd)
    (left : LeftO rowK.prog viewK looseK (fun s => xlAt viewK [] s && recOk (RowW.records rowK.toRowW) s) H.obs H.val 2726)
    (hw : rowK.toRowW.promised)
    (call : WalkO viewK looseK (XL viewK []) H.says rowK.toRowW d kwd fun f vs => PySem.call f vs) : rowK.Holds :=
  holds_open (q := viewK) (loose := looseK) (Xt := fun s => xlAt viewK [] s && recOk (RowW.records rowK.toRowW) s) (XP := XL viewK []) (Yf := H.obs) (Ya := H.val) (YP := H.says) (N := 2726) left (Hook.of H) (Hook.keeps H) (fun s e => xl_of s (Bool.and_eq_true_iff.mp e).1) XL.keeps hdef hp hk (fun s e => recFacts_of (Bool.and_eq_true_iff.mp e).2) rfl said (by decide +kernel) ⟨rfl, rfl, rfl, rfl, rfl, by decide +kernel⟩ hw call
local macro_rules | `(tactic| o_head $H) => `(tactic| (apply head_of $H (by assumption) (by rfl) (by rfl) (by rfl); case left => exact fun w => by kernel_rfl))
set_option maxRecDepth 100000 in
set_option maxHeartbeats 8000000 in
open_top hd for PySem.Challenge.rw_rt0031_01
end Mine
section
namespace Mine
noncomputable abbrev LV : List Str := looseW Mine.viewK [Str.ofString "b2a_base64", Str.ofString "b64encode"]
/-- a contract of the def at f: for arguments vs with pre it gives back R, all else stays -/
def Ct (f : Addr) (d : Nat) (pre : Prop) (vs : List Value) (R : Tok → Value) : Prop :=
  ∀ (prog : Program) (w : World) (mean : ExcName → Option Value) (mg mb : Str → Option Value) (news : List (Addr × Obj))
    (dp un : Nat) (gd : Option (List Code)) (cn : Str) (cs : Scope) (a : Addr) (ccd : Value) (cl : List (Str × Addr)) (outer : List Env) (A₀ : Around) (base h₀ : Heap) (L : Addr) (m : Str → Option Value) (s : Shared) (Q E : Value → Shared → Prop),
    Below A₀ base outer h₀ → Fr h₀ L s.heap m → (Mine.hd.heap_39 w.params).In h₀ → News h₀ L s.heap news → Top Mine.viewK LV mean mg mb h₀ → cs.kind = .function →
    pre → dp + d < recursionLimit → un + 8 * d < cLine →
    (∀ (t : Tok) (h' : Heap) (tk' : Nat), Fr h₀ L h' m → News h₀ L h' news → Q (R t) { s with heap := h', toks := tk' }) →
    wpAny (model prog w) (ktrTop dp un gd cn cs L a ccd cl outer) (call (.ref f) vs) Q E s
theorem Ct.use {f : Addr} {d : Nat} {pre : Prop} {vs : List Value} {R : Tok → Value} (c : Ct f d pre vs R)
    {prog : Program} {w : World} {mean : ExcName → Option Value} {mg mb : Str → Option Value} {news : List (Addr × Obj)}
    {dp un : Nat} {gd : Option (List Code)} {cn : Str} {cs : Scope} {a : Addr} {ccd : Value} {cl : List (Str × Addr)} {outer : List Env} {A₀ : Around} {base h₀ : Heap} {L : Addr} {m : Str → Option Value} {s : Shared} {Q E : Value → Shared → Prop}
    (B : Below A₀ base outer h₀) (F : Fr h₀ L s.heap m) (X : (Mine.hd.heap_39 w.params).In h₀) (N : News h₀ L s.heap news) (T : Top Mine.viewK LV mean mg mb h₀) (hk : cs.kind = .function)
    (hp : pre) (hd : dp + d < recursionLimit) (hu : un + 8 * d < cLine)
    (hret : ∀ (t : Tok) (h' : Heap) (tk' : Nat), Fr h₀ L h' m → News h₀ L h' news → Q (R t) { s with heap := h', toks := tk' }) :
    wpAny (model prog w) (ktrTop dp un gd cn cs L a ccd cl outer) (call (.ref f) vs) Q E s :=
  c _ _ _ _ _ _ _ _ _ _ _ _ _ _ _ _ _ _ _ _ _ _ _ B F X N T hk hp hd hu hret
def Fill (_ : OpenLaw) (_ : Params → Frag) : Prop := True
end Mine

end
section
open PySem.Calls PySem.Spec
namespace Mine
/-- a text by its signs' numbers -/
def mkS (l : List Nat) : Str := ⟨l.toArray⟩
/-- c letters A .. P: the figures of n by 16, highest first -/
def hexD (n c : Nat) : List Nat := (List.range c).map fun k => 65 + n / 16 ^ (c - 1 - k) % 16
/-- Int2AP's octets -/
def apD (n : Nat) : List Nat := if h : n = 0 then [] else apD (n / 16) ++ [65 + n % 16]
termination_by n
decreasing_by omega
def apB (n : Nat) : Array UInt8 := ((apD n).map UInt8.ofNat).toArray
def folders (n f : Nat) : List (List Nat) := (List.range f).map fun j => hexD (n / 4096 ^ (f - 1 - j)) 3
def plainL (n f : Nat) : List Nat := 47 :: List.intercalate [47] (folders n f)
def plainS (n : Int) (f : Int) : Str := mkS (plainL n.toNat f.toNat)
def lettersS (n c : Int) : Str := mkS (hexD n.toNat c.toNat)
def b64T : List Nat := [65,66,67,68,69,70,71,72,73,74,75,76,77,78,79,80,81,82,83,84,85,86,87,88,89,90,97,98,99,100,101,102,103,104,105,106,107,108,109,110,111,112,113,114,115,116,117,118,119,120,121,122,48,49,50,51,52,53,54,55,56,57,43,47]
def bitsL (n : Nat) : List Nat := (List.range 8).map fun k => b64T.getD (n / 64 ^ (7 - k) % 64) 0
def bitsS (n : Int) : Str := mkS (bitsL n.toNat)
def octs (n : Nat) : List UInt8 := (List.range 6).map fun k => UInt8.ofNat (n / 256 ^ (5 - k) % 256)
end Mine

namespace Mine
section
variable {prog : Program} {w : World} {A : Around} {E : Value → Shared → Prop} {s : Shared} {h₀ : Heap} {L : Addr} {m : Str → Option Value} {env : Env}
/-- what an iterator must tell for a comprehension to go over it -/
def Src (prog : Program) (w : World) (A : Around) (h₀ : Heap) (L : Addr) (m : Str → Option Value) (env : Env) (elt : Expr) (x : Str) (scope : Scope) (cl : List (Str × Addr)) (Fin : Shared → List Value → List (Addr × Obj) → Prop) (it : Value) (s₂ : Shared) : Prop :=
  ∃ (I : Addr) (fp : List Addr) (n : Nat) (P : Nat → Value → Prop) (St : Nat → Heap → Prop) (S : List (Addr × Obj) → Prop) (news : List (Addr × Obj)), it = .ref I ∧ Walks prog w A I fp [I] n P St ∧ n ≤ sizeLine ∧ (∀ i h, St i h → ∃ o, h.get? I = some o) ∧
    (∀ i h h' o nw, St i h → h.get? I = some o → h'.get? I = some o → (∀ b o, h₀.get? b = some o → h'.get? b = some o) → News h₀ L h' nw → S nw → St i h') ∧
    St 0 s₂.heap ∧ (∀ b ∈ fp, b < s₂.heap.objs.size) ∧ Fr h₀ L s₂.heap m ∧ News h₀ L s₂.heap news ∧ L ≠ I ∧ h₀.get? I = none ∧ (∀ p ∈ news, p.1 ≠ I) ∧ S news ∧
    LCg.CompRest prog w A h₀ L m env elt x scope cl s₂ S P (Fin s₂) n 0 [] news
theorem lc_gen {elt iter : Expr} {x : Str} {px : Pos} {scope : Scope} {cl : List (Str × Addr)} {pos : Pos} {Q : Value → Shared → Prop} (F₀ : Fr h₀ L s.heap m)
    (hclos : closureFor scope env = pure cl) (hcell : ∀ y ∈ scope.names, y.2 ≠ .cell) (hkind : scope.kind = .function)
    (hnames : ∀ y ∈ scope.names, y.2 = .local → scope.names.lookup y.1 = some .local) (hx : scope.names.lookup x = some .local)
    (h : wpAny (model prog w) A (eval iter env) (fun xv s₁ => wpAny (model prog w) A (pyIter xv) (Src prog w A h₀ L m env elt x scope cl (fun s₂ => LCg.FinE h₀ L m s₂ Q)) E s₁) E s)
    (hs : ∀ x, foldedSetIterable iter env x = pure x := by intro _; rfl) :
    wpAny (model prog w) A (eval (.ListComp elt [⟨.Name x px, iter, [], 0⟩] scope pos) env) Q E s := by
  rw [eval_ListComp]
  refine wpAny_comprehension_free (use := none) rfl hs hclos hkind hnames (wpAny_mono h (fun xv s₁ h₁ => ?_) fun _ _ e => e)
  refine wpAny_mono h₁ (fun it s₂ h₂ => ?_) fun _ _ e => e
  obtain ⟨I, fp, n, P, St, S, news, rfl, W, hsz, hIo, hSt, hst, hfp, F, N, hIL, hI₀, off, hS, R⟩ := h₂
  refine LCg.block_U W hsz hIo hSt hcell hkind hx hst hfp F N hIL hI₀ off hS R ?_
  intro D C h tk m' ys news' F' N' o1 hn hC₀ hD₀ hCL hDL hCD offC fin
  refine ⟨m', hn, fun h'' hs'' => fin D h'' tk (F'.change hs'' hCL hC₀) (fun p hp => ?_) o1⟩
  refine ⟨hs''.extBut _ _ ?_ (N' p hp).1, (N' p hp).2⟩
  rcases List.mem_cons.mp hp with rfl | hp
  · exact Ne.symm hCD
  · exact offC p hp
/-- the turns of a comprehension whose elements hang on the turn alone -/
theorem rest_map {elt : Expr} {x : Str} {scope : Scope} {cl : List (Str × Addr)} {S : List (Addr × Obj) → Prop} {P : Nat → Value → Prop} {Fin : List Value → List (Addr × Obj) → Prop} {news : List (Addr × Obj)} {n : Nat} (G : Nat → Value → Prop)
    (turn : ∀ i v I oI C oC D m₂ ys h tk (E' : Value → Shared → Prop), i < n → P i v → LCg.NsObj oC m₂ → m₂ x = some v → Fr h₀ L h m → News h₀ L h ((I, oI) :: (C, oC) :: (D, LCg.lst ys) :: news) → LCg.Off3 I C D news → ((@Ne Nat I C) ∧ (@Ne Nat I D) ∧ (@Ne Nat C D)) →
      wpAny (model prog w) A (eval elt (compEnvC scope cl C env)) (LCg.CompEnd h₀ L m { s with heap := h, toks := tk } I oI C oC D (LCg.lst ys) S (fun y news' => news' = news ∧ G i y)) E' { s with heap := h, toks := tk })
    (fin : ∀ ys : List Value, ys.length = n → (∀ i v, ys[i]? = some v → G i v) → Fin ys news) : LCg.CompRest prog w A h₀ L m env elt x scope cl s S P Fin n 0 [] news := by
  have key : ∀ (j i : Nat) (ys : List Value), i + j = n → ys.length = i → (∀ k v, ys[k]? = some v → G k v) → LCg.CompRest prog w A h₀ L m env elt x scope cl s S P Fin j i ys news := by
    intro j
    induction j with
    | zero => intro i ys hi hl hy; exact LCg.CompRest.zero (fin ys (by omega) hy)
    | succ j ih =>
      intro i ys hi hl hy
      refine LCg.CompRest.succ ?_
      intro v I oI C oC D m₂ h tk E' hv hC hx F N off ne
      refine wpAny_mono (turn i v I oI C oC D m₂ ys h tk E' (by omega) hv hC hx F N off ne) (fun y s₂ hq => ?_) fun _ _ e => e
      obtain ⟨h', tk', nw, e, F', N', off', hS, hn, hy'⟩ := hq
      rw [hn] at N' off' hS
      refine ⟨h', tk', news, e, F', N', off', hS, ?_⟩
      refine ih (i + 1) _ (by omega) (by rw [List.length_append, hl]; rfl) ?_
      intro k u hk
      rw [List.getElem?_append] at hk
      split at hk
      · exact hy k u hk
      · rename_i hlt
        have e0 : k - ys.length = 0 := by
          cases q : k - ys.length with
          | zero => rfl
          | succ z => rw [q] at hk; simp at hk
        rw [e0] at hk
        simp only [List.getElem?_cons_zero, Option.some.injEq] at hk
        subst hk
        have : k = i := by omega
        subst this
        exact hy'
  exact key n 0 [] (by omega) rfl (by intro k v hk; simp at hk)
end
end Mine

namespace Mine
section
variable {prog : Program} {w : World} {A : Around} {E : Value → Shared → Prop} {s : Shared} {h₀ : Heap} {L : Addr} {m : Str → Option Value} {env : Env} {elt : Expr} {x : Str} {scope : Scope} {cl : List (Str × Addr)} {Fin : Shared → List Value → List (Addr × Obj) → Prop} {news : List (Addr × Obj)}
theorem src_bytes {b : Array UInt8} {t : Tok} (hh : A.handled = none) (hsz : b.size ≤ sizeLine) (F : Fr h₀ L s.heap m) (N : News h₀ L s.heap news)
    (R : ∀ s₂ : Shared, (∃ g, s₂ = { s with heap := g }) → LCg.CompRest prog w A h₀ L m env elt x scope cl s₂ (fun _ => True) (fun i v => ∃ c u, b[i]? = some c ∧ v = .int (c.toNat : Int) u) (Fin s₂) b.size 0 [] news) :
    wpAny (model prog w) A (pyIter (.bytes b t)) (Src prog w A h₀ L m env elt x scope cl Fin) E s := by
  refine KBw.pyIter_bytes ?_
  have up : ∀ b' o, s.heap.get? b' = some o → (s.heap.push { cls := .type "bytes_iterator", data := .fields #[.bytes b t, .int 0 0] }).get? b' = some o := fun b' o e => Heap.get?_push_of_some _ e
  refine ⟨_, _, _, _, _, _, news, rfl, KBw.walks hh s.heap.objs.size b t, hsz, fun i h st => ?_, ?_, ⟨_, Heap.get?_push_size _ rfl, rfl, rfl⟩, fun b' hb => ?_, F.keeps up, N.grown up, Nat.ne_of_lt F.ns.lt, next_is_new F, fun p hp => Nat.ne_of_lt (Heap.lt_size (N p hp).1), trivial, R _ ⟨_, rfl⟩⟩
  · obtain ⟨o, e, _⟩ := st; exact ⟨o, e⟩
  · intro i h h' o nw st e e' _ _ _
    obtain ⟨o2, q, r⟩ := st
    rw [e] at q; cases q
    exact ⟨o, e', r⟩
  · rw [List.mem_singleton.mp hb]
    show s.heap.objs.size < (s.heap.push _).objs.size
    rw [Heap.size_push]; exact Nat.lt_succ_self _
theorem src_range {r : Addr} {a b c : Int} {t u v : Tok} {n : Nat} (hh : A.handled = none) (hr : IsRange s.heap r a b c t u v) (hsm : Builtin.Range.small a b c = true) (hn : Builtin.Range.rangeSize a b c = ((n : Nat) : Int)) (hsz : n ≤ sizeLine) (F : Fr h₀ L s.heap m) (N : News h₀ L s.heap news)
    (R : ∀ s₂ : Shared, (∃ g, s₂ = { s with heap := g }) → LCg.CompRest prog w A h₀ L m env elt x scope cl s₂ (fun _ => True) (fun i v => ∃ t, v = .int (a + (i : Int) * c) t) (Fin s₂) n 0 [] news) :
    wpAny (model prog w) A (pyIter (.ref r)) (Src prog w A h₀ L m env elt x scope cl Fin) E s := by
  refine wpAny_pyIter_range hr hsm ?_
  have up : ∀ b' o, s.heap.get? b' = some o → (s.heap.push { cls := .type "range_iterator", data := .fields #[rawInt a, rawInt (Builtin.Range.rangeSize a b c), rawInt c] }).get? b' = some o := fun b' o e => Heap.get?_push_of_some _ e
  refine ⟨_, _, _, _, _, _, news, rfl, Walks.range hh s.heap.objs.size a c n, hsz, fun i h st => ⟨_, st⟩, ?_, ?_, fun b' hb => ?_, F.keeps up, N.grown up, Nat.ne_of_lt F.ns.lt, next_is_new F, fun p hp => Nat.ne_of_lt (Heap.lt_size (N p hp).1), trivial, R _ ⟨_, rfl⟩⟩
  · intro i h h' o nw st e e' _ _ _
    have st' : h.get? _ = some _ := st
    show h'.get? _ = some _
    rw [e', ← e]; exact st'
  · show IsRangeIter _ _ _ _ _
    rw [hn]; simpa using Heap.get?_push_size _ rfl
  · rw [List.mem_singleton.mp hb]
    show s.heap.objs.size < (s.heap.push _).objs.size
    rw [Heap.size_push]; exact Nat.lt_succ_self _
theorem src_list {ax : Addr} {its : Array Value} (hh : A.handled = none) (hl : LCg.SrcAt h₀ ax its news) (hsz : its.size ≤ sizeLine) (F : Fr h₀ L s.heap m) (N : News h₀ L s.heap news)
    (R : ∀ s₂ : Shared, (∃ g, s₂ = { s with heap := g }) → LCg.CompRest prog w A h₀ L m env elt x scope cl s₂ (LCg.SrcAt h₀ ax its) (fun i v => its[i]? = some v) (Fin s₂) its.size 0 [] news) :
    wpAny (model prog w) A (pyIter (.ref ax)) (Src prog w A h₀ L m env elt x scope cl Fin) E s := by
  have hl' := hl.list F.keep N
  have hlt : ax < s.heap.objs.size := by obtain ⟨_, e, _⟩ := hl'; exact Heap.lt_size e
  refine wpAny_pyIter_list hl' ?_
  have up : ∀ b' o, s.heap.get? b' = some o → (s.heap.push { cls := .type "list_iterator", data := .fields #[.ref ax, .int 0 0] }).get? b' = some o := fun b' o e => Heap.get?_push_of_some _ e
  refine ⟨_, _, _, _, _, _, news, rfl, Walks.list hh s.heap.objs.size ax (Nat.ne_of_lt hlt) its, hsz, fun i h st => ?_, LCg.list_st, ⟨⟨_, Heap.get?_push_size _ rfl, rfl, rfl⟩, hl'.push _⟩, fun b' hb => ?_, F.keeps up, N.grown up, Nat.ne_of_lt F.ns.lt, next_is_new F, fun p hp => Nat.ne_of_lt (Heap.lt_size (N p hp).1), hl, R _ ⟨_, rfl⟩⟩
  · obtain ⟨o, e, _⟩ := st.1; exact ⟨o, e⟩
  · show b' < (s.heap.push _).objs.size
    rw [Heap.size_push]
    rcases List.mem_cons.mp hb with rfl | hb
    · exact Nat.lt_succ_self _
    · rw [List.mem_singleton.mp hb]; exact Nat.lt_succ_of_lt hlt
theorem strsAreOf {n : Nat} {g : Nat → Str} : ∀ {ys : List Value}, ys.length = n → (∀ (i : Nat) (v : Value), ys[i]? = some v → ∃ t, v = .str (g i) t) → StrsAre ys ((List.range n).map g) := by
  intro ys
  have key : ∀ (ys : List Value) (f : Nat → Str), (∀ (i : Nat) (v : Value), ys[i]? = some v → ∃ t, v = .str (f i) t) → StrsAre ys ((List.range ys.length).map f) := by
    intro ys
    induction ys with
    | nil => intro f _; exact .nil
    | cons y r ih =>
      intro f h
      obtain ⟨t, rfl⟩ := h 0 y rfl
      rw [List.length_cons, List.range_succ_eq_map, List.map_cons, List.map_map]
      exact .cons _ _ (ih (fun i => f (i + 1)) fun i v hv => h (i + 1) v (by simpa using hv))
  intro hl h
  subst hl
  exact key ys g h
theorem intsAreOf {n : Nat} {g : Nat → Int} : ∀ {ys : List Value}, ys.length = n → (∀ (i : Nat) (v : Value), ys[i]? = some v → ∃ t, v = .int (g i) t) → IntsAre ys ((List.range n).map g) := by
  intro ys
  have key : ∀ (ys : List Value) (f : Nat → Int), (∀ (i : Nat) (v : Value), ys[i]? = some v → ∃ t, v = .int (f i) t) → IntsAre ys ((List.range ys.length).map f) := by
    intro ys
    induction ys with
    | nil => intro f _; exact .nil
    | cons y r ih =>
      intro f h
      obtain ⟨t, rfl⟩ := h 0 y rfl
      rw [List.length_cons, List.range_succ_eq_map, List.map_cons, List.map_map]
      exact .cons _ _ (ih (fun i => f (i + 1)) fun i v hv => h (i + 1) v (by simpa using hv))
  intro hl h
  subst hl
  exact key ys g h
variable {S : List (Addr × Obj) → Prop} {P : Nat → Value → Prop} {Fin' : List Value → List (Addr × Obj) → Prop} {n : Nat}
/-- every turn gives the text g i -/
theorem rest_strs (g : Nat → Str)
    (turn : ∀ i v I oI C oC D m₂ ys h tk (E' : Value → Shared → Prop), i < n → P i v → LCg.NsObj oC m₂ → m₂ x = some v → Fr h₀ L h m → News h₀ L h ((I, oI) :: (C, oC) :: (D, LCg.lst ys) :: news) → LCg.Off3 I C D news → ((@Ne Nat I C) ∧ (@Ne Nat I D) ∧ (@Ne Nat C D)) →
      wpAny (model prog w) A (eval elt (compEnvC scope cl C env)) (LCg.CompEnd h₀ L m { s with heap := h, toks := tk } I oI C oC D (LCg.lst ys) S (fun y news' => news' = news ∧ ∃ t, y = .str (g i) t)) E' { s with heap := h, toks := tk })
    (fin : ∀ ys : List Value, StrsAre ys ((List.range n).map g) → Fin' ys news) : LCg.CompRest prog w A h₀ L m env elt x scope cl s S P Fin' n 0 [] news :=
  rest_map (fun i y => ∃ t, y = .str (g i) t) turn fun ys hl hy => fin ys (strsAreOf hl hy)
theorem rest_ints (g : Nat → Int)
    (turn : ∀ i v I oI C oC D m₂ ys h tk (E' : Value → Shared → Prop), i < n → P i v → LCg.NsObj oC m₂ → m₂ x = some v → Fr h₀ L h m → News h₀ L h ((I, oI) :: (C, oC) :: (D, LCg.lst ys) :: news) → LCg.Off3 I C D news → ((@Ne Nat I C) ∧ (@Ne Nat I D) ∧ (@Ne Nat C D)) →
      wpAny (model prog w) A (eval elt (compEnvC scope cl C env)) (LCg.CompEnd h₀ L m { s with heap := h, toks := tk } I oI C oC D (LCg.lst ys) S (fun y news' => news' = news ∧ ∃ t, y = .int (g i) t)) E' { s with heap := h, toks := tk })
    (fin : ∀ ys : List Value, IntsAre ys ((List.range n).map g) → Fin' ys news) : LCg.CompRest prog w A h₀ L m env elt x scope cl s S P Fin' n 0 [] news :=
  rest_map (fun i y => ∃ t, y = .int (g i) t) turn fun ys hl hy => fin ys (intsAreOf hl hy)
theorem compEnd_at {s₁ : Shared} {I C D : Addr} {oI oC oD : Obj} {g : Value → Prop} {y : Value} {h' : Heap} {tk : Nat} {all : List (Addr × Obj)}
    (F : Fr h₀ L h' m) (N : News h₀ L h' all) (sub : ∀ p ∈ (I, oI) :: (C, oC) :: (D, oD) :: news, p ∈ all) (off : LCg.Off3 I C D news) (hS : S news) (r : g y) :
    LCg.CompEnd h₀ L m s₁ I oI C oC D oD S (fun y news' => news' = news ∧ g y) y { s₁ with heap := h', toks := tk } := LCg.CompEnd.intro F N news sub off hS ⟨rfl, r⟩
end
end Mine

namespace Mine
section
variable {prog : Program} {w : World} {A : Around} {E : Value → Shared → Prop} {s : Shared}
theorem issub_self {k : Value} {dep : Int} {tk : Tok} {Q : Fin → Shared → Prop} (hk : k = .int dep tk) (hq : Q (.done (.ret (.bool true))) s) :
    wpAny (model prog w) A (Builtin.«issubclass.nested» ⟨[.type "str", .type "str", k], []⟩) Q E s := by
  subst hk
  have hm : typeOf (.type "str") = pure (.type "type") := by first | rfl | kernel_rfl | decide +kernel
  have hself : isSubtype (.type "str") (.type "str") = pure true := by rw [isSubtype_type]; kernel_rfl
  repeat (any_goals (first | assumption | (rw [if_pos hm]) | (rw [hself]) | wp_step))
theorem issub_call {dep : Int} {tk : Tok} {Q : Value → Shared → Prop} (hq : Q (.bool true) s) :
    wpAny (model prog w) A (call (.builtin "issubclass.nested") [.type "str", .type "str", .int dep tk]) Q E s :=
  call_function_entry_kw (by decide +kernel) (by decide +kernel) F.entry_issubclass_nested (by unfold argsOk; kernel_rfl) (issub_self rfl ⟨_, rfl, hq⟩)
theorem issub_pair {D : Addr} {n : Nat} {Q : Value → Shared → Prop} (hD : s.heap.get? D = some (Obj.mk (.type "tuple") none (.seq #[.type "str", .type "bytes"] n) #[]))
    (hq : ∀ t, Q (.bool true) { s with toks := t }) :
    wpAny (model prog w) A (call (.builtin "issubclass") [.type "str", .ref D]) Q E s := by
  refine call_issubclass (S := fun _ R s => s.heap.get? D = some (Obj.mk (.type "tuple") none (.seq #[.type "str", .type "bytes"] n) #[]) ∧ ∀ t, R (.ok (.ret (.bool true))) { s with toks := t }) (fun A' prog' w' R s' hs => issubclass_outer ?_) ⟨hD, hq⟩
  obtain ⟨hd, hr⟩ := hs
  obtain ⟨h, g, d, t, os⟩ := s'
  dsimp only at hd hr
  have hT : (⟨h, g, d, t, os⟩ : Shared).TypeIs (.ref D) "tuple" := ⟨_, hd, rfl⟩
  have hsub : isSubtype (.type "tuple") (.type "tuple") = pure true := by rw [isSubtype_type]; kernel_rfl
  repeat (any_goals (first | assumption | ((with_reducible show wpAny _ _ (call _ _) _ _ _); refine issub_call ?_) | ((with_reducible show wpAny _ _ (truthy _) _ _ _); refine wpAny_truthy_bool ?_) | exact hr _ | wp_step))
end
end Mine

namespace Mine
section
variable {prog : Program} {w : World} {A : Around} {E : Value → Shared → Prop} {s : Shared} {h₀ : Heap} {L : Addr} {m : Str → Option Value} {env : Env}
theorem lc_genA {elt iter : Expr} {x y : Str} {px py : Pos} {scope : Scope} {cl : List (Str × Addr)} {pos spos : Pos} {Q : Flow → Shared → Prop} (F₀ : Fr h₀ L s.heap m) (hLe : env.locals = L)
    (hsw : swapsWith (.ListComp elt [⟨.Name x px, iter, [], 0⟩] scope pos) (some (.Name y py)) spos.line env = pure true)
    (hclos : closureFor scope env = pure cl) (hcell : ∀ z ∈ scope.names, z.2 ≠ .cell) (hkind : scope.kind = .function)
    (hnames : ∀ z ∈ scope.names, z.2 = .local → scope.names.lookup z.1 = some .local) (hx : scope.names.lookup x = some .local)
    (hy : env.kindOf y = some .local) (hp : (env.scope.kind == .class || (env.scope.kind == .module && env.locals != env.globals)) = false)
    (h : wpAny (model prog w) A (eval iter env) (fun xv s₁ => wpAny (model prog w) A (pyIter xv) (Src prog w A h₀ L m env elt x scope cl (fun s₂ => LCg.FinA h₀ L m s₂ y Q)) E s₁) E s)
    (hs : ∀ x, foldedSetIterable iter env x = pure x := by intro _; rfl) :
    wpAny (model prog w) A (exec (.Assign [.Name y py] (.ListComp elt [⟨.Name x px, iter, [], 0⟩] scope pos) spos) env) Q E s := by
  subst hLe
  rw [exec_Assign_Name_used _ _ _ _ hsw]
  refine wpAny_bind (wpAny_standAt (wpAny_bind ?_))
  show wpAny _ A (do let _ ← comprehension (.ListComp elt [⟨.Name x px, iter, [], 0⟩] scope pos) scope env _ (newList []) false (eval iter env) (some (assign (.Name y py) env))) _ _ s
  refine wpAny_bind (wpAny_mono (wpAny_comprehension_free (use := some (assign (.Name y py) env)) (Q := fun _ s' => Q .next s') rfl hs hclos hkind hnames
    (wpAny_mono h (fun xv s₁ h₁ => ?_) fun _ _ e => e)) (fun _ s' hq => wpAny_pure (wpAny_pure hq)) fun _ _ e => e)
  refine wpAny_mono h₁ (fun it s₂ h₂ => ?_) fun _ _ e => e
  obtain ⟨I, fp, n, P, St, S, news, rfl, W, hsz, hIo, hSt, hst, hfp, F, N, hIL, hI₀, off, hS, R⟩ := h₂
  refine LCg.block_U W hsz hIo hSt hcell hkind hx hst hfp F N hIL hI₀ off hS R ?_
  intro D C h' tk m' ys news' F' N' o1 hn hC₀ hD₀ hCL hDL hCD offC fin
  show wpAny _ A (assign (.Name y py) env (.ref D)) _ _ _
  refine wpAny_assign_Name (wpAny_storeName_local hy F'.ns (fun h₂ hn₂ hs₂ => ?_) hp)
  have hL₀ : h₀.get? env.locals = none := Heap.get?_none_of_le F'.above
  have F₂ : Fr h₀ env.locals h₂ (fun z => if z = y then some (.ref D) else m z) := ⟨hn₂, fun b o e => hs₂.extBut b o (fun q => by rw [q, hL₀] at e; cases e) (F'.keep b o e), F'.above⟩
  refine ⟨m', hn.sameBut hs₂ hCL, fun h'' hs'' => fin D h'' _ (F₂.change hs'' hCL hC₀) (fun p hp => ?_) o1⟩
  have z : h₂.get? p.1 = some p.2 := hs₂.extBut _ _ (N' p hp).2.1 (N' p hp).1
  refine ⟨hs''.extBut _ _ ?_ z, (N' p hp).2⟩
  rcases List.mem_cons.mp hp with rfl | hp
  · exact Ne.symm hCD
  · exact offC p hp
end
end Mine

namespace Mine
section
variable {prog : Program} {w : World} {A : Around} {E : Value → Shared → Prop} {s : Shared} {env : Env} {h₀ : Heap} {x : Str} {body : List Stmt} {Q : Flow → Shared → Prop}
/-- a loop over an iterator that stands alone, by J of the turn's number, the frame and the ledger -/
theorem loop_one {I : Addr} {o : Obj} {n : Nat} {P : Nat → Value → Prop} {St : Nat → Heap → Prop} {m₀ : Str → Option Value} {news : List (Addr × Obj)} (J : Nat → (Str → Option Value) → List (Addr × Obj) → Prop)
    (eI : I = s.heap.objs.size) (W : Walks prog w A I [I] [I] n P St) (hIo : ∀ i h, St i h → ∃ o, h.get? I = some o) (hst : St 0 (s.heap.push o)) (F : Fr h₀ env.locals s.heap m₀) (N : News h₀ env.locals s.heap news)
    (j0 : J 0 m₀ news)
    (turn : ∀ i v m₁ news₁ oI h tk, i < n → P i v → J i m₁ news₁ → (∀ p ∈ news₁, p.1 ≠ I) → Fr h₀ env.locals h (fun y => if y = x then some v else m₁ y) → News h₀ env.locals h ((I, oI) :: news₁) →
      wpAny (model prog w) A (execs body env) (UnrPost h₀ env.locals { s with heap := h, toks := tk } I oI (J (i + 1)) Q) E { s with heap := h, toks := tk })
    (done : ∀ m₁ news₁ h tk, J n m₁ news₁ → Fr h₀ env.locals h m₁ → News h₀ env.locals h news₁ → Q .next { s with heap := h, toks := tk }) :
    LoopAtV prog w A h₀ env x body Q E (.ref I) { s with heap := s.heap.push o } := by
  subst eI
  have hnew := next_is_new F
  refine ⟨_, _, _, n, P, St, m₀, news, J, rfl, W, ?_, ?_, ?_, hst, F.push _, (fun p hp => ⟨Heap.get?_push_of_some _ (N p hp).1, (N p hp).2⟩), j0, ?_, ?_⟩
  · intro hm
    exact absurd F.ns.lt ((List.mem_singleton.mp hm) ▸ Nat.lt_irrefl _)
  · intro b hb
    rw [List.mem_singleton.mp hb]
    exact hnew
  · intro p hp hI
    exact absurd (Heap.lt_size (N p hp).1) ((List.mem_singleton.mp hI) ▸ Nat.lt_irrefl _)
  · rintro i v m₁ news₁ s₁ own ⟨hh', tk', rfl⟩ hin hP hJ hoff hown hget hall hst' F₁ N₁
    obtain ⟨oI, hoI⟩ := hIo _ _ hst'
    have hmem := hall s.heap.objs.size (List.mem_singleton.mpr rfl) hnew _ hoI
    have N₂ : News h₀ env.locals hh' ((s.heap.objs.size, oI) :: news₁) := fun p hp => by
      rcases List.mem_cons.mp hp with rfl | hp
      · exact N₁ _ (List.mem_append_left _ hmem)
      · exact N₁ _ (List.mem_append_right _ hp)
    refine wpAny_mono (turn i v m₁ news₁ oI hh' tk' hin hP hJ (fun p hp e => hoff p hp (List.mem_singleton.mpr e)) F₁ N₂) (fun f s₂ p => ?_) fun _ _ e => e
    have fin : UnrEnd h₀ env.locals { s with heap := hh', toks := tk' } s.heap.objs.size oI (J (i + 1)) s₂ →
        LoopStepU h₀ env.locals [s.heap.objs.size] own (J (i + 1)) { s with heap := hh', toks := tk' } .next s₂ := by
      rintro ⟨h', tk, m', news', e, F', N', ho, r⟩
      refine ⟨rfl, h', tk, m', news', e, F', fun p hp => ?_, fun p hp hI => ho p hp (List.mem_singleton.mp hI), r⟩
      rcases List.mem_append.mp hp with hp | hp
      · have h1 : p.1 = s.heap.objs.size := List.mem_singleton.mp (hown p hp)
        have h2 : hh'.get? p.1 = some p.2 := hget p hp
        have h3 : p = (s.heap.objs.size, oI) := by
          rw [h1, hoI] at h2
          exact Prod.ext h1 (Option.some.inj h2).symm
        rw [h3]; exact N' _ (List.mem_cons_self ..)
      · exact N' _ (List.mem_cons_of_mem _ hp)
    cases f with
    | ret v => exact .ret p
    | brk => exact .brk p
    | next => exact .next (fin p)
    | cont => exact .cont (fin p)
  · rintro h' tk m' news' F' N' _ hJ
    exact done m' news' h' tk hJ F' N'
theorem loop_bytes {b : Array UInt8} {t : Tok} {m₀ : Str → Option Value} {news : List (Addr × Obj)} (J : Nat → (Str → Option Value) → List (Addr × Obj) → Prop) (hh : A.handled = none) (F : Fr h₀ env.locals s.heap m₀) (N : News h₀ env.locals s.heap news)
    (j0 : J 0 m₀ news)
    (turn : ∀ I i v m₁ news₁ oI h tk, i < b.size → (∃ c u, b[i]? = some c ∧ v = .int (c.toNat : Int) u) → J i m₁ news₁ → (∀ p ∈ news₁, p.1 ≠ I) → Fr h₀ env.locals h (fun y => if y = x then some v else m₁ y) → News h₀ env.locals h ((I, oI) :: news₁) →
      wpAny (model prog w) A (execs body env) (UnrPost h₀ env.locals { s with heap := h, toks := tk } I oI (J (i + 1)) Q) E { s with heap := h, toks := tk })
    (done : ∀ m₁ news₁ h tk, J b.size m₁ news₁ → Fr h₀ env.locals h m₁ → News h₀ env.locals h news₁ → Q .next { s with heap := h, toks := tk }) :
    wpAny (model prog w) A (pyIter (.bytes b t)) (fun it s₂ => LoopAtV prog w A h₀ env x body Q E it s₂) E s := by
  refine KBw.pyIter_bytes ?_
  refine loop_one J rfl (KBw.walks hh s.heap.objs.size b t) (fun i h st => ?_) ⟨_, Heap.get?_push_size _ rfl, rfl, rfl⟩ F N j0 (turn _) done
  obtain ⟨o, e, _⟩ := st; exact ⟨o, e⟩
theorem loop_tuple {ax : Addr} {lo : Obj} {vs : List Value} {n : Nat} {m₀ : Str → Option Value} {news : List (Addr × Obj)} (J : Nat → (Str → Option Value) → List (Addr × Obj) → Prop) (hh : A.handled = none) (F : Fr h₀ env.locals s.heap m₀) (N : News h₀ env.locals s.heap news)
    (hc : lo.cls = .type "tuple") (hd : lo.data = .seq vs.toArray n) (hm : (ax, lo) ∈ news)
    (j0 : J 0 m₀ news)
    (turn : ∀ I i v m₁ news₁ oI h tk, vs[i]? = some v → J i m₁ news₁ → (ax, lo) ∈ news₁ → (∀ p ∈ news₁, p.1 ≠ I) → Fr h₀ env.locals h (fun y => if y = x then some v else m₁ y) → News h₀ env.locals h ((I, oI) :: news₁) →
      wpAny (model prog w) A (execs body env) (UnrPost h₀ env.locals { s with heap := h, toks := tk } I oI (fun m' n' => (ax, lo) ∈ n' ∧ J (i + 1) m' n') Q) E { s with heap := h, toks := tk })
    (done : ∀ m₁ news₁ h tk, J vs.length m₁ news₁ → Fr h₀ env.locals h m₁ → News h₀ env.locals h news₁ → Q .next { s with heap := h, toks := tk }) :
    wpAny (model prog w) A (pyIter (.ref ax)) (fun it s₂ => LoopAtV prog w A h₀ env x body Q E it s₂) E s := by
  have hax := N _ hm
  have hl : s.heap.IsTuple ax vs.toArray := ⟨lo, hax.1, hc, n, hd⟩
  have hlt : ax < s.heap.objs.size := Heap.lt_size hax.1
  have hne : ax ≠ s.heap.objs.size := Nat.ne_of_lt hlt
  refine wpAny_pyIter_tuple hl ?_
  have W := Walks.tuple (prog := prog) (w := w) hh s.heap.objs.size ax hne vs.toArray
  have hnew := next_is_new F
  have hlen : vs.toArray.size = vs.length := by simp
  rw [hlen] at W
  let J' : Nat → (Str → Option Value) → List (Addr × Obj) → Prop := fun i m₁ news₁ => (ax, lo) ∈ news₁ ∧ J i m₁ news₁
  refine ⟨_, _, _, vs.length, _, _, m₀, news, J', rfl, W, ?_, ?_, ?_, ⟨⟨_, Heap.get?_push_size _ rfl, rfl, rfl⟩, hl.at fun o e => Heap.get?_push_of_some _ e⟩, F.push _, (fun p hp => ⟨Heap.get?_push_of_some _ (N p hp).1, (N p hp).2⟩), ⟨hm, j0⟩, ?_, ?_⟩
  · intro hmm
    rcases List.mem_cons.mp hmm with e | hmm
    · exact absurd F.ns.lt (e ▸ Nat.lt_irrefl _)
    · exact hax.2.1 (List.mem_singleton.mp hmm).symm
  · intro b hb
    rw [List.mem_singleton.mp hb]
    exact hnew
  · intro p hp hI
    exact absurd (Heap.lt_size (N p hp).1) ((List.mem_singleton.mp hI) ▸ Nat.lt_irrefl _)
  · rintro i v m₁ news₁ s₁ own ⟨hh', tk', rfl⟩ hin hP ⟨hmem₁, hJ⟩ hoff hown hget hall hst F₁ N₁
    obtain ⟨it, hit, hic, hid⟩ := hst.1
    have hmemI := hall s.heap.objs.size (List.mem_cons_self ..) hnew _ hit
    have hv : vs[i]? = some v := by simpa using hP
    have N₂ : News h₀ env.locals hh' ((s.heap.objs.size, it) :: news₁) := fun p hp => by
      rcases List.mem_cons.mp hp with rfl | hp
      · exact N₁ _ (List.mem_append_left _ hmemI)
      · exact N₁ _ (List.mem_append_right _ hp)
    refine wpAny_mono (turn _ i v m₁ news₁ it hh' tk' hv hJ hmem₁ (fun p hp e => hoff p hp (List.mem_singleton.mpr e)) F₁ N₂) (fun f s₂ p => ?_) fun _ _ e => e
    have fin : UnrEnd h₀ env.locals { s with heap := hh', toks := tk' } s.heap.objs.size it (fun m' n' => (ax, lo) ∈ n' ∧ J (i + 1) m' n') s₂ →
        LoopStepU h₀ env.locals [s.heap.objs.size] own (J' (i + 1)) { s with heap := hh', toks := tk' } .next s₂ := by
      rintro ⟨h', tk, m', news', e, F', N', ho, hmm, r⟩
      refine ⟨rfl, h', tk, m', news', e, F', fun p hp => ?_, fun p hp hI => ho p hp (List.mem_singleton.mp hI), hmm, r⟩
      rcases List.mem_append.mp hp with hp | hp
      · have h2 : hh'.get? p.1 = some p.2 := hget p hp
        rcases List.mem_cons.mp (hown p hp) with h1 | h1
        · have h3 : p = (s.heap.objs.size, it) := by
            rw [h1, hit] at h2
            exact Prod.ext h1 (Option.some.inj h2).symm
          rw [h3]; exact N' _ (List.mem_cons_self ..)
        · have h1' : p.1 = ax := List.mem_singleton.mp h1
          have h3 : p = (ax, lo) := by
            rw [h1', (N₁ _ (List.mem_append_right _ hmem₁)).1] at h2
            exact Prod.ext h1' (Option.some.inj h2).symm
          rw [h3]; exact N' _ (List.mem_cons_of_mem _ hmm)
      · exact N' _ (List.mem_cons_of_mem _ hp)
    cases f with
    | ret v => exact .ret p
    | brk => exact .brk p
    | next => exact .next (fin p)
    | cont => exact .cont (fin p)
  · rintro h' tk m' news' F' N' _ ⟨_, hJ⟩
    exact done m' news' h' tk hJ F' N'
theorem src_tuple {L : Addr} {m : Str → Option Value} {elt : Expr} {scope : Scope} {cl : List (Str × Addr)} {Fin : Shared → List Value → List (Addr × Obj) → Prop} {news : List (Addr × Obj)} {ax : Addr} {lo : Obj} {its : Array Value} {k : Nat}
    (hh : A.handled = none) (hc : lo.cls = .type "tuple") (hd : lo.data = .seq its k) (hm : (ax, lo) ∈ news) (hsz : its.size ≤ sizeLine) (F : Fr h₀ L s.heap m) (N : News h₀ L s.heap news)
    (R : ∀ s₂ : Shared, (∃ g, s₂ = { s with heap := g }) → LCg.CompRest prog w A h₀ L m env elt x scope cl s₂ (fun nw => (ax, lo) ∈ nw) (fun i v => its[i]? = some v) (Fin s₂) its.size 0 [] news) :
    wpAny (model prog w) A (pyIter (.ref ax)) (Src prog w A h₀ L m env elt x scope cl Fin) E s := by
  have hax := N _ hm
  have hl : s.heap.IsTuple ax its := ⟨lo, hax.1, hc, k, hd⟩
  have hlt : ax < s.heap.objs.size := Heap.lt_size hax.1
  refine wpAny_pyIter_tuple hl ?_
  have up : ∀ b' o, s.heap.get? b' = some o → (s.heap.push { cls := .type "tuple_iterator", data := .fields #[.ref ax, .int 0 0] }).get? b' = some o := fun b' o e => Heap.get?_push_of_some _ e
  refine ⟨_, _, _, _, _, _, news, rfl, Walks.tuple hh s.heap.objs.size ax (Nat.ne_of_lt hlt) its, hsz, fun i h st => ?_, ?_, ⟨⟨_, Heap.get?_push_size _ rfl, rfl, rfl⟩, hl.at fun o e => Heap.get?_push_of_some _ e⟩, fun b' hb => ?_, F.keeps up, N.grown up, Nat.ne_of_lt F.ns.lt, next_is_new F, fun p hp => Nat.ne_of_lt (Heap.lt_size (N p hp).1), hm, R _ ⟨_, rfl⟩⟩
  · obtain ⟨o, e, _⟩ := st.1; exact ⟨o, e⟩
  · intro i h h' o nw st e e' _ N' hS
    refine ⟨?_, lo, (N' _ hS).1, hc, k, hd⟩
    obtain ⟨o', q, r⟩ := st.1
    rw [e] at q; cases q
    exact ⟨o, e', r⟩
  · show b' < (s.heap.push _).objs.size
    rw [Heap.size_push]
    rcases List.mem_cons.mp hb with rfl | hb
    · exact Nat.lt_succ_self _
    · rw [List.mem_singleton.mp hb]; exact Nat.lt_succ_of_lt hlt
end
end Mine

namespace Mine
section
variable {prog : Program} {w : World} {A : Around} {E : Value → Shared → Prop} {s : Shared} {h₀ : Heap} {L : Addr} {news : List (Addr × Obj)}
theorem chr_byte {c : UInt8} {u : Tok} {Q : Value → Shared → Prop} (h : ∀ t, Q (.str (mkS [c.toNat]) t) { s with toks := s.toks + 1 }) :
    wpAny (model prog w) A (call (.builtin "chr") [.int (c.toNat : Int) u]) Q E s := by
  have hc := c.toNat_lt
  refine chr_of_range (by omega) (by omega) ?_
  exact h _
theorem join_led {D : Addr} {x : Str} {t : Tok} {ys : List Value} {zs : List Str} {Q : Value → Shared → Prop} (N : News h₀ L s.heap news) (hm : (D, LCg.lst ys) ∈ news) (hi : StrsAre ys zs) (hsep : x.length ≤ 16) (hw : (zs.map (·.length)).sum + zs.length ≤ 1048576)
    (h : ∀ t' k, Q (.str (Txt.join x zs) t') { s with toks := k }) : wpAny (model prog w) A (call (.builtin "str.join") [.str x t, .ref D]) Q E s :=
  join_listW (ys := zs) (items := ys.toArray) ⟨_, (N _ hm).1, rfl, _, rfl⟩ hi hsep hw h
end
theorem strsAreL : ∀ {l : List Str} {ys : List Value}, ys.length = l.length → (∀ (i : Nat) (v : Value), ys[i]? = some v → ∃ c t, l[i]? = some c ∧ v = .str c t) → StrsAre ys l
  | [], [], _, _ => .nil
  | [], _ :: _, h, _ => by cases h
  | _ :: _, [], h, _ => by cases h
  | c :: l, y :: r, h, hh => by
    obtain ⟨c', t, hc, rfl⟩ := hh 0 y rfl
    simp only [List.getElem?_cons_zero, Option.some.injEq] at hc
    subst hc
    exact .cons _ _ (strsAreL (by simpa using h) fun i v hv => by
      have := hh (i + 1) v (by simpa using hv)
      simpa using this)
theorem intsAreL : ∀ {l : List Int} {ys : List Value}, ys.length = l.length → (∀ (i : Nat) (v : Value), ys[i]? = some v → ∃ c t, l[i]? = some c ∧ v = .int c t) → IntsAre ys l
  | [], [], _, _ => .nil
  | [], _ :: _, h, _ => by cases h
  | _ :: _, [], h, _ => by cases h
  | c :: l, y :: r, h, hh => by
    obtain ⟨c', t, hc, rfl⟩ := hh 0 y rfl
    simp only [List.getElem?_cons_zero, Option.some.injEq] at hc
    subst hc
    exact .cons _ _ (intsAreL (by simpa using h) fun i v hv => by
      have := hh (i + 1) v (by simpa using hv)
      simpa using this)
section
variable {prog : Program} {w : World} {A : Around} {E : Value → Shared → Prop} {s : Shared} {h₀ : Heap} {L : Addr} {m : Str → Option Value} {env : Env} {elt : Expr} {x : Str} {scope : Scope} {cl : List (Str × Addr)} {news : List (Addr × Obj)} {S : List (Addr × Obj) → Prop} {P : Nat → Value → Prop} {Fin' : List Value → List (Addr × Obj) → Prop} {n : Nat}
theorem rest_strsL (l : List Str) (hn : n = l.length)
    (turn : ∀ i v I oI C oC D m₂ ys h tk (E' : Value → Shared → Prop), i < n → P i v → LCg.NsObj oC m₂ → m₂ x = some v → Fr h₀ L h m → News h₀ L h ((I, oI) :: (C, oC) :: (D, LCg.lst ys) :: news) → LCg.Off3 I C D news → ((@Ne Nat I C) ∧ (@Ne Nat I D) ∧ (@Ne Nat C D)) →
      wpAny (model prog w) A (eval elt (compEnvC scope cl C env)) (LCg.CompEnd h₀ L m { s with heap := h, toks := tk } I oI C oC D (LCg.lst ys) S (fun y news' => news' = news ∧ ∃ c t, l[i]? = some c ∧ y = .str c t)) E' { s with heap := h, toks := tk })
    (fin : ∀ ys : List Value, StrsAre ys l → Fin' ys news) : LCg.CompRest prog w A h₀ L m env elt x scope cl s S P Fin' n 0 [] news :=
  rest_map (fun i y => ∃ c t, l[i]? = some c ∧ y = .str c t) turn fun ys hl hy => fin ys (strsAreL (hl.trans hn) hy)
theorem rest_intsL (l : List Int) (hn : n = l.length)
    (turn : ∀ i v I oI C oC D m₂ ys h tk (E' : Value → Shared → Prop), i < n → P i v → LCg.NsObj oC m₂ → m₂ x = some v → Fr h₀ L h m → News h₀ L h ((I, oI) :: (C, oC) :: (D, LCg.lst ys) :: news) → LCg.Off3 I C D news → ((@Ne Nat I C) ∧ (@Ne Nat I D) ∧ (@Ne Nat C D)) →
      wpAny (model prog w) A (eval elt (compEnvC scope cl C env)) (LCg.CompEnd h₀ L m { s with heap := h, toks := tk } I oI C oC D (LCg.lst ys) S (fun y news' => news' = news ∧ ∃ c t, l[i]? = some c ∧ y = .int c t)) E' { s with heap := h, toks := tk })
    (fin : ∀ ys : List Value, IntsAre ys l → Fin' ys news) : LCg.CompRest prog w A h₀ L m env elt x scope cl s S P Fin' n 0 [] news :=
  rest_map (fun i y => ∃ c t, l[i]? = some c ∧ y = .int c t) turn fun ys hl hy => fin ys (intsAreL (hl.trans hn) hy)
end
/-- a text sign by sign -/
def chars (l : List Nat) : List Str := l.map fun c => mkS [c]
theorem chars_w (l : List Nat) : ((chars l).map (·.length)).sum + (chars l).length = 2 * l.length := by
  induction l with
  | nil => rfl
  | cons c r ih =>
    have e : (mkS [c]).length = 1 := rfl
    simp only [chars, List.map_cons, List.sum_cons, List.length_cons, List.map_map, List.length_map] at ih ⊢
    rw [e]; omega
theorem mkS_append (a b : List Nat) : mkS a ++ mkS b = mkS (a ++ b) := by
  apply Str.ext'
  simp [mkS, Str.cps_append]
theorem mkS_len (a : List Nat) : (mkS a).length = a.length := by simp [mkS, Str.length]
theorem join_chars : ∀ l : List Nat, Str.join (mkS []) (chars l) = mkS l
  | [] => rfl
  | [c] => rfl
  | c :: d :: r => by
    have := join_chars (d :: r)
    show mkS [c] ++ mkS [] ++ Str.join (mkS []) (chars (d :: r)) = _
    rw [this, mkS_append, mkS_append]; rfl
end Mine

namespace Mine
theorem fr_congr {h₀ h : Heap} {L : Addr} {m m' : Str → Option Value} (F : Fr h₀ L h m) (e : ∀ y, m y = m' y) : Fr h₀ L h m' := by
  have : m = m' := funext e
  subst this; exact F
/-- the frame of Int2AP's turns -/
def apM (m : Str → Option Value) (a : Nat) (b : Array UInt8) (t1 t2 : Tok) (z : Option Value) : Str → Option Value :=
  fun y => if y = Str.ofString "num" then some (.int (a : Int) t1) else if y = Str.ofString "val" then some (.bytes b t2) else if y = Str.ofString "mod" then z else m y
def apJ (m : Str → Option Value) (news : List (Addr × Obj)) (a₀ : Nat) (k : Nat) (m₁ : Str → Option Value) (nw : List (Addr × Obj)) : Prop :=
  nw = news ∧ ∃ (b : Array UInt8) (t1 t2 : Tok) (z : Option Value), k ≤ a₀ ∧ apD k ++ b.toList.map (·.toNat) = apD a₀ ∧ m₁ = apM m k b t1 t2 z
section
variable {prog : Program} {w : World} {A : Around} {E : Value → Shared → Prop} {Q : Flow → Shared → Prop} {s : Shared} {env : Env} {h₀ : Heap} {L : Addr}
theorem while_ap {test : Expr} {body : List Stmt} {pos : Pos} {m : Str → Option Value} {news : List (Addr × Obj)} {a₀ : Nat} {a : Int} {t t' : Tok} (ha : a = (a₀ : Int))
    (F : Fr h₀ L s.heap m) (N : News h₀ L s.heap news) (hnum : m (Str.ofString "num") = some (.int a t)) (hval : m (Str.ofString "val") = some (.bytes #[] t'))
    (turn : ∀ (k : Nat) (b : Array UInt8) (t1 t2 : Tok) (z : Option Value) h₁ tk₁, k ≤ a₀ → apD k ++ b.toList.map (·.toNat) = apD a₀ →
      Fr h₀ L h₁ (fun y => if y = Str.ofString "num" then some (.int (k : Int) t1) else if y = Str.ofString "val" then some (.bytes b t2) else if y = Str.ofString "mod" then z else m y) → News h₀ L h₁ news →
      wpAny (model prog w) A (isTrue test env (eval test env)) (fun b s₂ =>
        if b = true then wpAny (model prog w) A (execs body env) (WhileStep h₀ L s (apJ m news a₀) k) E s₂ else Q .next s₂) E { s with heap := h₁, toks := tk₁ })
    (hE : PassesOwn (model prog w) A env E := by passes_own) :
    wpAny (model prog w) A (exec (.While test body [] pos) env) Q E s := by
  refine While_inv (apJ m news a₀) (n₀ := a₀) F N ⟨rfl, #[], t, t', m (Str.ofString "mod"), Nat.le_refl _, by simp, ?_⟩ ?_ hE
  · subst ha
    funext y
    unfold apM
    by_cases h1 : y = Str.ofString "num"
    · rw [if_pos h1, h1, hnum]
    rw [if_neg h1]
    by_cases h2 : y = Str.ofString "val"
    · rw [if_pos h2, h2, hval]
    rw [if_neg h2]
    by_cases h3 : y = Str.ofString "mod"
    · rw [if_pos h3, h3]
    · rw [if_neg h3]
  · rintro k m₁ nw h₁ tk₁ F₁ N₁ ⟨rfl, b, t1, t2, z, hk, hb, rfl⟩
    exact turn k b t1 t2 z h₁ tk₁ hk hb F₁ N₁
theorem ap_end {m m' : Str → Option Value} {news : List (Addr × Obj)} {a₀ k k' : Nat} {a : Int} {b : Array UInt8} {t1 t2 : Tok} {z : Option Value} {h' : Heap} {tk : Nat} (F : Fr h₀ L h' m') (N : News h₀ L h' news) (ha : a = (k' : Int)) (hk : k' < k) (hk0 : k ≤ a₀)
    (hb : apD k' ++ b.toList.map (·.toNat) = apD a₀)
    (e1 : m' (Str.ofString "num") = some (.int a t1)) (e2 : m' (Str.ofString "val") = some (.bytes b t2)) (e3 : m' (Str.ofString "mod") = z) (e4 : ∀ y, y ≠ Str.ofString "num" → y ≠ Str.ofString "val" → y ≠ Str.ofString "mod" → m' y = m y) :
    WhileStep h₀ L s (apJ m news a₀) k .next { s with heap := h', toks := tk } := by
  refine WhileStep.intro (n' := k') F N hk ⟨rfl, b, t1, t2, z, by omega, hb, ?_⟩
  subst ha
  funext y
  unfold apM
  by_cases h1 : y = Str.ofString "num"
  · rw [if_pos h1, h1, e1]
  rw [if_neg h1]
  by_cases h2 : y = Str.ofString "val"
  · rw [if_pos h2, h2, e2]
  rw [if_neg h2]
  by_cases h3 : y = Str.ofString "mod"
  · rw [if_pos h3, h3, e3]
  · rw [if_neg h3, e4 y h1 h2 h3]
end
theorem join_bind {K : Frag} {S : Setting} {p1 p2 : Pos} {body : List Stmt} {scope : Scope} {kV doc pm cdv ct : Value} {an : Option Addr} {v : Value} : ∀ {ys : List Value} (_ : ys.length ≤ 4),
    peek1 K S (bindArgs (fnOf (Str.ofString "join") (Str.ofString "join") ⟨[], [⟨Str.ofString "a", none, p1⟩], some ⟨Str.ofString "p", none, p2⟩, [], [], none, []⟩ body scope .none kV doc pm an cdv ct) ⟨v :: ys, []⟩) = some (({ cls := .type "tuple", data := .seq ys.toArray } : Obj), fun D => some [(Str.ofString "a", v), (Str.ofString "p", .ref D)])
  | [], _ => rfl
  | [_], _ => rfl
  | [_, _], _ => rfl
  | [_, _, _], _ => rfl
  | [_, _, _, _], _ => rfl
  | _ :: _ :: _ :: _ :: _ :: r, h => by simp at h
end Mine

namespace Mine
theorem apD_zero : apD 0 = [] := by unfold apD; rfl
theorem apD_pos {n : Nat} (h : n ≠ 0) : apD n = apD (n / 16) ++ [65 + n % 16] := by rw [apD, dif_neg h]
theorem apD_len : ∀ (c n : Nat), n < 16 ^ c → (apD n).length ≤ c
  | 0, n, h => by
    have : n = 0 := by simpa using h
    subst this; rw [apD_zero]; exact Nat.le_refl _
  | c + 1, n, h => by
    by_cases h0 : n = 0
    · subst h0; rw [apD_zero]; exact Nat.zero_le _
    · rw [apD_pos h0, List.length_append, List.length_singleton]
      have := apD_len c (n / 16) (by rw [Nat.pow_succ] at h; omega)
      omega
theorem apD_lt : ∀ (n : Nat), ∀ x ∈ apD n, x < 256 := by
  intro n
  induction n using Nat.strongRecOn with
  | _ n ih =>
    intro x hx
    by_cases h0 : n = 0
    · subst h0; rw [apD_zero] at hx; cases hx
    · rw [apD_pos h0] at hx
      rcases List.mem_append.mp hx with hx | hx
      · exact ih (n / 16) (by omega) x hx
      · rw [List.mem_singleton.mp hx]; omega
def apT : Array UInt8 := #[65, 66, 67, 68, 69, 70, 71, 72, 73, 74, 75, 76, 77, 78, 79, 80]
theorem apT_cut : ∀ j : Fin 16, (KBy.picked apT (some ((j.val : Nat) : Int)) (some ((j.val : Nat) + 1 : Int))).toList = [UInt8.ofNat (65 + j.val)] := by decide +kernel
theorem ap_step {a₀ k : Nat} {b : Array UInt8} (h0 : k ≠ 0) (hb : apD k ++ b.toList.map (·.toNat) = apD a₀) :
    apD (k / 16) ++ (KBy.picked #[65, 66, 67, 68, 69, 70, 71, 72, 73, 74, 75, 76, 77, 78, 79, 80] (some (Int.fmod (k : Int) 16)) (some (Int.fmod (k : Int) 16 + 1)) ++ b).toList.map (·.toNat) = apD a₀ := by
  have e : Int.fmod (k : Int) 16 = ((k % 16 : Nat) : Int) := by rw [Int.fmod_eq_emod_of_nonneg _ (by decide)]; rfl
  have c := apT_cut ⟨k % 16, Nat.mod_lt _ (by decide)⟩
  dsimp only at c
  rw [apD_pos h0] at hb
  rw [e, Array.toList_append, List.map_append]
  show apD (k / 16) ++ ((KBy.picked apT _ _).toList.map _ ++ _) = _
  rw [c, ← hb, ← List.append_assoc]
  congr 2
  simp only [List.map_cons, List.map_nil, List.cons.injEq, and_true]
  rw [UInt8.toNat_ofNat']
  omega
theorem ap_size {a₀ k : Nat} {b : Array UInt8} (h : a₀ < 2 ^ 48) (hb : apD k ++ b.toList.map (·.toNat) = apD a₀) : b.size ≤ 100 := by
  have h1 := apD_len 12 a₀ (by omega)
  rw [← hb, List.length_append, List.length_map] at h1
  have h2 : b.toList.length = b.size := Array.length_toList
  omega
theorem ap_done {a₀ : Nat} {b : Array UInt8} (hb : apD 0 ++ b.toList.map (·.toNat) = apD a₀) : b = apB a₀ := by
  rw [apD_zero, List.nil_append] at hb
  unfold apB
  rw [← hb, List.map_map]
  have : (UInt8.ofNat ∘ fun x : UInt8 => x.toNat) = id := by
    funext x
    simp
  rw [this, List.map_id, Array.toArray_toList]
theorem ap_div (k : Nat) : Int.fdiv (k : Int) 16 = ((k / 16 : Nat) : Int) := by
  rw [Int.fdiv_eq_ediv_of_nonneg _ (by decide)]; rfl
/-- item i of the octets is item i of the letters -/
theorem apB_get {n i : Nat} {c : UInt8} (h : (apB n)[i]? = some c) : (apD n)[i]? = some c.toNat := by
  unfold apB at h
  rw [List.getElem?_toArray, List.getElem?_map] at h
  obtain ⟨x, hx, rfl⟩ := Option.map_eq_some_iff.mp h
  rw [hx]
  have := apD_lt n x (List.mem_of_getElem? hx)
  rw [UInt8.toNat_ofNat']
  congr 1
  omega
theorem hexD_succ (n c : Nat) : hexD n (c + 1) = hexD (n / 16) c ++ [65 + n % 16] := by
  unfold hexD
  rw [List.range_succ, List.map_append, List.map_singleton]
  congr 1
  · apply List.map_congr_left
    intro k hk
    have hk := List.mem_range.mp hk
    rw [show c + 1 - 1 - k = (c - 1 - k) + 1 by omega, Nat.pow_succ, Nat.mul_comm, ← Nat.div_div_eq_div_mul]
  · rw [show c + 1 - 1 - c = 0 by omega]; simp
theorem hexD_zero (c : Nat) : hexD 0 c = List.replicate c 65 := by
  unfold hexD
  apply List.ext_getElem
  · simp
  · intro i h1 h2; simp
theorem hex_ap : ∀ (c n : Nat), n < 16 ^ c → List.replicate (c - (apD n).length) 65 ++ apD n = hexD n c
  | 0, n, h => by
    have : n = 0 := by simpa using h
    subst this; rw [apD_zero]; rfl
  | c + 1, n, h => by
    by_cases h0 : n = 0
    · subst h0; rw [apD_zero, hexD_zero]; simp
    · have hl := apD_len c (n / 16) (by rw [Nat.pow_succ] at h; omega)
      rw [hexD_succ, ← hex_ap c (n / 16) (by rw [Nat.pow_succ] at h; omega), apD_pos h0, ← List.append_assoc, List.length_append, List.length_singleton]
      congr 3
      omega
end Mine

namespace Mine
theorem ofS_nil : Str.ofString "" = mkS [] := by decide +kernel
theorem ofS_A : Str.ofString "A" = mkS [65] := by decide +kernel
theorem ofS_slash : Str.ofString "/" = mkS [47] := by decide +kernel
theorem ofS_dot : Str.ofString "." = mkS [46] := by decide +kernel
theorem mkS_rfl (l : List Nat) : mkS l = mkS l := rfl
theorem mulS (c : Nat) (n : Int) : Txt.mul (mkS [c]) n = mkS (List.replicate n.toNat c) := by
  unfold Txt.mul
  have fold : ∀ (k : Nat) (a : Array Nat), (List.replicate k (#[c] : Array Nat)).foldl (· ++ ·) a = a ++ (List.replicate k c).toArray := by
    intro k
    induction k with
    | zero => intro a; simp
    | succ k ih =>
      intro a
      rw [List.replicate_succ, List.foldl_cons, ih, List.replicate_succ]
      apply Array.ext'
      simp
  by_cases h1 : n < 1
  · rw [if_pos h1, show n.toNat = 0 by omega]; rfl
  rw [if_neg h1]
  by_cases h2 : n = 1
  · subst h2; rfl
  rw [if_neg (by simp [h2, mkS_len])]
  show Str.mk ((List.replicate n.toNat (#[c] : Array Nat)).foldl (· ++ ·) #[]) = _
  rw [fold]; simp [mkS]
section
variable {prog : Program} {w : World} {A : Around} {E : Value → Shared → Prop} {s : Shared} {h₀ : Heap} {L : Addr} {news : List (Addr × Obj)} {x y : Str} {t u : Tok}
theorem join_chars_led {D : Addr} {ys : List Value} {l : List Nat} {Q : Value → Shared → Prop} (N : News h₀ L s.heap news) (hm : (D, LCg.lst ys) ∈ news) (hi : StrsAre ys (chars l)) (hw : l.length ≤ 1000) (hx : x = mkS [])
    (h : ∀ t' k, Q (.str (mkS l) t') { s with toks := k }) : wpAny (model prog w) A (call (.builtin "str.join") [.str x t, .ref D]) Q E s := by
  subst hx
  refine join_led N hm hi (by rw [mkS_len]; decide) (by rw [chars_w]; omega) ?_
  have e : Txt.join (mkS []) (chars l) = mkS l := by
    unfold Txt.join
    rw [StrLaws.glued_eq_join, join_chars]
  rw [e]
  exact h
theorem len_mk {l : List Nat} {Q : Value → Shared → Prop} (hx : x = mkS l) (hl : l.length ≤ 1000) (h : ∀ t' k, Q (.int (l.length : Int) t') { s with toks := k }) : wpAny (model prog w) A (call (.builtin "len") [.str x t]) Q E s := by
  subst hx
  refine SBL.len (by rw [mkS_len]; omega) ?_
  rw [mkS_len]; exact h _ _
theorem truthy_mk {l : List Nat} {Q : Bool → Shared → Prop} (hx : x = mkS l) (hl : l.length ≤ 1000) (h : ∀ k, Q (!l.isEmpty) { s with toks := k }) : wpAny (model prog w) A (PySem.truthy (.str x t)) Q E s := by
  subst hx
  refine SBL.truthy (by rw [mkS_len]; omega) ?_
  have e : ((mkS l).length : Int) != 0 ↔ (!l.isEmpty) = true := by rw [mkS_len]; cases l <;> simp <;> omega
  have e2 : (((mkS l).length : Int) != 0) = (!l.isEmpty) := Bool.eq_iff_iff.mpr e
  rw [e2]; exact h _
theorem add_mk {a b : List Nat} {Q : Value → Shared → Prop} (hx : x = mkS a) (hy : y = mkS b) (hl : a.length + b.length ≤ 1000) (h : ∀ t' k, Q (.str (mkS (a ++ b)) t') { s with toks := k }) : wpAny (model prog w) A (binaryOp .Add (.str x t) (.str y u)) Q E s := by
  subst hx; subst hy
  refine SBL.add (fun t' k _ => ?_) (by rw [mkS_len, mkS_len, sizeLine_eq]; omega)
  rw [mkS_append]; exact h _ _
theorem iadd_mk {a b : List Nat} {Q : Value → Shared → Prop} (hx : x = mkS a) (hy : y = mkS b) (hl : a.length + b.length ≤ 1000) (h : ∀ t' k, Q (.str (mkS (a ++ b)) t') { s with toks := k }) : wpAny (model prog w) A (inplaceOp .Add (.str x t) (.str y u)) Q E s := by
  subst hx; subst hy
  refine SBL.iadd (fun t' k _ => ?_) (by rw [mkS_len, mkS_len, sizeLine_eq]; omega)
  rw [mkS_append]; exact h _ _
theorem mul_mk {c : Nat} {n : Int} {Q : Value → Shared → Prop} (hx : x = mkS [c]) (h0 : -1000 ≤ n) (h1 : n ≤ 1000) (h : ∀ t' k, Q (.str (mkS (List.replicate n.toNat c)) t') { s with toks := k }) : wpAny (model prog w) A (binaryOp .Mult (.str x t) (.int n u)) Q E s := by
  subst hx
  refine SB.mul (mulOk_of 1 1000 (by rw [mkS_len]; exact Nat.le_refl _) h1 (by omega) (by decide) (by decide)) (fun t' k => ?_)
  rw [mulS]; exact h _ _
theorem eq_mk {a b : List Nat} {Q : Value → Shared → Prop} (hx : x = mkS a) (hy : y = mkS b) (h : Q (.bool (decide (a = b))) s) : wpAny (model prog w) A (compareOp .Eq (.str x t) (.str y u)) Q E s := by
  subst hx; subst hy
  refine eq_str ?_
  have e : (mkS a == mkS b) = decide (a = b) := by
    rw [Bool.eq_iff_iff, beq_iff_eq, decide_eq_true_iff]
    constructor
    · intro h
      have h2 : a.toArray = b.toArray := congrArg Str.cps h
      have h3 := congrArg Array.toList h2
      simpa using h3
    · rintro rfl; rfl
  rw [e]; exact h
end
end Mine

namespace Mine
def endsS (p : List Nat) : Bool := p.getLast? == some 47
def joinL (ls : List (List Nat)) : List Nat := ls.foldl (fun p c => if endsS p = true then p ++ c else p ++ ([47] ++ c)) [47]
def joinJ (m : Str → Option Value) (news : List (Addr × Obj)) (ls : List (List Nat)) (i : Nat) (m₁ : Str → Option Value) (nw : List (Addr × Obj)) : Prop :=
  nw = news ∧ ∃ (z : Option Value) (t : Tok), m₁ = fun y => if y = Str.ofString "path" then some (.str (mkS (joinL (ls.take i))) t) else if y = Str.ofString "b" then z else m y
theorem strsAt : ∀ {ys : List Value} {ls : List (List Nat)} {i : Nat} {v : Value}, StrsAre ys (ls.map mkS) → ys[i]? = some v → ∃ c t, ls[i]? = some c ∧ v = .str (mkS c) t
  | [], [], _, _, _, h => by simp at h
  | _ :: _, [], _, _, h, _ => by cases h
  | [], _ :: _, _, _, h, _ => by cases h
  | y :: ys, c :: ls, 0, v, h, hv => by
    cases h with
    | cons _ t h =>
      simp only [List.getElem?_cons_zero, Option.some.injEq] at hv
      exact ⟨c, t, rfl, hv.symm⟩
  | y :: ys, c :: ls, i + 1, v, h, hv => by
    cases h with
    | cons _ t h =>
      have hv' : ys[i]? = some v := by simpa using hv
      have r := strsAt (ls := ls) h hv'
      simpa using r
theorem strsAre_len {ys : List Value} {l : List Str} (h : StrsAre ys l) : ys.length = l.length := by
  induction h with
  | nil => rfl
  | cons _ _ _ ih => simp [ih]
section
variable {prog : Program} {w : World} {A : Around} {E : Value → Shared → Prop} {s : Shared} {env : Env} {h₀ : Heap} {body : List Stmt} {Q : Flow → Shared → Prop}
theorem loop_join {ax : Addr} {lo : Obj} {vs : List Value} {ls : List (List Nat)} {n : Nat} {m : Str → Option Value} {news : List (Addr × Obj)} {t : Tok} (hh : A.handled = none) (F : Fr h₀ env.locals s.heap m) (N : News h₀ env.locals s.heap news)
    (hc : lo.cls = .type "tuple") (hd : lo.data = .seq vs.toArray n) (hm : (ax, lo) ∈ news) (hp : m (Str.ofString "path") = some (.str (mkS [47]) t)) (hys : StrsAre vs (ls.map mkS))
    (turn : ∀ I i c t1 t2 z oI h tk, ls[i]? = some c → (∀ p ∈ news, p.1 ≠ I) →
      Fr h₀ env.locals h (fun y => if y = Str.ofString "b" then some (.str (mkS c) t1) else if y = Str.ofString "path" then some (.str (mkS (joinL (ls.take i))) t2) else if y = Str.ofString "b" then z else m y) → News h₀ env.locals h ((I, oI) :: news) →
      wpAny (model prog w) A (execs body env) (UnrPost h₀ env.locals { s with heap := h, toks := tk } I oI (fun m' n' => (ax, lo) ∈ n' ∧ joinJ m news ls (i + 1) m' n') Q) E { s with heap := h, toks := tk })
    (done : ∀ z t2 h tk, Fr h₀ env.locals h (fun y => if y = Str.ofString "path" then some (.str (mkS (joinL ls)) t2) else if y = Str.ofString "b" then z else m y) → News h₀ env.locals h news → Q .next { s with heap := h, toks := tk }) :
    wpAny (model prog w) A (pyIter (.ref ax)) (fun it s₂ => LoopAtV prog w A h₀ env (Str.ofString "b") body Q E it s₂) E s := by
  refine loop_tuple (joinJ m news ls) hh F N hc hd hm ⟨rfl, m (Str.ofString "b"), t, ?_⟩ ?_ ?_
  · funext y
    by_cases h1 : y = Str.ofString "path"
    · rw [if_pos h1, h1, hp]; rfl
    · rw [if_neg h1]
      by_cases h2 : y = Str.ofString "b"
      · rw [if_pos h2, h2]
      · rw [if_neg h2]
  · rintro I i v m₁ nw oI h tk hv ⟨rfl, z, t2, rfl⟩ _ off F' N'
    obtain ⟨c, t1, hc', rfl⟩ := strsAt hys hv
    exact turn I i c t1 t2 z oI h tk hc' off F' N'
  · rintro m₁ nw h tk ⟨rfl, z, t2, rfl⟩ F' N'
    rw [strsAre_len hys, List.length_map, List.take_length] at F'
    exact done z t2 h tk F' N'
theorem joinL_succ {ls : List (List Nat)} {i : Nat} {c : List Nat} (h : ls[i]? = some c) : joinL (ls.take (i + 1)) = if endsS (joinL (ls.take i)) = true then joinL (ls.take i) ++ c else joinL (ls.take i) ++ ([47] ++ c) := by
  rw [List.take_add_one, h]
  simp [joinL, List.foldl_append]
theorem join_end {L : Addr} {I : Addr} {oI lo : Obj} {ax : Addr} {m m' : Str → Option Value} {news all : List (Addr × Obj)} {ls : List (List Nat)} {i : Nat} {l : List Nat} {t : Tok} {z : Option Value} {h' : Heap} {tk : Nat}
    (F : Fr h₀ L h' m') (N : News h₀ L h' all) (sub : ∀ p ∈ (I, oI) :: news, p ∈ all) (off : ∀ p ∈ news, p.1 ≠ I) (hm : (ax, lo) ∈ news) (e1 : m' (Str.ofString "path") = some (.str (mkS l) t)) (hl : l = joinL (ls.take (i + 1)))
    (e2 : m' (Str.ofString "b") = z) (e4 : ∀ y, y ≠ Str.ofString "path" → y ≠ Str.ofString "b" → m' y = m y) :
    UnrEnd h₀ L s I oI (fun m' n' => (ax, lo) ∈ n' ∧ joinJ m news ls (i + 1) m' n') { s with heap := h', toks := tk } := by
  refine UnrEnd.intro F N news sub off ⟨hm, rfl, z, t, ?_⟩
  subst hl
  funext y
  by_cases h1 : y = Str.ofString "path"
  · rw [if_pos h1, h1, e1]
  rw [if_neg h1]
  by_cases h2 : y = Str.ofString "b"
  · rw [if_pos h2, h2, e2]
  · rw [if_neg h2, e4 y h1 h2]
end
theorem joinL_foldl_len : ∀ (ls : List (List Nat)) (p : List Nat), (∀ c ∈ ls, c.length = 3 ∧ 47 ∉ c) → (ls.foldl (fun p c => if endsS p = true then p ++ c else p ++ ([47] ++ c)) p).length ≤ p.length + 4 * ls.length
  | [], p, _ => by simp
  | c :: r, p, h => by
    rw [List.foldl_cons]
    have h1 := joinL_foldl_len r (if endsS p = true then p ++ c else p ++ ([47] ++ c)) fun d hd => h d (List.mem_cons_of_mem _ hd)
    have h2 := (h c List.mem_cons_self).1
    have h3 : (if endsS p = true then p ++ c else p ++ ([47] ++ c)).length ≤ p.length + 4 := by
      split <;> simp <;> omega
    simp only [List.length_cons]
    omega
theorem joinL_foldl_ne : ∀ (ls : List (List Nat)) (p : List Nat), p ≠ [] → (ls.foldl (fun p c => if endsS p = true then p ++ c else p ++ ([47] ++ c)) p) ≠ []
  | [], p, h => h
  | c :: r, p, h => by
    rw [List.foldl_cons]
    refine joinL_foldl_ne r _ ?_
    split <;> simp [h]
theorem joinL_len {ls : List (List Nat)} {i : Nat} (hl : ls.length ≤ 4) (h : ∀ c ∈ ls, c.length = 3 ∧ 47 ∉ c) : (joinL (ls.take i)).length ≤ 100 := by
  have h1 := joinL_foldl_len (ls.take i) [47] fun c hc => h c (List.mem_of_mem_take hc)
  have h2 : (ls.take i).length ≤ ls.length := List.length_take_le' ..
  have h3 : [47].length = 1 := rfl
  unfold joinL
  omega
theorem joinL_ne (ls : List (List Nat)) : joinL ls ≠ [] := joinL_foldl_ne _ _ (by simp)
theorem sw_slash {c : List Nat} (h : 47 ∉ c) : Txt.startswith (mkS c) (Str.ofString "/") = false := by
  cases c with
  | nil => decide +kernel
  | cons a r =>
    have ha : a ≠ 47 := fun e => h (by rw [e]; exact List.mem_cons_self)
    rw [ofS_slash]
    unfold Txt.startswith
    rw [Bool.and_eq_false_iff]
    right
    rw [StrLaws.subAt_eq]
    rw [mkS_len]
    simp [mkS, ha]
theorem ew_slash (c : List Nat) : Txt.endswith (mkS c) (Str.ofString "/") = endsS c := by
  rw [ofS_slash]
  unfold Txt.endswith endsS
  rw [StrLaws.subAt_eq, mkS_len, mkS_len]
  rcases List.eq_nil_or_concat c with rfl | ⟨r, a, rfl⟩
  · rfl
  · rw [List.concat_eq_append]
    simp [mkS]
end Mine

namespace Mine
theorem sliceR {l : List Nat} {a b : Nat} (lo hi : Option Int) (h : Builtin.Str.strSliceIndices lo hi 1 l.length = sliceRange (a : Int) (b : Int) 1) (hb : b ≤ l.length) : Txt.slice (mkS l) lo hi = mkS ((l.drop a).take (b - a)) := by
  unfold Txt.slice
  rw [mkS_len, h, sliceRange_one]
  have e1 : (List.map (fun x => a + x) (List.range (b - a))).length = b - a := by simp
  by_cases hc : b - a = l.length
  · rw [if_pos (by rw [e1, hc]; simp)]
    rcases Nat.eq_zero_or_pos l.length with h0 | h0
    · have : l = [] := List.length_eq_zero_iff.mp h0
      subst this; simp
    · have ha : a = 0 := by omega
      subst ha
      rw [List.drop_zero, hc, List.take_length]
  · rw [if_neg (by rw [e1]; simpa using hc), pick_run]
    rfl
theorem cut_min (l : List Nat) (i j : Nat) : (l.drop (min i l.length)).take (min j l.length - min i l.length) = (l.drop i).take (j - i) := by
  apply List.ext_getElem?
  intro k
  rw [List.getElem?_take, List.getElem?_take, List.getElem?_drop, List.getElem?_drop]
  by_cases hi : i ≤ l.length
  · rw [Nat.min_eq_left hi]
    by_cases hj : j ≤ l.length
    · rw [Nat.min_eq_left hj]
    · rw [Nat.min_eq_right (by omega)]
      by_cases hk : k < l.length - i
      · rw [if_pos hk, if_pos (by omega)]
      · rw [if_neg hk, List.getElem?_eq_none (by omega)]; simp
  · rw [Nat.min_eq_right (by omega : l.length ≤ i), List.getElem?_eq_none (by omega : l.length ≤ l.length + k), List.getElem?_eq_none (by omega : l.length ≤ i + k)]; simp
theorem sliceS (l : List Nat) (i j : Nat) : Txt.slice (mkS l) (some (i : Int)) (some (j : Int)) = mkS ((l.drop i).take (j - i)) := by
  rw [sliceR (l := l) (a := min i l.length) (b := min j l.length) _ _ ?_ (Nat.min_le_right _ _), cut_min]
  unfold Builtin.Str.strSliceIndices
  simp only [show (1 : Int) > 0 by decide, if_true]
  congr 1 <;> (rw [if_neg (by omega)]; omega)
theorem sliceS0 (l : List Nat) (j : Nat) : Txt.slice (mkS l) none (some (j : Int)) = mkS (l.take j) := by
  rw [sliceR (l := l) (a := 0) (b := min j l.length) _ _ ?_ (Nat.min_le_right _ _)]
  · have := cut_min l 0 j
    simp only [Nat.zero_min, List.drop_zero, Nat.sub_zero] at this ⊢
    rw [this]
  · unfold Builtin.Str.strSliceIndices
    simp only [show (1 : Int) > 0 by decide, if_true]
    congr 1
    rw [if_neg (by omega)]; omega
theorem sliceSn (l : List Nat) (i : Nat) : Txt.slice (mkS l) (some (i : Int)) none = mkS (l.drop i) := by
  rw [sliceR (l := l) (a := min i l.length) (b := l.length) _ _ ?_ (Nat.le_refl _)]
  · congr 1
    by_cases hi : i ≤ l.length
    · rw [Nat.min_eq_left hi, List.take_of_length_le (by simp)]
    · rw [Nat.min_eq_right (by omega), List.drop_length, List.drop_of_length_le (by omega)]; simp
  · unfold Builtin.Str.strSliceIndices
    simp only [show (1 : Int) > 0 by decide, if_true]
    congr 1
    rw [if_neg (by omega)]; omega
section
variable {prog : Program} {w : World} {A : Around} {E : Value → Shared → Prop} {s : Shared} {h₀ : Heap} {L : Addr} {m : Str → Option Value} {news : List (Addr × Obj)} {x : Str} {t : Tok} {l : List Nat} {value slice : PySem.Expr} {Q : Value → Shared → Prop}
theorem slice_ss {i j : Int} {ui uj : Tok} (hF : Fr h₀ L s.heap m) (hN : News h₀ L s.heap news) (hx : x = mkS l) (hl : l.length ≤ 1000) (hi : 0 ≤ i) (hj : 0 ≤ j)
    (h : ∀ h' t' k, Fr h₀ L h' m → News h₀ L h' news → Q (.str (mkS ((l.drop i.toNat).take (j.toNat - i.toNat))) t') { s with heap := h', toks := k })
    (hs : subscripted slice false (.str x t) (.ref s.heap.objs.size) = operate [.ref s.heap.objs.size, .str x t] (getItem (.str x t) (.ref s.heap.objs.size)) := by with_unfolding_all rfl)
    (ht : ∀ r, letTemporaryGo value (.str x t) r = pure () := by intro _; with_unfolding_all rfl) :
    wpAny (model prog w) A (subscriptTail value slice (.str x t) (.ref s.heap.objs.size)) Q E { s with heap := s.heap.push { cls := .type "slice", data := .fields #[.int i ui, .int j uj, .none] } } := by
  refine slice_strN_ss hF hN (fun h' t' k F N => ?_) hs ht (by rw [hx, mkS_len, sizeLine_eq]; omega)
  have e := sliceS l i.toNat j.toNat
  rw [Int.toNat_of_nonneg hi, Int.toNat_of_nonneg hj] at e
  rw [hx, e]; exact h _ _ _ F N
theorem slice_ns {j : Int} {uj : Tok} (hF : Fr h₀ L s.heap m) (hN : News h₀ L s.heap news) (hx : x = mkS l) (hl : l.length ≤ 1000) (hj : 0 ≤ j)
    (h : ∀ h' t' k, Fr h₀ L h' m → News h₀ L h' news → Q (.str (mkS (l.take j.toNat)) t') { s with heap := h', toks := k })
    (hs : subscripted slice false (.str x t) (.ref s.heap.objs.size) = operate [.ref s.heap.objs.size, .str x t] (getItem (.str x t) (.ref s.heap.objs.size)) := by with_unfolding_all rfl)
    (ht : ∀ r, letTemporaryGo value (.str x t) r = pure () := by intro _; with_unfolding_all rfl) :
    wpAny (model prog w) A (subscriptTail value slice (.str x t) (.ref s.heap.objs.size)) Q E { s with heap := s.heap.push { cls := .type "slice", data := .fields #[.none, .int j uj, .none] } } := by
  refine slice_strN_ns hF hN (fun h' t' k F N => ?_) hs ht (by rw [hx, mkS_len, sizeLine_eq]; omega)
  have e := sliceS0 l j.toNat
  rw [Int.toNat_of_nonneg hj] at e
  rw [hx, e]; exact h _ _ _ F N
theorem slice_sn {i : Int} {ui : Tok} (hF : Fr h₀ L s.heap m) (hN : News h₀ L s.heap news) (hx : x = mkS l) (hl : l.length ≤ 1000) (hi : 0 ≤ i)
    (h : ∀ h' t' k, Fr h₀ L h' m → News h₀ L h' news → Q (.str (mkS (l.drop i.toNat)) t') { s with heap := h', toks := k })
    (hs : subscripted slice false (.str x t) (.ref s.heap.objs.size) = operate [.ref s.heap.objs.size, .str x t] (getItem (.str x t) (.ref s.heap.objs.size)) := by with_unfolding_all rfl)
    (ht : ∀ r, letTemporaryGo value (.str x t) r = pure () := by intro _; with_unfolding_all rfl) :
    wpAny (model prog w) A (subscriptTail value slice (.str x t) (.ref s.heap.objs.size)) Q E { s with heap := s.heap.push { cls := .type "slice", data := .fields #[.int i ui, .none, .none] } } := by
  refine slice_strN_sn hF hN (fun h' t' k F N => ?_) hs ht (by rw [hx, mkS_len, sizeLine_eq]; omega)
  have e := sliceSn l i.toNat
  rw [Int.toNat_of_nonneg hi] at e
  rw [hx, e]; exact h _ _ _ F N
end
theorem lt_ne1 {news : List (Addr × Obj)} {L : Addr} (h : ∀ p ∈ news, p.1 < L) : ∀ p ∈ news, p.1 ≠ L + 1 := fun p hp => by have : @LT.lt Nat _ p.1 L := h p hp; exact Nat.ne_of_lt (Nat.lt_succ_of_lt this)
theorem lt_ne2 {news : List (Addr × Obj)} {L : Addr} (h : ∀ p ∈ news, p.1 < L) : ∀ p ∈ news, p.1 ≠ L + 1 + 1 := fun p hp => by have : @LT.lt Nat _ p.1 L := h p hp; exact Nat.ne_of_lt (Nat.lt_succ_of_lt (Nat.lt_succ_of_lt this))
theorem lt_ne3 {news : List (Addr × Obj)} {L : Addr} (h : ∀ p ∈ news, p.1 < L) : ∀ p ∈ news, p.1 ≠ L + 1 + 1 + 1 := fun p hp => by have : @LT.lt Nat _ p.1 L := h p hp; exact Nat.ne_of_lt (Nat.lt_succ_of_lt (Nat.lt_succ_of_lt (Nat.lt_succ_of_lt this)))
/-- letter k of n: its figure by 16 -/
def hx (n k : Nat) : Nat := 65 + n / 16 ^ k % 16
/-- folder j of n, from the lowest -/
def fld (n j : Nat) : List Nat := [hx n (3 * j + 2), hx n (3 * j + 1), hx n (3 * j)]
def flds (n f : Nat) : List (List Nat) := (List.range f).map fun i => fld n (f - 1 - i)
def pathL (n f : Nat) : List Nat := if f = 0 then [47] else (flds n f).flatMap fun c => 47 :: c
theorem hx_ne (n k : Nat) : hx n k ≠ 47 := by unfold hx; omega
theorem fld_ok (n j : Nat) : (fld n j).length = 3 ∧ 47 ∉ fld n j := by
  refine ⟨rfl, ?_⟩
  simp only [fld, List.mem_cons, List.not_mem_nil, or_false, not_or]
  exact ⟨fun e => hx_ne _ _ e.symm, fun e => hx_ne _ _ e.symm, fun e => hx_ne _ _ e.symm⟩
theorem flds_ok (n f : Nat) : ∀ c ∈ flds n f, c.length = 3 ∧ 47 ∉ c := by
  intro c hc
  obtain ⟨i, _, rfl⟩ := List.mem_map.mp hc
  exact fld_ok _ _
theorem joinL_go : ∀ (ls : List (List Nat)) (p : List Nat), (∀ c ∈ ls, c.length = 3 ∧ 47 ∉ c) → endsS p = false → ls.foldl (fun p c => if endsS p = true then p ++ c else p ++ ([47] ++ c)) p = p ++ ls.flatMap fun c => 47 :: c
  | [], p, _, _ => by simp
  | c :: r, p, h, hp => by
    rw [List.foldl_cons, if_neg (by simp [hp]), joinL_go r _ (fun d hd => h d (List.mem_cons_of_mem _ hd)) ?_]
    · simp
    · have h3 := (h c List.mem_cons_self).1
      have h4 := (h c List.mem_cons_self).2
      obtain ⟨x, y, z, rfl⟩ : ∃ x y z, c = [x, y, z] := by
        match c, h3 with
        | [x, y, z], _ => exact ⟨x, y, z, rfl⟩
      simp only [List.mem_cons, List.not_mem_nil, or_false, not_or] at h4
      have hz : z ≠ 47 := fun e => h4.2.2 e.symm
      simp [endsS, hz]
theorem joinL_eq {ls : List (List Nat)} (h : ∀ c ∈ ls, c.length = 3 ∧ 47 ∉ c) (h0 : ls ≠ []) : joinL ls = ls.flatMap fun c => 47 :: c := by
  cases ls with
  | nil => exact absurd rfl h0
  | cons c r =>
    unfold joinL
    rw [List.foldl_cons, if_pos (by rfl)]
    have h3 := (h c List.mem_cons_self).1
    have h4 := (h c List.mem_cons_self).2
    obtain ⟨x, y, z, rfl⟩ : ∃ x y z, c = [x, y, z] := by
      match c, h3 with
      | [x, y, z], _ => exact ⟨x, y, z, rfl⟩
    simp only [List.mem_cons, List.not_mem_nil, or_false, not_or] at h4
    have hz : z ≠ 47 := fun e => h4.2.2 e.symm
    rw [joinL_go r _ (fun d hd => h d (List.mem_cons_of_mem _ hd)) (by simp [endsS, hz])]
    simp
/-- the cut of the letters at 3 i is folder i from the highest -/
theorem cut_fld (n f i : Nat) (hf : f ≤ 4) (hi : i < f) : ((hexD n (3 * f)).drop (3 * i)).take 3 = fld n (f - 1 - i) := by
  match f, i, hf, hi with
  | 1, 0, _, _ => rfl
  | 2, 0, _, _ => rfl
  | 2, 1, _, _ => rfl
  | 3, 0, _, _ => rfl
  | 3, 1, _, _ => rfl
  | 3, 2, _, _ => rfl
  | 4, 0, _, _ => rfl
  | 4, 1, _, _ => rfl
  | 4, 2, _, _ => rfl
  | 4, 3, _, _ => rfl
end Mine

namespace Mine
def hexT : List Nat := [65, 66, 67, 68, 69, 70, 71, 72, 73, 74, 75, 76, 77, 78, 79, 80]
theorem ofS_hex : Str.ofString "ABCDEFGHIJKLMNOP" = mkS hexT := by decide +kernel
theorem ofS_b64 : Str.ofString "ABCDEFGHIJKLMNOPQRSTUVWXYZabcdefghijklmnopqrstuvwxyz0123456789+/" = mkS b64T := by decide +kernel
theorem pow_pos' {b : Int} (hb : 0 < b) : ∀ k : Nat, 0 < b ^ k
  | 0 => by simp
  | k + 1 => by rw [Int.pow_succ]; exact Int.mul_pos (pow_pos' hb k) hb
theorem pow_log {b : Int} {k : Nat} (h0 : 0 < b) (h1 : b ≤ 4096) (hk : k ≤ 60) : (b ^ k).natAbs.log2 < 9000 := by
  have hne : (b ^ k).natAbs ≠ 0 := by have := pow_pos' h0 k; omega
  rw [Nat.log2_lt hne, Int.natAbs_pow]
  calc b.natAbs ^ k ≤ 4096 ^ k := Nat.pow_le_pow_left (by omega) k
    _ ≤ 4096 ^ 60 := Nat.pow_le_pow_right (by decide) hk
    _ < 2 ^ 9000 := by decide +kernel
theorem itemS {l : List Nat} {i : Int} (h0 : 0 ≤ i) (h1 : i < (l.length : Int)) : Txt.item (mkS l) i = mkS [l.getD i.toNat 0] := by
  have es : seqIndex? i l.length = some i.toNat := by
    unfold seqIndex?
    have hn : ¬ i < 0 := by omega
    simp only [hn, if_false]
    rw [if_pos (by simp; omega)]
  unfold Txt.item Txt.charAt
  rw [mkS_len, es]
  simp [mkS]
section
variable {prog : Program} {w : World} {A : Around} {E : Value → Shared → Prop} {s : Shared} {x : Str} {t u : Tok} {l : List Nat} {Q : Value → Shared → Prop}
theorem div_pow {n b : Int} {k : Nat} (h0 : 0 < b) (h1 : b ≤ 4096) (hk : k ≤ 60) (h : Q (.int (n.fdiv (b ^ k)) s.toks) { s with toks := s.toks + 1 }) : wpAny (model prog w) A (binaryOp .FloorDiv (.int n t) (.int (b ^ k) u)) Q E s :=
  floordiv_int (by have := pow_pos' h0 k; omega) h (Or.inl (PyProof.noPylong_of_log2 (pow_log h0 h1 hk)))
theorem item_mk {i : Int} (hx : x = mkS l) (hl : l.length ≤ 1000) (h0 : 0 ≤ i) (h1 : i < (l.length : Int)) (h : ∀ t' k, Q (.str (mkS [l.getD i.toNat 0]) t') { s with toks := k }) : ItemOn (model prog w) A E (.str x t) (.int i u) Q s := by
  subst hx
  refine SBL.item (by rw [mkS_len]; omega) (by rw [mkS_len]; exact h1) (by rw [mkS_len]; omega) (fun _ => ?_)
  have e := itemS (l := l) h0 h1
  rw [e]; exact h _ _
end
theorem fdp (n b k : Nat) : Int.fdiv (n : Int) ((b : Int) ^ k) = ((n / b ^ k : Nat) : Int) := by
  rw [Int.fdiv_eq_ediv_of_nonneg _ (by rw [← Int.natCast_pow]; exact Int.natCast_nonneg _)]; simp
theorem fmodN (n b : Nat) : Int.fmod (n : Int) (b : Int) = ((n % b : Nat) : Int) := by
  rw [Int.fmod_eq_emod_of_nonneg _ (by omega)]; simp
theorem hexT_at : ∀ j : Fin 16, hexT.getD j.val 0 = 65 + j.val := by decide +kernel
theorem fmod_lo {a b : Int} (h : 0 < b) : 0 ≤ Int.fmod a b := by rw [Int.fmod_eq_emod_of_nonneg _ (by omega)]; exact Int.emod_nonneg _ (by omega)
theorem fmod_hi {a b : Int} {n : Nat} (h : 0 < b) (hn : b ≤ (n : Int)) : Int.fmod a b < (n : Int) := by
  rw [Int.fmod_eq_emod_of_nonneg _ (by omega)]
  have := Int.emod_lt_of_pos a h
  omega
end Mine

namespace Mine
theorem subAt_one (l : List Nat) (c i : Nat) : Builtin.Str.subAt (mkS l) (mkS [c]) i = true ↔ l[i]? = some c := by
  rw [StrLaws.subAt_eq, mkS_len]
  simp only [mkS, beq_iff_eq, List.length_cons, List.length_nil]
  rw [List.take_one, List.head?_drop]
  cases l[i]? <;> simp
theorem rfindS {a b : List Nat} (h : 47 ∉ b) : Txt.rfind (mkS (a ++ 47 :: b)) (mkS [47]) = (a.length : Int) := by
  unfold Txt.rfind
  have at_a : StrLaws.At (mkS (a ++ 47 :: b)) (mkS [47]) (mkS (a ++ 47 :: b)).length a.length := by
    refine ⟨by rw [mkS_len, mkS_len]; simp, ?_⟩
    rw [subAt_one]; simp
  rcases StrLaws.last_spec (mkS (a ++ 47 :: b)) (mkS [47]) with ⟨_, hn⟩ | ⟨i, hi, hA, hl⟩
  · exact absurd at_a (hn _)
  · rw [hi]
    have h1 : i = a.length := by
      rcases Nat.lt_trichotomy i a.length with hlt | he | hgt
      · exact absurd at_a (hl _ hlt)
      · exact he
      · exfalso
        have h2 := (subAt_one _ _ _).mp hA.2
        rw [List.getElem?_append_right (by omega)] at h2
        obtain ⟨k, hk⟩ : ∃ k, i - a.length = k + 1 := ⟨i - a.length - 1, by omega⟩
        rw [hk, List.getElem?_cons_succ] at h2
        exact h (List.mem_of_getElem? h2)
    subst h1; rfl
theorem rstripS {a : List Nat} {c : Nat} (hc : c ≠ 47) : Txt.rstripChars (mkS (a ++ [c] ++ [47])) (mkS [47]) = mkS (a ++ [c]) := by
  have hi : stripHi (mkS [47]).cps.contains true (mkS (a ++ [c] ++ [47])) 0 = a.length + 1 := by
    unfold stripHi
    rw [mkS_len]
    have e : ((mkS (a ++ [c] ++ [47])).cps.toList.drop 0).reverse = 47 :: c :: a.reverse := by simp [mkS]
    rw [e, List.takeWhile_cons_of_pos (by simp [mkS]), List.takeWhile_cons_of_neg (by simp [mkS, hc])]
    simp
  unfold Txt.rstripChars Txt.stripBy
  rw [if_neg]
  · unfold PySem.stripped
    have e0 : stripLo (mkS [47]).cps.contains false (mkS (a ++ [c] ++ [47])) = 0 := rfl
    rw [e0, hi]
    apply Str.ext'
    apply Array.ext'
    rw [StrLaws.strSub_toList]
    show (a ++ [c] ++ [47]).take (a.length + 1) = a ++ [c]
    exact List.take_left' (by simp)
  · unfold stripSame
    have e0 : stripLo (mkS [47]).cps.contains false (mkS (a ++ [c] ++ [47])) = 0 := rfl
    rw [e0, hi, mkS_len]
    simp
def LastOk (a : List Nat) : Prop := a = [] ∨ ∃ a' c, a = a' ++ [c] ∧ c ≠ 47
theorem rstripS' {a : List Nat} (h : LastOk a) : Txt.rstripChars (mkS (a ++ [47])) (mkS [47]) = mkS a := by
  rcases h with rfl | ⟨a', c, rfl, hc⟩
  · decide +kernel
  · exact rstripS hc
def dirL (a : List Nat) : List Nat := if a = [] then [47] else a
theorem dir_ne {a : List Nat} (h : LastOk a) (n : Nat) (hn : n = a.length + 1) : a ++ [47] = List.replicate n 47 ↔ a = [] := by
  subst hn
  constructor
  · intro e
    rcases h with rfl | ⟨a', c, rfl, hc⟩
    · rfl
    · exfalso
      have h1 : c ∈ a' ++ [c] ++ [47] := by simp
      rw [e] at h1
      exact hc (List.eq_of_mem_replicate h1)
  · rintro rfl; rfl
theorem fld_shift (n j : Nat) : fld (n / 4096) j = fld n (j + 1) := by
  have h : ∀ k, n / 4096 / 16 ^ k = n / 16 ^ (k + 3) := fun k => by
    rw [Nat.div_div_eq_div_mul, Nat.pow_add, Nat.mul_comm]
  unfold fld hx
  rw [h, h, h]
  rfl
theorem flds_succ (n f : Nat) : flds n (f + 1) = flds (n / 4096) f ++ [fld n 0] := by
  unfold flds
  rw [List.range_succ, List.map_append, List.map_singleton, show f + 1 - 1 - f = 0 by omega]
  congr 1
  apply List.map_congr_left
  intro i hi
  have hi := List.mem_range.mp hi
  rw [fld_shift, show f + 1 - 1 - i = f - 1 - i + 1 by omega]
def preL (n f : Nat) : List Nat := if f = 1 then [] else pathL (n / 4096) (f - 1)
theorem pathL_cut (n f : Nat) (h : f ≠ 0) : pathL n f = preL n f ++ 47 :: fld n 0 := by
  obtain ⟨g, rfl⟩ : ∃ g, f = g + 1 := ⟨f - 1, by omega⟩
  unfold preL pathL
  rw [if_neg h, flds_succ, List.flatMap_append]
  by_cases hg : g = 0
  · subst hg; simp [flds]
  · rw [if_neg (by omega), show g + 1 - 1 = g by omega, if_neg hg]; simp
theorem flds_len (n f : Nat) : (flds n f).length = f := by simp [flds]
theorem pathL_len (n f : Nat) : (pathL n f).length = if f = 0 then 1 else 4 * f := by
  unfold pathL
  by_cases h : f = 0
  · rw [if_pos h, if_pos h]; rfl
  · rw [if_neg h, if_neg h]
    have : ∀ (ls : List (List Nat)), (∀ c ∈ ls, c.length = 3) → (ls.flatMap fun c => 47 :: c).length = 4 * ls.length := by
      intro ls
      induction ls with
      | nil => intro _; rfl
      | cons c r ih =>
        intro hc
        have h3 := hc c List.mem_cons_self
        rw [List.flatMap_cons, List.length_append, ih fun d hd => hc d (List.mem_cons_of_mem _ hd), List.length_cons, List.length_cons, h3]
        omega
    rw [this _ fun c hc => (flds_ok n f c hc).1, flds_len]
theorem pathL_last (n f : Nat) (h : f ≠ 0) : ∃ a c, pathL n f = a ++ [c] ∧ c ≠ 47 := by
  rw [pathL_cut n f h]
  exact ⟨preL n f ++ [47, hx n 2, hx n 1], hx n 0, by simp [fld], hx_ne n 0⟩
section
variable {prog : Program} {w : World} {A : Around} {E : Value → Shared → Prop} {s : Shared} {x y : Str} {t u : Tok} {Q : Value → Shared → Prop}
theorem rfind_mk {a b : List Nat} (hx : x = mkS (a ++ 47 :: b)) (hy : y = mkS [47]) (h : 47 ∉ b) (hQ : ∀ t' k, Q (.int (a.length : Int) t') { s with toks := k }) : wpAny (model prog w) A (call (.builtin "str.rfind") [.str x t, .str y u]) Q E s := by
  subst hx; subst hy
  refine SC.rfind ?_
  rw [rfindS h]; exact hQ _ _
theorem rstrip_mk {a : List Nat} (hx : x = mkS (a ++ [47])) (hy : y = mkS [47]) (hl : a.length ≤ 900) (h : LastOk a) (hQ : ∀ t' k, Q (.str (mkS a) t') { s with toks := k }) : wpAny (model prog w) A (call (.builtin "str.rstrip") [.str x t, .str y u]) Q E s := by
  subst hx; subst hy
  refine SCL.rstripChars (fun t' k _ => ?_) (by rw [mkS_len, sizeLine_eq]; simp; omega)
  rw [rstripS' h]; exact hQ _ _
theorem slice_head {value slice : PySem.Expr} {h₀ : Heap} {L : Addr} {m : Str → Option Value} {news : List (Addr × Obj)} {a b : List Nat} {uj : Tok} (hF : Fr h₀ L s.heap m) (hN : News h₀ L s.heap news) (hx : x = mkS (a ++ 47 :: b)) (hl : a.length + b.length ≤ 900)
    (h : ∀ h' t' k, Fr h₀ L h' m → News h₀ L h' news → Q (.str (mkS (a ++ [47])) t') { s with heap := h', toks := k })
    (hs : subscripted slice false (.str x t) (.ref s.heap.objs.size) = operate [.ref s.heap.objs.size, .str x t] (getItem (.str x t) (.ref s.heap.objs.size)) := by with_unfolding_all rfl)
    (ht : ∀ r, letTemporaryGo value (.str x t) r = pure () := by intro _; with_unfolding_all rfl) :
    wpAny (model prog w) A (subscriptTail value slice (.str x t) (.ref s.heap.objs.size)) Q E { s with heap := s.heap.push { cls := .type "slice", data := .fields #[.none, .int ((a.length : Int) + 1) uj, .none] } } := by
  refine slice_ns hF hN hx (by simp; omega) (by omega) (fun h' t' k F N => ?_) hs ht
  have e : (a ++ 47 :: b).take ((a.length : Int) + 1).toNat = a ++ [47] := by
    rw [show ((a.length : Int) + 1).toNat = a.length + 1 by omega, show a ++ 47 :: b = (a ++ [47]) ++ b by simp]
    exact List.take_left' (by simp)
  rw [e]; exact h _ _ _ F N
theorem slice_last {value slice : PySem.Expr} {h₀ : Heap} {L : Addr} {m : Str → Option Value} {news : List (Addr × Obj)} {a b : List Nat} {uj : Tok} (hF : Fr h₀ L s.heap m) (hN : News h₀ L s.heap news) (hx : x = mkS (a ++ 47 :: b)) (hl : a.length + b.length ≤ 900)
    (h : ∀ h' t' k, Fr h₀ L h' m → News h₀ L h' news → Q (.str (mkS b) t') { s with heap := h', toks := k })
    (hs : subscripted slice false (.str x t) (.ref s.heap.objs.size) = operate [.ref s.heap.objs.size, .str x t] (getItem (.str x t) (.ref s.heap.objs.size)) := by with_unfolding_all rfl)
    (ht : ∀ r, letTemporaryGo value (.str x t) r = pure () := by intro _; with_unfolding_all rfl) :
    wpAny (model prog w) A (subscriptTail value slice (.str x t) (.ref s.heap.objs.size)) Q E { s with heap := s.heap.push { cls := .type "slice", data := .fields #[.int ((a.length : Int) + 1) uj, .none, .none] } } := by
  refine slice_sn hF hN hx (by simp; omega) (by omega) (fun h' t' k F N => ?_) hs ht
  have e : (a ++ 47 :: b).drop ((a.length : Int) + 1).toNat = b := by
    rw [show ((a.length : Int) + 1).toNat = a.length + 1 by omega, show a ++ 47 :: b = (a ++ [47]) ++ b by simp]
    exact List.drop_left' (by simp)
  rw [e]; exact h _ _ _ F N
theorem ne_mk {a b : List Nat} (hx : x = mkS a) (hy : y = mkS b) (h : Q (.bool (!decide (a = b))) s) : wpAny (model prog w) A (compareOp .NotEq (.str x t) (.str y u)) Q E s := by
  subst hx; subst hy
  refine ne_str ?_
  have e : ((mkS a) != (mkS b)) = (!decide (a = b)) := by
    unfold bne
    congr 1
    rw [Bool.eq_iff_iff, beq_iff_eq, decide_eq_true_iff]
    constructor
    · intro h
      have h2 : a.toArray = b.toArray := congrArg Str.cps h
      have h3 := congrArg Array.toList h2
      simpa using h3
    · rintro rfl; rfl
  first | (rw [e]; exact h) | (have e2 : ((mkS a).cps.toList != (mkS b).cps.toList) = (!decide (a = b)) := by (simp [mkS, bne, Bool.eq_iff_iff]); rw [e2]; exact h)
end
end Mine

namespace Mine
/-- what is left over of the octets so far -/
def lcI (x : Array UInt8) : Nat → Nat
  | 0 => 0
  | i + 1 => (lcI x i * 256 + (x.getD i 0).toNat) % 65536
def lbI : Nat → Int
  | 0 => 0 | 1 => 2 | 2 => 4 | 3 => 0 | 4 => 2 | 5 => 4 | _ => 0
def stepO (lc : Nat) : Nat → List Nat
  | 0 => [lc / 4 % 64] | 1 => [lc / 16 % 64] | 2 => [lc / 64 % 64, lc % 64] | 3 => [lc / 4 % 64] | 4 => [lc / 16 % 64] | _ => [lc / 64 % 64, lc % 64]
/-- the figures by 64 so far -/
def figO (x : Array UInt8) : Nat → List Nat
  | 0 => []
  | i + 1 => figO x i ++ stepO (lcI x (i + 1)) i
def signO (x : Array UInt8) (i : Nat) : List Int := (figO x i).map fun k => ((b64T.getD k 0 : Nat) : Int)
def b64J (m : Str → Option Value) (D : Addr) (news : List (Addr × Obj)) (x : Array UInt8) (i : Nat) (m₁ : Str → Option Value) (nw : List (Addr × Obj)) : Prop :=
  ∃ ys, nw = (D, LCg.lst ys) :: news ∧ IntsAre ys (signO x i) ∧ ∃ (z : Option Value) (t1 t2 : Tok), m₁ = fun y => if y = Str.ofString "leftbits" then some (.int (lbI i) t1) else if y = Str.ofString "leftchar" then some (.int (lcI x i : Int) t2) else if y = Str.ofString "b" then z else m y
section
variable {prog : Program} {w : World} {A : Around} {E : Value → Shared → Prop} {s : Shared} {env : Env} {h₀ : Heap} {body : List Stmt} {Q : Flow → Shared → Prop}
theorem loop_b64 {x : Array UInt8} {tx : Tok} {D : Addr} {m : Str → Option Value} {news : List (Addr × Obj)} {t1 t2 : Tok} (hh : A.handled = none) (F : Fr h₀ env.locals s.heap m) (N : News h₀ env.locals s.heap ((D, LCg.lst []) :: news)) (hx : x.size = 6)
    (h1 : m (Str.ofString "leftbits") = some (.int 0 t1)) (h2 : m (Str.ofString "leftchar") = some (.int 0 t2))
    (turn : ∀ I i ys tb t1 t2 z oI h tk, i < 6 → IntsAre ys (signO x i) → (∀ p ∈ (D, LCg.lst ys) :: news, p.1 ≠ I) →
      Fr h₀ env.locals h (fun y => if y = Str.ofString "b" then some (.int (((x.getD i 0).toNat : Nat) : Int) tb) else if y = Str.ofString "leftbits" then some (.int (lbI i) t1) else if y = Str.ofString "leftchar" then some (.int (lcI x i : Int) t2) else if y = Str.ofString "b" then z else m y) → News h₀ env.locals h ((I, oI) :: (D, LCg.lst ys) :: news) →
      wpAny (model prog w) A (execs body env) (UnrPost h₀ env.locals { s with heap := h, toks := tk } I oI (b64J m D news x (i + 1)) Q) E { s with heap := h, toks := tk })
    (done : ∀ ys z t1 t2 h tk, IntsAre ys (signO x 6) → Fr h₀ env.locals h (fun y => if y = Str.ofString "leftbits" then some (.int 0 t1) else if y = Str.ofString "leftchar" then some (.int (lcI x 6 : Int) t2) else if y = Str.ofString "b" then z else m y) → News h₀ env.locals h ((D, LCg.lst ys) :: news) → Q .next { s with heap := h, toks := tk }) :
    wpAny (model prog w) A (pyIter (.bytes x tx)) (fun it s₂ => LoopAtV prog w A h₀ env (Str.ofString "b") body Q E it s₂) E s := by
  refine loop_bytes (b64J m D news x) hh F N ⟨[], rfl, .nil, m (Str.ofString "b"), t1, t2, ?_⟩ ?_ ?_
  · funext y
    by_cases e1 : y = Str.ofString "leftbits"
    · rw [if_pos e1, e1, h1]; rfl
    rw [if_neg e1]
    by_cases e2 : y = Str.ofString "leftchar"
    · rw [if_pos e2, e2, h2]; rfl
    rw [if_neg e2]
    by_cases e3 : y = Str.ofString "b"
    · rw [if_pos e3, e3]
    · rw [if_neg e3]
  · rintro I i v m₁ nw oI h tk hi ⟨c, u, hc, rfl⟩ ⟨ys, rfl, hys, z, t1, t2, rfl⟩ off F' N'
    have e : x.getD i 0 = c := by simp [Array.getD_eq_getD_getElem?, hc]
    rw [← e] at F'
    exact turn I i ys u t1 t2 z oI h tk (by omega) hys off F' N'
  · rintro m₁ nw h tk ⟨ys, rfl, hys, z, t1, t2, rfl⟩ F' N'
    rw [hx] at F' hys
    exact done ys z t1 t2 h tk hys F' N'
theorem b64_end {L I D : Addr} {oI : Obj} {m m' : Str → Option Value} {news all : List (Addr × Obj)} {x : Array UInt8} {i : Nat} {ys : List Value} {a c : Int} {t1 t2 : Tok} {z : Option Value} {h' : Heap} {tk : Nat}
    (F : Fr h₀ L h' m') (N : News h₀ L h' all) (sub : ∀ p ∈ (I, oI) :: (D, LCg.lst ys) :: news, p ∈ all) (off : ∀ p ∈ news, p.1 ≠ I) (offD : D ≠ I) (hys : IntsAre ys (signO x i))
    (e1 : m' (Str.ofString "leftbits") = some (.int a t1)) (ha : a = lbI i) (e2 : m' (Str.ofString "leftchar") = some (.int c t2)) (hc : c = (lcI x i : Int)) (e3 : m' (Str.ofString "b") = z)
    (e4 : ∀ y, y ≠ Str.ofString "leftbits" → y ≠ Str.ofString "leftchar" → y ≠ Str.ofString "b" → m' y = m y) :
    UnrEnd h₀ L s I oI (b64J m D news x i) { s with heap := h', toks := tk } := by
  refine UnrEnd.intro F N _ sub (fun p hp => ?_) ⟨ys, rfl, hys, z, t1, t2, ?_⟩
  · rcases List.mem_cons.mp hp with rfl | hp
    · exact offD
    · exact off p hp
  subst ha; subst hc
  funext y
  by_cases h1 : y = Str.ofString "leftbits"
  · rw [if_pos h1, h1, e1]
  rw [if_neg h1]
  by_cases h2 : y = Str.ofString "leftchar"
  · rw [if_pos h2, h2, e2]
  rw [if_neg h2]
  by_cases h3 : y = Str.ofString "b"
  · rw [if_pos h3, h3, e3]
  · rw [if_neg h3, e4 y h1 h2 h3]
end
end Mine

namespace Mine
theorem and_m1 (x : Int) : Builtin.bitAnd x (-1) = x := by
  unfold Builtin.bitAnd
  by_cases h : 0 ≤ x
  · simp only [h, decide_true, show ¬ (0 : Int) ≤ -1 by decide, decide_false]
    show x - ((x.toNat &&& 0 : Nat) : Int) = x
    rw [Nat.and_zero]; simp
  · simp only [h, decide_false, show ¬ (0 : Int) ≤ -1 by decide]
    show Builtin.bitNot (((Builtin.bitNot x).toNat ||| 0 : Nat) : Int) = x
    rw [Nat.or_zero]
    unfold Builtin.bitNot
    omega
theorem and_low : ∀ (k : Nat) (a b : Int), 0 ≤ b → b < 2 ^ k → Builtin.bitAnd (-(a * 2 ^ k) - 1) (-b - 1) = -(a * 2 ^ k + b) - 1
  | 0, a, b, h0, h1 => by
    have hb : b = 0 := by simp at h1; omega
    subst hb
    have := and_m1 (-(a * 2 ^ 0) - 1)
    simpa using this
  | k + 1, a, b, h0, h1 => by
    rw [kbt_halves]
    have hp : (2 : Int) ^ (k + 1) = 2 * 2 ^ k := by rw [Int.pow_succ, Int.mul_comm]
    have hm : a * 2 ^ (k + 1) = 2 * (a * 2 ^ k) := by rw [hp, ← Int.mul_assoc, Int.mul_comm a 2, Int.mul_assoc]
    rw [hm]
    generalize hA : a * 2 ^ k = A at *
    have e1 : (-(2 * A) - 1) / 2 = -A - 1 := by omega
    have e2 : (-b - 1) / 2 = -(b / 2) - 1 := by omega
    have ih := and_low k a (b / 2) (by omega) (by rw [hp] at h1; omega)
    rw [hA] at ih
    rw [e1, e2, ih]
    split <;> omega
theorem or_low {k : Nat} {a b : Int} (h0 : 0 ≤ b) (h1 : b < 2 ^ k) : Builtin.bitOr (a * 2 ^ k) b = a * 2 ^ k + b := by
  unfold Builtin.bitOr Builtin.bitNot
  have := and_low k a b h0 h1
  rw [this]; omega
def b64B : List UInt8 := b64T.map UInt8.ofNat
theorem b64B_at : ∀ j : Fin 64, (b64B.getD j.val 0).toNat = b64T.getD j.val 0 := by decide +kernel
section
variable {prog : Program} {w : World} {A : Around} {E : Value → Shared → Prop} {s : Shared} {t u : Tok} {Q : Value → Shared → Prop}
theorem or_mk {a b : Int} (h0 : 0 ≤ b) (h1 : b < 256) (h : Q (.int (a * 256 + b) s.toks) { s with toks := s.toks + 1 }) : wpAny (model prog w) A (binaryOp .BitOr (.int (a * 2 ^ Int.toNat 8) t) (.int b u)) Q E s := by
  refine or_int ?_
  have e := or_low (k := 8) (a := a) h0 h1
  rw [show (Int.toNat 8) = 8 from rfl, e]
  exact h
theorem and16_mk {a : Int} (h : Q (.int (a % 65536) s.toks) { s with toks := s.toks + 1 }) : wpAny (model prog w) A (binaryOp .BitAnd (.int a t) (.int 65535 u)) Q E s := by
  refine and_int ?_
  rw [bitAnd_m16]; exact h
theorem and6_mk {a : Int} (h : Q (.int (a % 64) s.toks) { s with toks := s.toks + 1 }) : wpAny (model prog w) A (binaryOp .BitAnd (.int a t) (.int 63 u)) Q E s := by
  refine and_int ?_
  rw [bitAnd_m6]; exact h
theorem item_b64 {value slice : PySem.Expr} {l : List UInt8} {a : Int} (hl : l = b64B)
    (h : ∀ t' k, Q (.int ((b64T.getD (a % 64).toNat 0 : Nat) : Int) t') { s with toks := k })
    (hs : subscripted slice false (.bytes l.toArray t) (.int (a % 64) u) = operate [.bytes l.toArray t, .int (a % 64) u] (getItem (.bytes l.toArray t) (.int (a % 64) u)) := by with_unfolding_all rfl)
    (ht : ∀ r, letTemporaryGo value (.bytes l.toArray t) r = pure () := by intro _; with_unfolding_all rfl) : wpAny (model prog w) A (subscriptTail value slice (.bytes l.toArray t) (.int (a % 64) u)) Q E s := by
  subst hl
  have h0 : 0 ≤ a % 64 := Int.emod_nonneg _ (by decide)
  have h1 : a % 64 < 64 := Int.emod_lt_of_pos _ (by decide)
  have g : wpAny (model prog w) A (getItem (.bytes b64B.toArray t) (.int (a % 64) u)) Q E s := by
    refine getItem_bytes (l := b64B) (by decide) h0 (by show a % 64 < ((64 : Nat) : Int); omega) ?_
    have e := b64B_at ⟨(a % 64).toNat, by omega⟩
    dsimp only at e
    rw [e]; exact h _ _
  exact tail_of_ItemOn ⟨"bytes", _, FB.slot_bytes_getitem.lookup, typeIs_bytes _ _ _, g⟩ hs ht
theorem append_mk1 {h₀ : Heap} {L D : Addr} {m : Str → Option Value} {news : List (Addr × Obj)} {ys : List Value} {v : Value} (F : Fr h₀ L s.heap m) (N : News h₀ L s.heap ((D, LCg.lst ys) :: news)) (hD : ∀ p ∈ news, p.1 < D) (hsz : ys.length ≤ 1000)
    (h : ∀ h', Fr h₀ L h' m → News h₀ L h' ((D, LCg.lst (ys ++ [v])) :: news) → Q .none { s with heap := h' }) : wpAny (model prog w) A (call (.builtin "list.append") [.ref D, v]) Q E s := by
  refine append_K (its := ys.toArray) (n := ys.length) F N (Upd.head fun p hp => Nat.ne_of_lt (hD p hp)) (fun h' F' N' => h h' F' ?_) (by rw [sizeLine_eq, List.size_toArray]; omega)
  have e : (listOf (ys.toArray.push v) (ys.length + 1)) = LCg.lst (ys ++ [v]) := LCg.lst_snoc ys v
  rw [← e]; exact N'
theorem append_mk2 {h₀ : Heap} {L D I : Addr} {oI : Obj} {m : Str → Option Value} {news : List (Addr × Obj)} {ys : List Value} {v : Value} (F : Fr h₀ L s.heap m) (N : News h₀ L s.heap ((I, oI) :: (D, LCg.lst ys) :: news)) (hI : I ≠ D) (hD : ∀ p ∈ news, p.1 < D) (hsz : ys.length ≤ 1000)
    (h : ∀ h', Fr h₀ L h' m → News h₀ L h' ((I, oI) :: (D, LCg.lst (ys ++ [v])) :: news) → Q .none { s with heap := h' }) : wpAny (model prog w) A (call (.builtin "list.append") [.ref D, v]) Q E s := by
  refine append_K (its := ys.toArray) (n := ys.length) F N (Upd.tail hI (Upd.head fun p hp => Nat.ne_of_lt (hD p hp))) (fun h' F' N' => h h' F' ?_) (by rw [sizeLine_eq, List.size_toArray]; omega)
  have e : (listOf (ys.toArray.push v) (ys.length + 1)) = LCg.lst (ys ++ [v]) := LCg.lst_snoc ys v
  rw [← e]; exact N'
end
theorem intsAre_snoc {ys : List Value} {l : List Int} {k : Int} {t : Tok} (h : IntsAre ys l) : IntsAre (ys ++ [.int k t]) (l ++ [k]) := by
  induction h with
  | nil => exact .cons _ _ .nil
  | cons n t _ ih => exact .cons n t ih
theorem lcI_lt (x : Array UInt8) : ∀ i, lcI x i < 65536
  | 0 => by rw [lcI]; decide
  | i + 1 => by unfold lcI; omega
theorem signO_len (x : Array UInt8) (i : Nat) (hi : i ≤ 6) : (signO x i).length ≤ 12 := by
  unfold signO
  rw [List.length_map]
  match i, hi with
  | 0, _ => simp [figO]
  | 1, _ => simp [figO, stepO]
  | 2, _ => simp [figO, stepO]
  | 3, _ => simp [figO, stepO]
  | 4, _ => simp [figO, stepO]
  | 5, _ => simp [figO, stepO]
  | 6, _ => simp [figO, stepO]
end Mine

namespace Mine
theorem lb3 : ∀ {i : Nat}, i < 6 → lbI i = 0 ∨ lbI i = 2 ∨ lbI i = 4
  | 0, _ => .inl rfl
  | 1, _ => .inr (.inl rfl)
  | 2, _ => .inr (.inr rfl)
  | 3, _ => .inl rfl
  | 4, _ => .inr (.inl rfl)
  | 5, _ => .inr (.inr rfl)
theorem lc_step (x : Array UInt8) (i : Nat) : ((((lcI x i : Nat) : Int) * 256 + (((x.getD i 0).toNat : Nat) : Int)) % 65536) = (lcI x (i + 1) : Int) := by
  show _ = (((lcI x i * 256 + (x.getD i 0).toNat) % 65536 : Nat) : Int)
  omega
theorem b64_ys {x : Array UInt8} {i : Nat} {ys : List Value} (h : IntsAre ys (signO x i)) (hi : i < 6) : ys.length ≤ 990 := by
  have h1 := h.length
  have h2 := signO_len x i (by omega)
  omega
theorem oct_in (x : Array UInt8) (i : Nat) : 0 ≤ (((x.getD i 0).toNat : Nat) : Int) ∧ (((x.getD i 0).toNat : Nat) : Int) < 256 := by have := (x.getD i 0).toNat_lt; omega
theorem lc_in (x : Array UInt8) (i : Nat) : 0 ≤ (lcI x i : Int) ∧ (lcI x i : Int) < 65536 := by have := lcI_lt x i; omega
theorem st_0 {i : Nat} (lc : Nat) (hi : i < 6) (h : lbI i = 0) : stepO lc i = [lc / 4 % 64] ∧ lbI (i + 1) = 2 := by
  match i, hi with
  | 0, _ => exact ⟨rfl, rfl⟩
  | 3, _ => exact ⟨rfl, rfl⟩
  | 1, _ => cases h
  | 2, _ => cases h
  | 4, _ => cases h
  | 5, _ => cases h
theorem st_2 {i : Nat} (lc : Nat) (hi : i < 6) (h : lbI i = 2) : stepO lc i = [lc / 16 % 64] ∧ lbI (i + 1) = 4 := by
  match i, hi with
  | 1, _ => exact ⟨rfl, rfl⟩
  | 4, _ => exact ⟨rfl, rfl⟩
  | 0, _ => cases h
  | 2, _ => cases h
  | 3, _ => cases h
  | 5, _ => cases h
theorem st_4 {i : Nat} (lc : Nat) (hi : i < 6) (h : lbI i = 4) : stepO lc i = [lc / 64 % 64, lc % 64] ∧ lbI (i + 1) = 0 := by
  match i, hi with
  | 2, _ => exact ⟨rfl, rfl⟩
  | 5, _ => exact ⟨rfl, rfl⟩
  | 0, _ => cases h
  | 1, _ => cases h
  | 3, _ => cases h
  | 4, _ => cases h
theorem sh_n (lc k : Nat) (e : Int) (he : e = (k : Int)) : (Int.fdiv (lc : Int) (2 ^ Int.toNat e) % 64).toNat = lc / 2 ^ k % 64 := by
  subst he
  have h1 : Int.fdiv (lc : Int) ((2 : Int) ^ k) = ((lc / 2 ^ k : Nat) : Int) := fdp lc 2 k
  rw [Int.toNat_natCast, h1]
  omega
theorem signO_1 {x : Array UInt8} {i q : Nat} {v : Int} {ys : List Value} (hs : stepO (lcI x (i + 1)) i = [q]) (hv : v = ((b64T.getD q 0 : Nat) : Int)) (h : IntsAre ys (signO x i ++ [v])) : IntsAre ys (signO x (i + 1)) := by
  unfold signO at *
  rw [figO, hs, List.map_append, List.map_singleton, ← hv]; exact h
theorem signO_2 {x : Array UInt8} {i q r : Nat} {v u : Int} {ys : List Value} (hs : stepO (lcI x (i + 1)) i = [q, r]) (hv : v = ((b64T.getD q 0 : Nat) : Int)) (hu : u = ((b64T.getD r 0 : Nat) : Int)) (h : IntsAre ys (signO x i ++ [v] ++ [u])) : IntsAre ys (signO x (i + 1)) := by
  unfold signO at *
  rw [figO, hs, List.map_append, List.map_cons, List.map_singleton, ← hv, ← hu]
  simpa using h
theorem b64T_lt : ∀ k : Nat, b64T.getD k 0 < 256 := by
  intro k
  by_cases h : k < 64
  · have : ∀ j : Fin 64, b64T.getD j.val 0 < 256 := by decide +kernel
    exact this ⟨k, h⟩
  · rw [List.getD_eq_getElem?_getD, List.getElem?_eq_none (by show b64T.length ≤ k; have : b64T.length = 64 := rfl; omega)]; decide
theorem signO_in (x : Array UInt8) (i : Nat) : KBa.In (signO x i) := by
  intro n hn
  obtain ⟨k, _, rfl⟩ := List.mem_map.mp hn
  have := b64T_lt k
  omega
theorem off_head {D I : Addr} {o : Obj} {news : List (Addr × Obj)} (h : ∀ p ∈ (D, o) :: news, p.1 ≠ I) : I ≠ D := fun e => h _ List.mem_cons_self e.symm
theorem off_tail {D I : Addr} {o : Obj} {news : List (Addr × Obj)} (h : ∀ p ∈ (D, o) :: news, p.1 ≠ I) : ∀ p ∈ news, p.1 ≠ I := fun p hp => h p (List.mem_cons_of_mem _ hp)
def interS (ls : List (List Nat)) : List Nat := (ls.flatMap fun c => 47 :: c).drop 1
theorem join_slash : ∀ ls : List (List Nat), Str.join (mkS [47]) (ls.map mkS) = mkS (interS ls)
  | [] => rfl
  | [c] => by simp [interS, Str.join]
  | c :: d :: r => by
    have ih := join_slash (d :: r)
    show mkS c ++ mkS [47] ++ Str.join (mkS [47]) ((d :: r).map mkS) = _
    rw [ih, mkS_append, mkS_append]
    simp [interS]
theorem slash_inter (n f : Nat) : [47] ++ interS (flds n f) = pathL n f := by
  unfold pathL interS
  cases f with
  | zero => rfl
  | succ g =>
    rw [if_neg (by omega)]
    have : flds n (g + 1) ≠ [] := by
      intro e
      have := congrArg List.length e
      rw [flds_len] at this
      simp at this
    cases h : flds n (g + 1) with
    | nil => exact absurd h this
    | cons c r => simp
theorem inter_len (n f : Nat) (h : f ≤ 4) : [47].length + (interS (flds n f)).length ≤ 1000 := by
  have h1 := congrArg List.length (slash_inter n f)
  rw [List.length_append, pathL_len] at h1
  rw [h1]
  split <;> omega
theorem hexD_get {n c i : Nat} (hi : i < c) : (hexD n c)[i]? = some (65 + n / 16 ^ (c - 1 - i) % 16) := by simp [hexD, hi]
theorem chars_get {l : List Nat} {i a : Nat} (h : l[i]? = some a) : (chars l)[i]? = some (mkS [a]) := by simp [chars, h]
theorem bitsL_get {n i : Nat} (hi : i < 8) : (bitsL n)[i]? = some (b64T.getD (n / 64 ^ (7 - i) % 64) 0) := by simp [bitsL, hi]
theorem hex_item (n e : Nat) : hexT.getD (Int.fmod (Int.fdiv (n : Int) (16 ^ e)) 16).toNat 0 = 65 + n / 16 ^ e % 16 := by
  have h1 : Int.fdiv (n : Int) ((16 : Int) ^ e) = ((n / 16 ^ e : Nat) : Int) := fdp n 16 e
  have h2 : Int.fmod ((n / 16 ^ e : Nat) : Int) 16 = ((n / 16 ^ e % 16 : Nat) : Int) := fmodN (n / 16 ^ e) 16
  rw [h1, h2, Int.toNat_natCast]
  exact hexT_at ⟨n / 16 ^ e % 16, Nat.mod_lt _ (by decide)⟩
theorem b64_item (n e : Nat) : Int.fmod (Int.fdiv (n : Int) (64 ^ e)) 64 = ((n / 64 ^ e % 64 : Nat) : Int) := by
  have h1 : Int.fdiv (n : Int) ((64 : Int) ^ e) = ((n / 64 ^ e : Nat) : Int) := fdp n 64 e
  have h2 : Int.fmod ((n / 64 ^ e : Nat) : Int) 64 = ((n / 64 ^ e % 64 : Nat) : Int) := fmodN (n / 64 ^ e) 64
  rw [h1, h2]
section
variable {prog : Program} {w : World} {A : Around} {E : Value → Shared → Prop} {s : Shared} {h₀ : Heap} {L : Addr} {news : List (Addr × Obj)} {x : Str} {t : Tok}
theorem join_slash_led {D : Addr} {ys : List Value} {ls : List (List Nat)} {Q : Value → Shared → Prop} (N : News h₀ L s.heap news) (hm : (D, LCg.lst ys) ∈ news) (hi : StrsAre ys (ls.map mkS)) (hw : ∀ c ∈ ls, c.length = 3 ∧ 47 ∉ c) (hl : ls.length ≤ 4) (hx : x = mkS [47])
    (h : ∀ t' k, Q (.str (mkS (interS ls)) t') { s with toks := k }) : wpAny (model prog w) A (call (.builtin "str.join") [.str x t, .ref D]) Q E s := by
  subst hx
  refine join_led N hm hi (by rw [mkS_len]; decide) ?_ ?_
  · have : ∀ ls : List (List Nat), (∀ c ∈ ls, c.length = 3 ∧ 47 ∉ c) → ((ls.map mkS).map (·.length)).sum = 3 * ls.length := by
      intro ls
      induction ls with
      | nil => intro _; rfl
      | cons c r ih =>
        intro h
        have h3 := (h c List.mem_cons_self).1
        have := ih fun d hd => h d (List.mem_cons_of_mem _ hd)
        simp only [List.map_cons, List.sum_cons, List.length_cons]
        rw [this, mkS_len, h3]; omega
    rw [this ls hw, List.length_map]; omega
  · have e : Txt.join (mkS [47]) (ls.map mkS) = mkS (interS ls) := by
      unfold Txt.join
      rw [StrLaws.glued_eq_join, join_slash]
    rw [e]
    exact h
end
end Mine

namespace Mine
def octI (n : Nat) : List Int := (List.range 6).map fun k => ((n / 256 ^ (5 - k) % 256 : Nat) : Int)
theorem octI_get {n i : Nat} (hi : i < 6) : (octI n)[i]? = some ((n / 256 ^ (5 - i) % 256 : Nat) : Int) := by simp [octI, hi]
theorem octI_in (n : Nat) : KBa.In (octI n) := by
  intro x hx
  obtain ⟨k, _, rfl⟩ := List.mem_map.mp hx
  have : n / 256 ^ (5 - k) % 256 < 256 := Nat.mod_lt _ (by decide)
  omega
theorem oct_item (n e : Nat) : Int.fmod (Int.fdiv (n : Int) (256 ^ e)) 256 = ((n / 256 ^ e % 256 : Nat) : Int) := by
  have h1 : Int.fdiv (n : Int) ((256 : Int) ^ e) = ((n / 256 ^ e : Nat) : Int) := fdp n 256 e
  have h2 : Int.fmod ((n / 256 ^ e : Nat) : Int) 256 = ((n / 256 ^ e % 256 : Nat) : Int) := fmodN (n / 256 ^ e) 256
  rw [h1, h2]
theorem octs_at {n i : Nat} (hi : i < 6) : ((byteArr (octI n)).getD i 0).toNat = n / 256 ^ (5 - i) % 256 := by
  have e : (byteArr (octI n))[i]? = some (((n / 256 ^ (5 - i) % 256 : Nat) : Int).toNat.toUInt8) := by
    unfold byteArr
    rw [List.getElem?_toArray, List.getElem?_map, octI_get hi]; rfl
  rw [Array.getD_eq_getD_getElem?, e, Option.getD_some, Int.toNat_natCast]
  have : n / 256 ^ (5 - i) % 256 < 256 := Nat.mod_lt _ (by decide)
  show (UInt8.ofNat _).toNat = _
  rw [UInt8.toNat_ofNat']
  omega
theorem lc_of {n : Nat} (hn : n < 2 ^ 48) : ∀ i, i ≤ 6 → lcI (byteArr (octI n)) i = n / 256 ^ (6 - i) % 65536
  | 0, _ => by
    show 0 = _
    rw [show n / 256 ^ (6 - 0) = 0 from Nat.div_eq_of_lt (by simpa using hn)]
  | i + 1, hi => by
    show (lcI (byteArr (octI n)) i * 256 + ((byteArr (octI n)).getD i 0).toNat) % 65536 = _
    rw [lc_of hn i (by omega), octs_at (by omega)]
    have e : n / 256 ^ (6 - i) = n / 256 ^ (5 - i) / 256 := by
      rw [Nat.div_div_eq_div_mul, ← Nat.pow_succ, show (5 - i).succ = 6 - i by omega]
    rw [e, show 6 - (i + 1) = 5 - i by omega]
    omega
theorem fig_of {n : Nat} (hn : n < 2 ^ 48) : figO (byteArr (octI n)) 6 = (List.range 8).map fun k => n / 64 ^ (7 - k) % 64 := by
  have h := lc_of hn
  have h1 := h 1 (by decide); have h2 := h 2 (by decide); have h3 := h 3 (by decide); have h4 := h 4 (by decide); have h5 := h 5 (by decide); have h6 := h 6 (by decide)
  have e : figO (byteArr (octI n)) 6 = [lcI (byteArr (octI n)) 1 / 4 % 64, lcI (byteArr (octI n)) 2 / 16 % 64, lcI (byteArr (octI n)) 3 / 64 % 64, lcI (byteArr (octI n)) 3 % 64, lcI (byteArr (octI n)) 4 / 4 % 64, lcI (byteArr (octI n)) 5 / 16 % 64, lcI (byteArr (octI n)) 6 / 64 % 64, lcI (byteArr (octI n)) 6 % 64] := rfl
  rw [e, h1, h2, h3, h4, h5, h6]
  show _ = [n / 64 ^ 7 % 64, n / 64 ^ 6 % 64, n / 64 ^ 5 % 64, n / 64 ^ 4 % 64, n / 64 ^ 3 % 64, n / 64 ^ 2 % 64, n / 64 ^ 1 % 64, n / 64 ^ 0 % 64]
  have a4 : ∀ a : Nat, a % 65536 / 4 % 64 = a / 4 % 64 := fun a => by omega
  have a16 : ∀ a : Nat, a % 65536 / 16 % 64 = a / 16 % 64 := fun a => by omega
  have a64 : ∀ a : Nat, a % 65536 / 64 % 64 = a / 64 % 64 := fun a => by omega
  have a1 : ∀ a : Nat, a % 65536 % 64 = a % 64 := fun a => by omega
  rw [a4, a16, a64, a1, a4, a16, a64, a1]
  simp only [Nat.div_div_eq_div_mul]
def signL (x : Array UInt8) : List Nat := (figO x 6).map fun k => b64T.getD k 0
theorem signL_of {n : Nat} (hn : n < 2 ^ 48) : signL (byteArr (octI n)) = bitsL n := by
  unfold signL bitsL
  rw [fig_of hn, List.map_map]; rfl
theorem signL_get {x : Array UInt8} {i : Nat} {c : UInt8} (h : (byteArr (signO x 6))[i]? = some c) : (chars (signL x))[i]? = some (mkS [c.toNat]) := by
  apply chars_get
  unfold byteArr signO at h
  rw [List.getElem?_toArray, List.map_map, List.getElem?_map] at h
  obtain ⟨k, hk, rfl⟩ := Option.map_eq_some_iff.mp h
  unfold signL
  rw [List.getElem?_map, hk]
  have := b64T_lt k
  show some (b64T.getD k 0) = some (UInt8.ofNat (((b64T.getD k 0 : Nat) : Int).toNat)).toNat
  rw [Int.toNat_natCast, UInt8.toNat_ofNat']
  congr 1; omega
theorem signO_size (x : Array UInt8) : (byteArr (signO x 6)).size = (chars (signL x)).length := by
  simp [byteArr, signO, chars, signL]
section
variable {prog : Program} {w : World} {A : Around} {E : Value → Shared → Prop} {s : Shared} {env : Env} {h₀ : Heap} {x : Str} {body : List Stmt} {Q : Flow → Shared → Prop}
theorem loop_range {r : Addr} {a b c : Int} {t u v : Tok} {n : Nat} {m₀ : Str → Option Value} {news : List (Addr × Obj)} (J : Nat → (Str → Option Value) → List (Addr × Obj) → Prop) (hh : A.handled = none) (hr : IsRange s.heap r a b c t u v) (hsm : Builtin.Range.small a b c = true) (hn : Builtin.Range.rangeSize a b c = ((n : Nat) : Int)) (F : Fr h₀ env.locals s.heap m₀) (N : News h₀ env.locals s.heap news)
    (j0 : J 0 m₀ news)
    (turn : ∀ I i t m₁ news₁ oI h tk, i < n → J i m₁ news₁ → (∀ p ∈ news₁, p.1 ≠ I) → Fr h₀ env.locals h (fun y => if y = x then some (.int (a + (i : Int) * c) t) else m₁ y) → News h₀ env.locals h ((I, oI) :: news₁) →
      wpAny (model prog w) A (execs body env) (UnrPost h₀ env.locals { s with heap := h, toks := tk } I oI (J (i + 1)) Q) E { s with heap := h, toks := tk })
    (done : ∀ m₁ news₁ h tk, J n m₁ news₁ → Fr h₀ env.locals h m₁ → News h₀ env.locals h news₁ → Q .next { s with heap := h, toks := tk }) :
    wpAny (model prog w) A (pyIter (.ref r)) (fun it s₂ => LoopAtV prog w A h₀ env x body Q E it s₂) E s := by
  refine wpAny_pyIter_range hr hsm ?_
  refine loop_one J rfl (Walks.range hh s.heap.objs.size a c n) (fun i h st => ⟨_, st⟩) ?_ F N j0 ?_ done
  · show IsRangeIter _ _ _ _ _
    rw [hn]; simpa using Heap.get?_push_size _ rfl
  · rintro I' v m₁ news₁ oI h tk hi ⟨t, rfl⟩ hJ off F' N'
    exact turn _ I' t m₁ news₁ oI h tk hi hJ off F' N'
end
end Mine

namespace Mine
theorem Ct.weaken {f : Addr} {d : Nat} {pre pre' : Prop} {vs : List Value} {R R' : Tok → Value} (c : Ct f d pre vs R) (hp : pre' → pre) (hR : pre' → ∀ t, R t = R' t) : Ct f d pre' vs R' := by
  intro prog w mean mg mb news dp un gd cn cs a ccd cl outer A₀ base h₀ L m s Q E B F X N T hk hpre hd hu hret
  refine c prog w mean mg mb news dp un gd cn cs a ccd cl outer A₀ base h₀ L m s Q E B F X N T hk (hp hpre) hd hu fun t h' tk' F' N' => ?_
  rw [hR hpre t]; exact hret t h' tk' F' N'
theorem preL_ok (n f : Nat) (h0 : f ≠ 0) : LastOk (preL n f) := by
  unfold preL
  split
  · exact .inl rfl
  · obtain ⟨a, c, e, hc⟩ := pathL_last (n / 4096) (f - 1) (by omega)
    exact .inr ⟨a, c, e, hc⟩
theorem preL_len (n f : Nat) (h : f ≤ 4) : (preL n f).length ≤ 80 := by
  unfold preL
  split
  · simp
  · rw [pathL_len]; split <;> omega
theorem dir_pre (n f : Nat) (h : f ≠ 0) : dirL (preL n f) = pathL (n / 4096) (f - 1) := by
  unfold preL dirL
  by_cases h1 : f = 1
  · subst h1; rfl
  · rw [if_neg h1, if_neg]
    intro e
    have := congrArg List.length e
    rw [pathL_len] at this
    split at this <;> simp at this
    omega
theorem fld_mod (q : Nat) : fld (q % 4096) 0 = fld q 0 := by
  unfold fld hx
  simp only [Nat.mul_zero, Nat.zero_add]
  have a0 : q % 4096 / 16 ^ 0 % 16 = q / 16 ^ 0 % 16 := by omega
  have a1 : q % 4096 / 16 ^ 1 % 16 = q / 16 ^ 1 % 16 := by omega
  have a2 : q % 4096 / 16 ^ 2 % 16 = q / 16 ^ 2 % 16 := by omega
  rw [a0, a1, a2]
theorem path_one (q : Nat) : (pathL (q % 4096) 1).drop 1 = fld q 0 := by
  rw [← fld_mod]; rfl
section
variable {prog : Program} {w : World} {A : Around} {E : Value → Shared → Prop} {s : Shared} {t u : Tok} {Q : Value → Shared → Prop}
theorem div_powN {N b k i : Nat} (h0 : 0 < b) (h1 : b ≤ 4096) (hk : k = i) (hi : i ≤ 60) (h : Q (.int ((N / b ^ i : Nat) : Int) s.toks) { s with toks := s.toks + 1 }) : wpAny (model prog w) A (binaryOp .FloorDiv (.int (N : Int) t) (.int ((b : Int) ^ k) u)) Q E s := by
  subst hk
  refine div_pow (by omega) (by omega) hi ?_
  rw [fdp]; exact h
end
def climbJ (m : Str → Option Value) (news : List (Addr × Obj)) (n : Nat) (i : Nat) (m₁ : Str → Option Value) (nw : List (Addr × Obj)) : Prop :=
  nw = news ∧ ∃ (z1 z2 : Option Value) (t : Tok), m₁ = fun y => if y = Str.ofString "path" then some (.str (mkS (pathL (n / 4096 ^ i) (4 - i))) t) else if y = Str.ofString "quotient" then z1 else if y = Str.ofString "up" then z2 else m y
section
variable {prog : Program} {w : World} {A : Around} {E : Value → Shared → Prop} {s : Shared} {env : Env} {h₀ : Heap} {body : List Stmt} {Q : Flow → Shared → Prop}
theorem loop_climb {r : Addr} {t u v : Tok} {n : Nat} {m : Str → Option Value} {news : List (Addr × Obj)} {t1 : Tok} (hh : A.handled = none) (hr : IsRange s.heap r 0 4 1 t u v) (F : Fr h₀ env.locals s.heap m) (N : News h₀ env.locals s.heap news)
    (hp : m (Str.ofString "path") = some (.str (mkS (pathL n 4)) t1))
    (turn : ∀ (I : Addr) (i : Nat) t t1 z1 z2 oI h tk, i < 4 → (∀ p ∈ news, p.1 ≠ I) →
      Fr h₀ env.locals h (fun y => if y = Str.ofString "up" then some (.int (0 + (i : Int) * 1) t) else if y = Str.ofString "path" then some (.str (mkS (pathL (n / 4096 ^ i) (4 - i))) t1) else if y = Str.ofString "quotient" then z1 else if y = Str.ofString "up" then z2 else m y) → News h₀ env.locals h ((I, oI) :: news) →
      wpAny (model prog w) A (execs body env) (UnrPost h₀ env.locals { s with heap := h, toks := tk } I oI (climbJ m news n (i + 1)) Q) E { s with heap := h, toks := tk })
    (done : ∀ z1 z2 t1 h tk, Fr h₀ env.locals h (fun y => if y = Str.ofString "path" then some (.str (mkS (pathL (n / 4096 ^ 4) 0)) t1) else if y = Str.ofString "quotient" then z1 else if y = Str.ofString "up" then z2 else m y) → News h₀ env.locals h news → Q .next { s with heap := h, toks := tk }) :
    wpAny (model prog w) A (pyIter (.ref r)) (fun it s₂ => LoopAtV prog w A h₀ env (Str.ofString "up") body Q E it s₂) E s := by
  refine loop_range (n := 4) (climbJ m news n) hh hr (by decide) (by decide) F N ⟨rfl, m (Str.ofString "quotient"), m (Str.ofString "up"), t1, ?_⟩ ?_ ?_
  · funext y
    by_cases e1 : y = Str.ofString "path"
    · rw [if_pos e1, e1, hp]; simp
    rw [if_neg e1]
    by_cases e2 : y = Str.ofString "quotient"
    · rw [if_pos e2, e2]
    rw [if_neg e2]
    by_cases e3 : y = Str.ofString "up"
    · rw [if_pos e3, e3]
    · rw [if_neg e3]
  · rintro I i t m₁ nw oI h tk hi ⟨rfl, z1, z2, t1, rfl⟩ off F' N'
    exact turn I i t t1 z1 z2 oI h tk hi off F' N'
  · rintro m₁ nw h tk ⟨rfl, z1, z2, t1, rfl⟩ F' N'
    exact done z1 z2 t1 h tk F' N'
theorem climb_end {L I : Addr} {oI : Obj} {m m' : Str → Option Value} {news all : List (Addr × Obj)} {n i : Nat} {l : List Nat} {t1 : Tok} {z1 z2 : Option Value} {h' : Heap} {tk : Nat}
    (F : Fr h₀ L h' m') (N : News h₀ L h' all) (sub : ∀ p ∈ (I, oI) :: news, p ∈ all) (off : ∀ p ∈ news, p.1 ≠ I)
    (e1 : m' (Str.ofString "path") = some (.str (mkS l) t1)) (hl : l = pathL (n / 4096 ^ i) (4 - i)) (e2 : m' (Str.ofString "quotient") = z1) (e3 : m' (Str.ofString "up") = z2)
    (e4 : ∀ y, y ≠ Str.ofString "path" → y ≠ Str.ofString "quotient" → y ≠ Str.ofString "up" → m' y = m y) :
    UnrEnd h₀ L s I oI (climbJ m news n i) { s with heap := h', toks := tk } := by
  refine UnrEnd.intro F N _ sub off ⟨rfl, z1, z2, t1, ?_⟩
  subst hl
  funext y
  by_cases h1 : y = Str.ofString "path"
  · rw [if_pos h1, h1, e1]
  rw [if_neg h1]
  by_cases h2 : y = Str.ofString "quotient"
  · rw [if_pos h2, h2, e2]
  rw [if_neg h2]
  by_cases h3 : y = Str.ofString "up"
  · rw [if_pos h3, h3, e3]
  · rw [if_neg h3, e4 y h1 h2 h3]
end
end Mine

namespace Mine
theorem kes_canLayAll0 : ∀ ns : List Str, (∀ x ∈ ns, PyData.strOk x = true) → PyData.canLayAll0 (ns.map PyData.str) = true
  | [], _ => rfl
  | x :: r, h => by
    have h1 := h x List.mem_cons_self
    have h2 := kes_canLayAll0 r fun y hy => h y (List.mem_cons_of_mem _ hy)
    simp [PyData.canLayAll0, PyData.canLay0, h1, h2]
theorem kes_depthAll : ∀ ns : List Str, PyData.depthAll (ns.map PyData.str) = 0
  | [] => rfl
  | _ :: r => by simp [PyData.depthAll, PyData.depth, kes_depthAll r]
theorem kes_shaped (ns : List Str) (h : ∀ x ∈ ns, PyData.strOk x = true) : SeqAt.shaped (.list (ns.map PyData.str)) = true := by
  simp [SeqAt.shaped, PyData.canLay0, PyData.depth, kes_canLayAll0 ns h, kes_depthAll]
theorem kes_sameAll : ∀ ns ms : List Str, PySem.Spec.sameAll (ns.map PyData.str) (ms.map PyData.str) = decide (ns = ms)
  | [], [] => by simp [PySem.Spec.sameAll]
  | [], _ :: _ => by simp [PySem.Spec.sameAll]
  | _ :: _, [] => by simp [PySem.Spec.sameAll]
  | a :: r, b :: t => by
    simp only [List.map_cons, PySem.Spec.sameAll, PySem.Spec.same, kes_sameAll r t]
    by_cases h : a = b <;> by_cases h' : r = t <;> simp [h, h']
theorem kes_same (ns ms : List Str) : PySem.Spec.same (.list (ns.map PyData.str)) (.list (ms.map PyData.str)) = decide (ns = ms) := by
  simp only [PySem.Spec.same]; exact kes_sameAll ns ms
section
variable {prog : Program} {w : World} {A : Around} {E : Value → Shared → Prop} {s : Shared} {a b : Addr} {xs ys : List Value} {ns ms : List Str} {Q : Value → Shared → Prop} {h₀ : Heap} {L : Addr} {news : List (Addr × Obj)}
theorem eq_strs (ha : s.heap.IsList a xs.toArray) (hb : s.heap.IsList b ys.toArray) (hi : StrsAre xs ns) (hj : StrsAre ys ms) (hu : A.units + 64 < cLine) (e : ns = ms) (hok : ∀ x ∈ ns, PyData.strOk x = true) (h : Q (.bool true) s) :
    wpAny (model prog w) A (compareOp .Eq (.ref a) (.ref b)) Q E s :=
  eq_dataH_same (reads_newData ha hi.carried) (reads_newData hb hj.carried) (kes_shaped _ hok) (kes_shaped _ (e ▸ hok)) hu (SeqAt.noMix_of_shape (.list .str) rfl _ _ (list_map_has fun _ => rfl) (list_map_has fun _ => rfl)) (by rw [kes_same, decide_eq_true e]; exact h)
theorem ne_strs (ha : s.heap.IsList a xs.toArray) (hb : s.heap.IsList b ys.toArray) (hi : StrsAre xs ns) (hj : StrsAre ys ms) (hu : A.units + 64 < cLine) (e : ns = ms) (hok : ∀ x ∈ ns, PyData.strOk x = true) (h : Q (.bool false) s) :
    wpAny (model prog w) A (compareOp .NotEq (.ref a) (.ref b)) Q E s :=
  ne_dataH_same (reads_newData ha hi.carried) (reads_newData hb hj.carried) (kes_shaped _ hok) (kes_shaped _ (e ▸ hok)) hu (SeqAt.noMix_of_shape (.list .str) rfl _ _ (list_map_has fun _ => rfl) (list_map_has fun _ => rfl)) (by rw [kes_same, decide_eq_true e]; exact h)
end
section
variable {prog : Program} {w : World} {A : Around} {E : Value → Shared → Prop} {s : Shared} {Q : Value → Shared → Prop} {h₀ : Heap} {L : Addr} {m : Str → Option Value} {news : List (Addr × Obj)}
theorem mul_two {l : Addr} {v : Value} {k : Nat} {u : Tok} (Fm : Fr h₀ L s.heap m) (N : News h₀ L s.heap news) (hl : (l, (Obj.mk (.type "list") none (.seq #[v] k) #[])) ∈ news)
    (h : ∀ h' D, Fr h₀ L h' m → News h₀ L h' ((D, (Obj.mk (.type "list") none (.seq #[v, v] 0) #[])) :: news) → Q (.ref D) { s with heap := h' }) :
    wpAny (model prog w) A (binaryOp .Mult (.ref l) (.int 2 u)) Q E s :=
  mul_list (items := #[v]) Fm N (N _ hl).1 (by decide) (by decide) (by simp) fun h' F' N' => h h' _ F' N'
end
theorem strOk_mk {l : List Nat} (h : ∀ x ∈ l, x < 256) : PyData.strOk (mkS l) = true := by
  unfold PyData.strOk mkS
  rw [Array.all_eq_true_iff_forall_mem]
  intro x hx
  have := h x (by simpa using hx)
  simp only [decide_eq_true_eq]; omega
theorem hx_lt (n k : Nat) : hx n k < 256 := by unfold hx; omega
theorem fld_lt (n j : Nat) : ∀ x ∈ fld n j, x < 256 := by
  intro x hx'
  simp only [fld, List.mem_cons, List.not_mem_nil, or_false] at hx'
  rcases hx' with rfl | rfl | rfl <;> exact hx_lt _ _
theorem pathL_lt (n f : Nat) : ∀ x ∈ pathL n f, x < 256 := by
  intro x hx'
  unfold pathL at hx'
  split at hx'
  · rw [List.mem_singleton.mp hx']; decide
  · obtain ⟨c, hc, hxc⟩ := List.mem_flatMap.mp hx'
    obtain ⟨i, _, rfl⟩ := List.mem_map.mp hc
    rcases List.mem_cons.mp hxc with rfl | h
    · decide
    · exact fld_lt _ _ x h
theorem pathL_ok (n f : Nat) : PyData.strOk (mkS (pathL n f)) = true := strOk_mk (pathL_lt n f)
theorem base_ok (n f : Nat) : PyData.strOk (mkS (if f = 0 then [] else fld n 0)) = true := strOk_mk (by
  intro x h
  split at h
  · cases h
  · exact fld_lt _ _ x h)
theorem all2 {a b : Str} (ha : PyData.strOk a = true) (hb : PyData.strOk b = true) : ∀ x ∈ [a, b], PyData.strOk x = true := by
  intro x hx
  rcases List.mem_cons.mp hx with rfl | hx
  · exact ha
  · rw [List.mem_singleton.mp hx]; exact hb
theorem all3 {a b c : Str} (ha : PyData.strOk a = true) (hb : PyData.strOk b = true) (hc : PyData.strOk c = true) : ∀ x ∈ [a, b, c], PyData.strOk x = true := by
  intro x hx
  rcases List.mem_cons.mp hx with rfl | hx
  · exact ha
  · exact all2 hb hc x hx
theorem nil_ok : PyData.strOk (mkS []) = true := strOk_mk (by simp)
end Mine

namespace Mine
section
variable {prog : Program} {w : World} {A : Around} {E : Value → Shared → Prop} {s : Shared} {h₀ : Heap} {L : Addr} {m : Str → Option Value} {env : Env}
/-- what an iterator must tell for a comprehension with a test to go over it -/
def SrcX (prog : Program) (w : World) (A : Around) (h₀ : Heap) (L : Addr) (m : Str → Option Value) (env : Env) (ct elt : Expr) (x : Str) (scope : Scope) (cl : List (Str × Addr)) (Fin : Shared → List Value → List (Addr × Obj) → Prop) (it : Value) (s₂ : Shared) : Prop :=
  ∃ (I : Addr) (fp : List Addr) (n : Nat) (P : Nat → Value → Prop) (St : Nat → Heap → Prop) (S : List (Addr × Obj) → Prop) (news : List (Addr × Obj)), it = .ref I ∧ Walks prog w A I fp [I] n P St ∧ n ≤ sizeLine ∧ (∀ i h, St i h → ∃ o, h.get? I = some o) ∧
    (∀ i h h' o nw, St i h → h.get? I = some o → h'.get? I = some o → (∀ b o, h₀.get? b = some o → h'.get? b = some o) → News h₀ L h' nw → S nw → St i h') ∧
    St 0 s₂.heap ∧ (∀ b ∈ fp, b < s₂.heap.objs.size) ∧ Fr h₀ L s₂.heap m ∧ News h₀ L s₂.heap news ∧ L ≠ I ∧ h₀.get? I = none ∧ (∀ p ∈ news, p.1 ≠ I) ∧ S news ∧
    LCt.CompRestT prog w A h₀ L m env ct elt x scope cl s₂ S P (Fin s₂) n 0 [] news
theorem lc_genT {ct elt iter : Expr} {x : Str} {px : Pos} {scope : Scope} {cl : List (Str × Addr)} {pos : Pos} {Q : Value → Shared → Prop} (F₀ : Fr h₀ L s.heap m)
    (hclos : closureFor scope env = pure cl) (hcell : ∀ y ∈ scope.names, y.2 ≠ .cell) (hkind : scope.kind = .function)
    (hnames : ∀ y ∈ scope.names, y.2 = .local → scope.names.lookup y.1 = some .local) (hx : scope.names.lookup x = some .local)
    (h : wpAny (model prog w) A (eval iter env) (fun xv s₁ => wpAny (model prog w) A (pyIter xv) (SrcX prog w A h₀ L m env ct elt x scope cl (fun s₂ => LCg.FinE h₀ L m s₂ Q)) E s₁) E s)
    (hs : ∀ x, foldedSetIterable iter env x = pure x := by intro _; rfl) :
    wpAny (model prog w) A (eval (.ListComp elt [⟨.Name x px, iter, [ct], 0⟩] scope pos) env) Q E s := by
  rw [eval_ListComp]
  refine wpAny_comprehension_free (use := none) rfl hs hclos hkind hnames (wpAny_mono h (fun xv s₁ h₁ => ?_) fun _ _ e => e)
  refine wpAny_mono h₁ (fun it s₂ h₂ => ?_) fun _ _ e => e
  obtain ⟨I, fp, n, P, St, S, news, rfl, W, hsz, hIo, hSt, hst, hfp, F, N, hIL, hI₀, off, hS, R⟩ := h₂
  refine LCt.block_T W hsz hIo hSt hcell hkind hx hst hfp F N hIL hI₀ off hS R ?_
  intro D C h tk m' ys news' F' N' o1 hn hC₀ hD₀ hCL hDL hCD offC fin
  refine ⟨m', hn, fun h'' hs'' => fin D h'' tk (F'.change hs'' hCL hC₀) (fun p hp => ?_) o1⟩
  refine ⟨hs''.extBut _ _ ?_ (N' p hp).1, (N' p hp).2⟩
  rcases List.mem_cons.mp hp with rfl | hp
  · exact Ne.symm hCD
  · exact offC p hp
variable {ct elt : Expr} {x : Str} {scope : Scope} {cl : List (Str × Addr)} {Fin : Shared → List Value → List (Addr × Obj) → Prop} {news : List (Addr × Obj)}
theorem srcT_range {r : Addr} {a b c : Int} {t u v : Tok} {n : Nat} (hh : A.handled = none) (hr : IsRange s.heap r a b c t u v) (hsm : Builtin.Range.small a b c = true) (hn : Builtin.Range.rangeSize a b c = ((n : Nat) : Int)) (hsz : n ≤ sizeLine) (F : Fr h₀ L s.heap m) (N : News h₀ L s.heap news)
    (R : ∀ s₂ : Shared, (∃ g, s₂ = { s with heap := g }) → LCt.CompRestT prog w A h₀ L m env ct elt x scope cl s₂ (fun _ => True) (fun i v => ∃ t, v = .int (a + (i : Int) * c) t) (Fin s₂) n 0 [] news) :
    wpAny (model prog w) A (pyIter (.ref r)) (SrcX prog w A h₀ L m env ct elt x scope cl Fin) E s := by
  refine wpAny_pyIter_range hr hsm ?_
  have up : ∀ b' o, s.heap.get? b' = some o → (s.heap.push { cls := .type "range_iterator", data := .fields #[rawInt a, rawInt (Builtin.Range.rangeSize a b c), rawInt c] }).get? b' = some o := fun b' o e => Heap.get?_push_of_some _ e
  refine ⟨_, _, _, _, _, _, news, rfl, Walks.range hh s.heap.objs.size a c n, hsz, fun i h st => ⟨_, st⟩, ?_, ?_, fun b' hb => ?_, F.keeps up, N.grown up, Nat.ne_of_lt F.ns.lt, next_is_new F, fun p hp => Nat.ne_of_lt (Heap.lt_size (N p hp).1), trivial, R _ ⟨_, rfl⟩⟩
  · intro i h h' o nw st e e' _ _ _
    have st' : h.get? _ = some _ := st
    show h'.get? _ = some _
    rw [e', ← e]; exact st'
  · show IsRangeIter _ _ _ _ _
    rw [hn]; simpa using Heap.get?_push_size _ rfl
  · rw [List.mem_singleton.mp hb]
    show s.heap.objs.size < (s.heap.push _).objs.size
    rw [Heap.size_push]; exact Nat.lt_succ_self _
theorem srcT_list {ax : Addr} {its : Array Value} (hh : A.handled = none) (hl : LCg.SrcAt h₀ ax its news) (hsz : its.size ≤ sizeLine) (F : Fr h₀ L s.heap m) (N : News h₀ L s.heap news)
    (R : ∀ s₂ : Shared, (∃ g, s₂ = { s with heap := g }) → LCt.CompRestT prog w A h₀ L m env ct elt x scope cl s₂ (LCg.SrcAt h₀ ax its) (fun i v => its[i]? = some v) (Fin s₂) its.size 0 [] news) :
    wpAny (model prog w) A (pyIter (.ref ax)) (SrcX prog w A h₀ L m env ct elt x scope cl Fin) E s := by
  have hl' := hl.list F.keep N
  have hlt : ax < s.heap.objs.size := by obtain ⟨_, e, _⟩ := hl'; exact Heap.lt_size e
  refine wpAny_pyIter_list hl' ?_
  have up : ∀ b' o, s.heap.get? b' = some o → (s.heap.push { cls := .type "list_iterator", data := .fields #[.ref ax, .int 0 0] }).get? b' = some o := fun b' o e => Heap.get?_push_of_some _ e
  refine ⟨_, _, _, _, _, _, news, rfl, Walks.list hh s.heap.objs.size ax (Nat.ne_of_lt hlt) its, hsz, fun i h st => ?_, LCg.list_st, ⟨⟨_, Heap.get?_push_size _ rfl, rfl, rfl⟩, hl'.push _⟩, fun b' hb => ?_, F.keeps up, N.grown up, Nat.ne_of_lt F.ns.lt, next_is_new F, fun p hp => Nat.ne_of_lt (Heap.lt_size (N p hp).1), hl, R _ ⟨_, rfl⟩⟩
  · obtain ⟨o, e, _⟩ := st.1; exact ⟨o, e⟩
  · show b' < (s.heap.push _).objs.size
    rw [Heap.size_push]
    rcases List.mem_cons.mp hb with rfl | hb
    · exact Nat.lt_succ_self _
    · rw [List.mem_singleton.mp hb]; exact Nat.lt_succ_of_lt hlt
variable {S : List (Addr × Obj) → Prop} {P : Nat → Value → Prop} {Fin' : List Value → List (Addr × Obj) → Prop} {n : Nat}
/-- a test told by the turn: as many items as turns that pass -/
theorem restT_count (p : Nat → Bool)
    (turn : ∀ i v I oI C oC D m₂ ys h tk (E' : Value → Shared → Prop), i < n → P i v → LCg.NsObj oC m₂ → m₂ x = some v → Fr h₀ L h m → News h₀ L h ((I, oI) :: (C, oC) :: (D, LCg.lst ys) :: news) → LCg.Off3 I C D news → ((@Ne Nat I C) ∧ (@Ne Nat I D) ∧ (@Ne Nat C D)) →
      wpAny (model prog w) A (isTrue ct (compEnvC scope cl C env) (eval ct (compEnvC scope cl C env))) (fun ok s' => ok = p i ∧ if ok = true then
        wpAny (model prog w) A (eval elt (compEnvC scope cl C env)) (LCg.CompEnd h₀ L m { s with heap := h, toks := tk } I oI C oC D (LCg.lst ys) S (fun _ news' => news' = news ∧ True)) E' s'
        else LCg.CompEnd h₀ L m { s with heap := h, toks := tk } I oI C oC D (LCg.lst ys) S (fun _ news' => news' = news ∧ True) Value.none s') E' { s with heap := h, toks := tk })
    (fin : ∀ ys : List Value, ys.length = ((List.range n).filter p).length → Fin' ys news) : LCt.CompRestT prog w A h₀ L m env ct elt x scope cl s S P Fin' n 0 [] news := by
  have key : ∀ (j i : Nat) (ys : List Value), i + j = n → ys.length = ((List.range i).filter p).length → LCt.CompRestT prog w A h₀ L m env ct elt x scope cl s S P Fin' j i ys news := by
    intro j
    induction j with
    | zero => intro i ys hi hl; exact LCt.CompRestT.zero (fin ys (by rw [hl, show i = n by omega]))
    | succ j ih =>
      intro i ys hi hl
      refine LCt.CompRestT.succ ?_
      intro v I oI C oC D m₂ h tk E' hv hC hx F N off ne
      refine wpAny_mono (turn i v I oI C oC D m₂ ys h tk E' (by omega) hv hC hx F N off ne) (fun ok s₂ hq => ?_) fun _ _ e => e
      obtain ⟨hok, hq⟩ := hq
      cases ok with
      | true =>
        simp only [if_true] at hq ⊢
        refine wpAny_mono hq (fun y s₃ hq => ?_) fun _ _ e => e
        obtain ⟨h', tk', nw, e, F', N', off', hS, hn, _⟩ := hq
        rw [hn] at N' off' hS
        refine ⟨h', tk', news, e, F', N', off', hS, ih (i + 1) _ (by omega) ?_⟩
        rw [List.range_succ, List.filter_append, List.length_append, List.length_append, hl]
        simp [← hok]
      | false =>
        simp only [Bool.false_eq_true, if_false] at hq ⊢
        obtain ⟨h', tk', nw, e, F', N', off', hS, hn, _⟩ := hq
        rw [hn] at N' off' hS
        refine ⟨h', tk', news, e, F', N', off', hS, ih (i + 1) _ (by omega) ?_⟩
        rw [List.range_succ, List.filter_append, List.length_append, hl]
        simp [← hok]
  exact key n 0 [] (by omega) rfl
end
/-- a contract that asks for objects of the caller's ledger -/
def CtN (f : Addr) (d : Nat) (pre : Prop) (need : List (Addr × Obj) → Prop) (vs : List Value) (R : Tok → Value) : Prop :=
  ∀ (prog : Program) (w : World) (mean : ExcName → Option Value) (mg mb : Str → Option Value) (news : List (Addr × Obj))
    (dp un : Nat) (gd : Option (List Code)) (cn : Str) (cs : Scope) (a : Addr) (ccd : Value) (cl : List (Str × Addr)) (outer : List Env) (A₀ : Around) (base h₀ : Heap) (L : Addr) (m : Str → Option Value) (s : Shared) (Q E : Value → Shared → Prop),
    Below A₀ base outer h₀ → Fr h₀ L s.heap m → (Mine.hd.heap_39 w.params).In h₀ → News h₀ L s.heap news → Top Mine.viewK LV mean mg mb h₀ → cs.kind = .function →
    pre → need news → dp + d < recursionLimit → un + 8 * d < cLine →
    (∀ (t : Tok) (h' : Heap) (tk' : Nat), Fr h₀ L h' m → News h₀ L h' news → Q (R t) { s with heap := h', toks := tk' }) →
    wpAny (model prog w) (ktrTop dp un gd cn cs L a ccd cl outer) (call (.ref f) vs) Q E s
theorem CtN.use {f : Addr} {d : Nat} {pre : Prop} {need : List (Addr × Obj) → Prop} {vs : List Value} {R : Tok → Value} (c : CtN f d pre need vs R)
    {prog : Program} {w : World} {mean : ExcName → Option Value} {mg mb : Str → Option Value} {news : List (Addr × Obj)}
    {dp un : Nat} {gd : Option (List Code)} {cn : Str} {cs : Scope} {a : Addr} {ccd : Value} {cl : List (Str × Addr)} {outer : List Env} {A₀ : Around} {base h₀ : Heap} {L : Addr} {m : Str → Option Value} {s : Shared} {Q E : Value → Shared → Prop}
    (B : Below A₀ base outer h₀) (F : Fr h₀ L s.heap m) (X : (Mine.hd.heap_39 w.params).In h₀) (N : News h₀ L s.heap news) (T : Top Mine.viewK LV mean mg mb h₀) (hk : cs.kind = .function)
    (hp : pre) (hn : need news) (hd : dp + d < recursionLimit) (hu : un + 8 * d < cLine)
    (hret : ∀ (t : Tok) (h' : Heap) (tk' : Nat), Fr h₀ L h' m → News h₀ L h' news → Q (R t) { s with heap := h', toks := tk' }) :
    wpAny (model prog w) (ktrTop dp un gd cn cs L a ccd cl outer) (call (.ref f) vs) Q E s :=
  c _ _ _ _ _ _ _ _ _ _ _ _ _ _ _ _ _ _ _ _ _ _ _ B F X N T hk hp hn hd hu hret
def sharedN (A B : Nat) : Nat := ((List.range 4).filter fun i => decide (A / 4096 ^ i = B / 4096 ^ i)).length
theorem shared_le (A B : Nat) : sharedN A B ≤ 4 := by
  have := List.length_filter_le (fun i => decide (A / 4096 ^ i = B / 4096 ^ i)) (List.range 4)
  rw [List.length_range] at this; exact this
section
variable {prog : Program} {w : World} {A : Around} {E : Value → Shared → Prop} {s : Shared} {h₀ : Heap} {L : Addr} {m : Str → Option Value} {news : List (Addr × Obj)} {Q : Value → Shared → Prop}
theorem len_led {D : Addr} {ys : List Value} {n : Nat} (N : News h₀ L s.heap news) (hm : (D, LCg.lst ys) ∈ news) (hn : ys.length = n) (hl : n ≤ 1000) (h : ∀ t k, Q (.int (n : Int) t) { s with toks := k }) : wpAny (model prog w) A (call (.builtin "len") [.ref D]) Q E s := by
  refine PyProof.Rows.len_list (items := ys.toArray) ⟨_, (N _ hm).1, rfl, _, rfl⟩ (by rw [List.size_toArray, hn]; omega) ?_
  rw [List.size_toArray, hn]; exact h _ _
end
end Mine

namespace Mine
theorem ints_pack {vs : List Value} {ns k : List Int} (h : IntsAre vs (List.take 4 ns ++ k)) (hk : k.length = 5) : ∃ Ls, IntsAre vs Ls ∧ 5 ≤ Ls.length ∧ Ls.length ≤ 9 :=
  ⟨_, h, by simp; omega, by simp; omega⟩
theorem rs1 {f : Int} (h0 : 0 ≤ f) : Builtin.Range.rangeSize 0 f 1 = ((f.toNat : Nat) : Int) := by
  have := rangeSize_nat 0 f
  rw [Int.sub_zero] at this; exact this
theorem sm1 {f : Int} (h0 : 0 ≤ f) (h4 : f ≤ 1000) : Builtin.Range.small 0 f 1 = true := small_one (by omega) (by omega) (by omega) (by omega)
theorem sorted_pair {ns Ms : List Int} (p : ns.Perm Ms) (o : ns.Pairwise (· ≤ ·)) (hin : ∀ x ∈ Ms, 0 ≤ x ∧ x < 2 ^ 48) {i : Nat} (hi : i + 1 < ns.length) : 0 ≤ ns.getD i 0 ∧ ns.getD i 0 ≤ ns.getD (i + 1) 0 ∧ ns.getD (i + 1) 0 < 2 ^ 48 := by
  have e0 : ns.getD i 0 = ns[i] := by simp [List.getD_eq_getElem?_getD, List.getElem?_eq_getElem (show i < ns.length by omega)]
  have e1 : ns.getD (i + 1) 0 = ns[i + 1] := by simp [List.getD_eq_getElem?_getD, List.getElem?_eq_getElem hi]
  rw [e0, e1]
  refine ⟨(hin _ (p.mem_iff.mp (List.getElem_mem _))).1, ?_, (hin _ (p.mem_iff.mp (List.getElem_mem _))).2⟩
  exact List.pairwise_iff_getElem.mp o i (i + 1) (by omega) hi (by omega)
section
variable {prog : Program} {w : World} {A : Around} {E : Value → Shared → Prop} {s : Shared} {h₀ : Heap} {L : Addr} {m : Str → Option Value} {news : List (Addr × Obj)} {Q : Value → Shared → Prop} {D : Addr} {vs : List Value} {ns : List Int} {c : Nat}
theorem len_ints {n : Nat} (N : News h₀ L s.heap news) (hm : (D, PySem.W.listOf vs.toArray c) ∈ news) (hi : IntsAre vs ns) (hn : ns.length = n) (hl : n ≤ 1000) (h : ∀ t k, Q (.int (n : Int) t) { s with toks := k }) : wpAny (model prog w) A (call (.builtin "len") [.ref D]) Q E s := by
  have e := hi.length
  refine PyProof.Rows.len_list (items := vs.toArray) ⟨_, (N _ hm).1, rfl, _, rfl⟩ (by rw [List.size_toArray]; omega) ?_
  rw [List.size_toArray, e, hn]; exact h _ _
theorem item_ints {value slice : PySem.Expr} {k : Int} {j : Nat} {u : Tok} (N : News h₀ L s.heap news) (hm : (D, PySem.W.listOf vs.toArray c) ∈ news) (hi : IntsAre vs ns) (h0 : 0 ≤ k) (hj : k.toNat = j) (hlt : j < ns.length) (hl : ns.length ≤ 1000)
    (h : ∀ t, Q (.int (ns.getD j 0) t) s)
    (hs : subscripted slice false (.ref D) (.int k u) = operate [.ref D, .int k u] (getItem (.ref D) (.int k u)) := by with_unfolding_all rfl) (hg : ∀ r, letTemporaryGo value (.ref D) r = pure () := by intro _; with_unfolding_all rfl) :
    wpAny (model prog w) A (subscriptTail value slice (.ref D) (.int k u)) Q E s := by
  have hx : ns[j]? = some (ns.getD j 0) := by simp [List.getD_eq_getElem?_getD, List.getElem?_eq_getElem hlt]
  obtain ⟨t, ht⟩ := hi.get j _ hx
  exact item_list (items := vs.toArray) ⟨_, (N _ hm).1, rfl, _, rfl⟩ h0 (by omega) (by rw [hj]; simpa using ht) (h t) hs hg
end
end Mine

namespace Mine.F
open PySem.F
theorem m_owner_map : Manifest.owners.lookup (String.ofList ['p', 'a', 'm'].reverse) = some Manifest.sig_map := by kernel_rfl
theorem m_args_map_next_1 (a : Value) : argsOk "map.__next__" ⟨[a], []⟩ := by
  unfold argsOk; rw [signature?_of (id := "map.__next__") (n := ['_', '_', 't', 'x', 'e', 'n', '_', '_']) (o := ['p', 'a', 'm']) (by kernel_rfl) m_owner_map]; kernel_rfl
theorem m_args_map_iter_1 (a : Value) : argsOk "map.__iter__" ⟨[a], []⟩ := by
  unfold argsOk; rw [signature?_of (id := "map.__iter__") (n := ['_', '_', 'r', 'e', 't', 'i', '_', '_']) (o := ['p', 'a', 'm']) (by kernel_rfl) m_owner_map]; kernel_rfl
theorem m_slot_map_init : Slot "map" "__init__" "object.__init__" :=
  .of (owner := "object") (n := "__init__") (by rw [typeLookup_type, builtinLookup_eq_fast]; kernel_rfl) (by decide +kernel) (by decide +kernel) (by decide +kernel) (by decide +kernel) (by rw [isSubtype_type]; kernel_rfl)
theorem m_slot_map_iter : Slot "map" "__iter__" "map.__iter__" :=
  .of (owner := "map") (n := "__iter__") (by rw [typeLookup_type, builtinLookup_eq_fast]; kernel_rfl) (by decide +kernel) (by decide +kernel) (by decide +kernel) (by decide +kernel) (by rw [isSubtype_type]; kernel_rfl)
theorem m_slot_map_next : Slot "map" "__next__" "map.__next__" :=
  .of (owner := "map") (n := "__next__") (by rw [typeLookup_type, builtinLookup_eq_fast]; kernel_rfl) (by decide +kernel) (by decide +kernel) (by decide +kernel) (by decide +kernel) (by rw [isSubtype_type]; kernel_rfl)
theorem m_entry_map_next : entryFor table "map.__next__" = some Builtin.«map.__next__» := entryFor_of_tree (by kernel_rfl)
theorem m_entry_map_new : entryFor table "map.__new__" = some Builtin.«map.__new__» := entryFor_of_tree (by kernel_rfl)
theorem m_mro_map : mroOf (.type "map") = pure [.type "map", .type "object"] := by rw [mroOf_type]; kernel_rfl
theorem m_lookup_map_new : typeLookup (.type "map") "__new__" = pure (some (.builtin "map.__new__")) := by rw [typeLookup_type, builtinLookup_eq_fast]; kernel_rfl
theorem m_called_map : TypeCalled "map" "map.__new__" "object.__init__" :=
  ⟨by decide +kernel, by decide +kernel, ⟨_, _, m_mro_map⟩, madeBy_type m_mro_map m_lookup_map_new (by decide +kernel), by decide +kernel, by rw [isSubtype_type]; kernel_rfl, m_slot_map_init⟩
theorem m_typeCall_map_2 (a b : Value) : checkTypeCall "map" ⟨[a, b], []⟩ = pure () := by kernel_rfl
theorem m_newCall_map_2 (a b : Value) : checkBuiltinCall "map.__new__" ⟨[.type "map", a, b], []⟩ = pure () := by kernel_rfl
theorem m_entry_map_iter : entryFor table "map.__iter__" = some Builtin.«dict_keyiterator.__iter__» :=
  entryFor_alias (id' := "dict_keyiterator.__iter__") (by kernel_rfl) (by first | rfl | decide +kernel | (unfold String.splitOn; simp +decide [String.splitOnAux])) (by decide +kernel) (by kernel_rfl)
theorem m_no_len : typeLookup (.type "map") "__len__" = pure none := by rw [typeLookup_type, builtinLookup_eq_fast]; kernel_rfl
theorem m_no_hint : typeLookup (.type "map") "__length_hint__" = pure none := by rw [typeLookup_type, builtinLookup_eq_fast]; kernel_rfl
end Mine.F
namespace Mine
theorem m_sub_map : isSubtype (.type "map") (.type "map") = pure true := by rw [isSubtype_type]; kernel_rfl
end Mine

namespace Mine
abbrev mapO (TI : Addr) (f : Value) : Obj := Obj.mk (.type "map") none (.fields #[.ref TI, f]) #[]
abbrev tupO (i : Addr) : Obj := Obj.mk (.type "tuple") none (.seq #[.ref i] 0) #[]
abbrev itO (l : Addr) (k : Nat) : Obj := Obj.mk (.type "list_iterator") none (.fields #[.ref l, .int (k : Int) 0]) #[]
abbrev lsO (vs : List Value) (k : Nat) : Obj := Obj.mk (.type "list") none (.seq vs.toArray k) #[]
abbrev tpO (vs : List Value) : Obj := Obj.mk (.type "tuple") none (.seq vs.toArray 0) #[]
theorem meets_map_new (f : Value) (l : Addr) (xs : Array Value) :
    Meets (Builtin.«map.__new__» ⟨[.type "map", f, .ref l], []⟩) (fun _ R s => s.heap.IsList l xs ∧
      R (.ok (.ret (.ref (s.heap.objs.size + 1 + 1)))) { s with heap := (((s.heap.push (itO l 0)).push (tupO s.heap.objs.size)).push (mapO (s.heap.objs.size + 1) f)) }) :=
  .of_wp fun prog w A R s h => by
    obtain ⟨hp, g, d, tk, os⟩ := s; obtain ⟨hl1, h⟩ := h
    have hsub := m_sub_map
    have hL1 : Heap.IsList (Shared.heap ⟨hp, g, d, tk, os⟩) l xs := hl1
    wp_walk using wpAny_pyIter_list hL1
    refine ⟨_, rfl, ?_⟩
    have e1 : (hp.push (itO l 0)).objs.size = hp.objs.size + 1 := Heap.size_push ..
    have e2 : ((hp.push (itO l 0)).push (tupO hp.objs.size)).objs.size = hp.objs.size + 1 + 1 := by rw [Heap.size_push, e1]
    dsimp only at h
    rw [← e2] at h
    rw [← e1] at h
    exact h
section
variable {prog : Program} {w : World} {A : Around} {E : Value → Shared → Prop} {s : Shared} {h₀ : Heap} {L : Addr} {m : Str → Option Value} {news : List (Addr × Obj)} {Q : Value → Shared → Prop}
theorem call_map {f : Value} {l : Addr} {vs : List Value} {k : Nat} (F0 : Fr h₀ L s.heap m) (N : News h₀ L s.heap news) (hl : (l, lsO vs k) ∈ news)
    (h : ∀ h' z TI i, Fr h₀ L h' m → News h₀ L h' ((z, mapO TI f) :: (TI, tupO i) :: (i, itO l 0) :: news) → (∀ p ∈ news, p.1 < i) → i < TI → TI < z → Q (.ref z) { s with heap := h' }) :
    wpAny (model prog w) A (call (.type "map") [f, .ref l]) Q E s := by
  refine callType_new F.m_called_map (by decide) (F.m_typeCall_map_2 _ _) (F.m_newCall_map_2 _ _) (fun obj => F.args_object_init_3 obj _ _) F.m_entry_map_new
    (meets_map_new f l vs.toArray) ⟨N.isList hl, ?_⟩
  have e1 : (s.heap.push (itO l 0)).objs.size = s.heap.objs.size + 1 := Heap.size_push ..
  have e2 : ((s.heap.push (itO l 0)).push (tupO s.heap.objs.size)).objs.size = s.heap.objs.size + 1 + 1 := by rw [Heap.size_push, e1]
  have N1 := News.push F0 N (itO l 0)
  have F1 := Fr.push F0 (itO l 0)
  have N2 := News.push F1 N1 (tupO s.heap.objs.size)
  have F2 := Fr.push F1 (tupO s.heap.objs.size)
  have N3 := News.push F2 N2 (mapO (s.heap.objs.size + 1) f)
  have F3 := Fr.push F2 (mapO (s.heap.objs.size + 1) f)
  rw [e2, e1] at N3
  have hz := (N3 _ List.mem_cons_self).1
  exact ⟨⟨_, hz, rfl⟩, h _ _ _ _ F3 N3 (fun p hp => Heap.lt_size (N p hp).1) (Nat.lt_succ_self _) (Nat.lt_succ_self _)⟩
end
end Mine

namespace Mine
section
variable {prog : Program} {w : World} {A : Around} {E : Value → Shared → Prop} {s : Shared} {h₀ : Heap} {L : Addr} {m : Str → Option Value} {news : List (Addr × Obj)}
/-- what the map's def must give: its argument itself -/
def Gives (prog : Program) (w : World) (A : Around) (h₀ : Heap) (L : Addr) (m : Str → Option Value) (f v : Value) : Prop :=
  ∀ (un : Nat) (s : Shared) (news : List (Addr × Obj)) (Q E : Value → Shared → Prop), un ≤ A.units + 10 → Fr h₀ L s.heap m → News h₀ L s.heap news →
    (∀ h' tk', Fr h₀ L h' m → News h₀ L h' news → Q v { s with heap := h', toks := tk' }) → wpAny (model prog w) { A with units := un } (call f [v]) Q E s
theorem get_of {h : Heap} {own : List (Addr × Obj)} {a : Addr} {o : Obj} (N : News h₀ L h own) (hm : (a, o) ∈ own) : h.get? a = some o := (N _ hm).1
theorem nextOf_it {it l : Addr} {i : Nat} {items : Array Value} {x : Value} {Q : Value → Shared → Prop} (ho : s.heap.get? it = some (itO l i))
    (hl : s.heap.IsList l items) (hx : items[i]? = some x)
    (hQ : ∀ h', h'.get? it = some (itO l (i + 1)) → Heap.SameBut it s.heap h' → Q x { s with heap := h' }) :
    wpAny (model prog w) A (Builtin.SmallTypes.nextOf (.ref it)) Q E s := by
  have hit : s.heap.IsListIter it l i := ⟨_, ho, rfl, rfl⟩
  obtain ⟨ol, hol, _, nl, hdl⟩ := hl
  unfold Builtin.SmallTypes.nextOf
  refine wpAny_bind (wpAny_callSpecial?_slot (name := Str.ofString "__next__") hit.typeIs slot_listiter_next
    (wpAny_call_entry slot_listiter_next hit.typeIs entry_listiter_next ?_ (args_listiter_next _)))
  show wpAny _ _ (field (.ref it) 0 >>= _) _ _ s
  refine wpAny_bind (wpAny_field ho rfl (x := .ref l) rfl ?_)
  show wpAny _ _ (if (Value.ref l == Value.none) = true then _ else _) _ _ s
  rw [if_neg (show ¬ ((Value.ref l == Value.none) = true) from Bool.false_ne_true)]
  show wpAny _ _ (field (.ref it) 1 >>= _) _ _ s
  refine wpAny_bind (wpAny_field ho rfl (x := .int i 0) rfl ?_)
  show wpAny _ _ (seqItems? (.ref l) >>= _) _ _ s
  refine wpAny_bind (wpAny_seqItems hol hdl ?_)
  simp only [Int.toNat_natCast, hx]
  refine wpAny_bind (wpAny_setField ho rfl (by simp) (wpAny_pure ⟨x, rfl, wpAny_pure (hQ _ ?_ (Heap.SameBut.update ..))⟩))
  exact Heap.get?_update_self _ ho rfl
theorem map_next_item {un : Nat} (hun : un + 1 ≤ A.units + 10) {f v : Value} {z TI i l S : Addr} {vs acc : List Value} {k c c' : Nat} {Q : Option Value → Shared → Prop} (F0 : Fr h₀ L s.heap m)
    (N : News h₀ L s.heap ((S, lsO acc c) :: (z, mapO TI f) :: (TI, tupO i) :: (i, itO l k) :: news)) (hl : (l, lsO vs c') ∈ news) (hv : vs.toArray[k]? = some v)
    (ho : ∀ p ∈ news, p.1 < i) (h1 : i < TI) (h2 : TI < z) (h3 : z < S) (g : Gives prog w A h₀ L m f v)
    (hQ : ∀ h' tk', Fr h₀ L h' m → News h₀ L h' ((S, lsO acc c) :: (z, mapO TI f) :: (TI, tupO i) :: (i, itO l (k + 1)) :: news) → Q (some v) { s with heap := h', toks := tk' }) :
    wpAny (model prog w) { A with units := un } (pyNext (.ref z)) Q E s := by
  have gz : s.heap.get? z = some (mapO TI f) := (N (z, mapO TI f) (by simp)).1
  have gT : s.heap.get? TI = some (tupO i) := (N (TI, tupO i) (by simp)).1
  have gi : s.heap.get? i = some (itO l k) := (N (i, itO l k) (by simp)).1
  have gl : s.heap.IsList l vs.toArray := N.isList (List.mem_cons_of_mem _ (List.mem_cons_of_mem _ (List.mem_cons_of_mem _ (List.mem_cons_of_mem _ hl))))
  have hT : s.TypeIs (.ref z) "map" := ⟨_, gz, rfl⟩
  unfold pyNext
  refine wpAny_bind (wpAny_attempt (wpAny_callSpecial?_slot (name := Str.ofString "__next__") hT F.m_slot_map_next
    (wpAny_call_entry F.m_slot_map_next hT F.m_entry_map_next ?_ (F.m_args_map_next_1 _))))
  show wpAny _ _ (field (.ref z) 0 >>= _) _ _ _
  refine wpAny_bind (wpAny_field gz rfl (x := .ref TI) rfl ?_)
  refine wpAny_bind (wpAny_seqItems gT rfl ?_)
  dsimp only
  simp only [← Array.forIn_toList, List.forIn_cons, List.forIn_nil]
  refine wpAny_bind (wpAny_bind (wpAny_bind (wpAny_holding ?_)))
  refine nextOf_it gi gl hv fun h₁ hi₁ hs₁ => ?_
  have N₁ : News h₀ L h₁ ([(S, lsO acc c), (z, mapO TI f), (TI, tupO i)] ++ (i, itO l (k + 1)) :: news) := by
    refine News.setAt (own := [(S, lsO acc c), (z, mapO TI f), (TI, tupO i)]) N ?_ (fun p hp => Nat.ne_of_lt (ho p hp)) hs₁ ?_
    · intro p hp
      simp only [List.mem_cons, List.not_mem_nil, or_false] at hp
      rcases hp with rfl | rfl | rfl
      · exact Nat.ne_of_gt (Nat.lt_trans h1 (Nat.lt_trans h2 h3))
      · exact Nat.ne_of_gt (Nat.lt_trans h1 h2)
      · exact Nat.ne_of_gt h1
    · exact hi₁
  have F₁ : Fr h₀ L h₁ m := F0.update N (List.mem_cons_of_mem _ (List.mem_cons_of_mem _ (List.mem_cons_of_mem _ List.mem_cons_self))) hs₁
  refine wpAny_pure (wpAny_pure ?_)
  have gz1 : h₁.get? z = some (mapO TI f) := (N₁ (z, mapO TI f) (by simp)).1
  refine wpAny_bind (wpAny_field gz1 rfl (x := f) rfl ?_)
  refine wpAny_bind (wpAny_holding ?_)
  refine g (un + 1) ⟨h₁, s.gens, s.drawn, s.toks, s.os⟩ _ _ _ hun F₁ N₁ fun h₂ tk₂ F₂ N₂ => ?_
  refine wpAny_bind (wpAny_letGo (wpAny_pure ⟨_, rfl, wpAny_pure (hQ h₂ tk₂ F₂ N₂)⟩))
theorem map_next_end (hh : A.handled = none) {f : Value} {z TI i l S : Addr} {vs acc : List Value} {k c c' : Nat} {Q : Option Value → Shared → Prop}
    (N : News h₀ L s.heap ((S, lsO acc c) :: (z, mapO TI f) :: (TI, tupO i) :: (i, itO l k) :: news)) (hl : (l, lsO vs c') ∈ news) (hv : vs.toArray[k]? = none)
    (hQ : ∀ h', Heap.ExtBut i s.heap h' → Q none { s with heap := h' }) :
    wpAny (model prog w) A (pyNext (.ref z)) Q E s := by
  have gz : s.heap.get? z = some (mapO TI f) := (N (z, mapO TI f) (by simp)).1
  have gT : s.heap.get? TI = some (tupO i) := (N (TI, tupO i) (by simp)).1
  have gi : s.heap.get? i = some (itO l k) := (N (i, itO l k) (by simp)).1
  have gl : s.heap.IsList l vs.toArray := N.isList (List.mem_cons_of_mem _ (List.mem_cons_of_mem _ (List.mem_cons_of_mem _ (List.mem_cons_of_mem _ hl))))
  have hT : s.TypeIs (.ref z) "map" := ⟨_, gz, rfl⟩
  unfold pyNext
  refine wpAny_bind (wpAny_attempt (wpAny_callSpecial?_slot (name := Str.ofString "__next__") hT F.m_slot_map_next
    (wpAny_call_entry F.m_slot_map_next hT F.m_entry_map_next ?_ (F.m_args_map_next_1 _))))
  show wpAny _ _ (field (.ref z) 0 >>= _) _ _ _
  refine wpAny_bind (wpAny_field gz rfl (x := .ref TI) rfl ?_)
  refine wpAny_bind (wpAny_seqItems gT rfl ?_)
  dsimp only
  simp only [← Array.forIn_toList, List.forIn_cons, List.forIn_nil]
  refine wpAny_bind (wpAny_bind (wpAny_bind (wpAny_holding ?_)))
  refine wpAny_nextOf_list_end hh ⟨_, gi, rfl, rfl⟩ gl hv fun h₁ e hk he => ?_
  obtain ⟨o, ho, hc⟩ := he
  refine wpAny_bind (wpAny_isInstance (T := "StopIteration") (b := true) ⟨o, ho, hc⟩ isSubtype_stop ?_)
  exact wpAny_pure (hQ _ hk)
theorem push_lsO (acc : List Value) (v : Value) (c : Nat) : Obj.mapSeq (·.push v) (lsO acc c) = lsO (acc ++ [v]) (c + 1) := by
  simp [Obj.mapSeq, lsO]
theorem ext_item {un : Nat} (hun : un + 2 ≤ A.units + 10) {R : Result → Shared → Prop} {f v res : Value} {z TI i l S : Addr} {vs acc : List Value} {k c c' : Nat} (F0 : Fr h₀ L s.heap m)
    (N : News h₀ L s.heap ((S, lsO acc c) :: (z, mapO TI f) :: (TI, tupO i) :: (i, itO l k) :: news)) (hl : (l, lsO vs c') ∈ news) (hv : vs.toArray[k]? = some v) (hac : acc.length ≤ 100)
    (ho : ∀ p ∈ news, p.1 < i) (h1 : i < TI) (h2 : TI < z) (h3 : z < S) (g : Gives prog w A h₀ L m f v)
    (hQ : ∀ h' tk' c2, Fr h₀ L h' m → News h₀ L h' ((S, lsO (acc ++ [v]) c2) :: (z, mapO TI f) :: (TI, tupO i) :: (i, itO l (k + 1)) :: news) →
      codeAny (model prog w) { A with units := un } (.builtin "list.extend.loop" ⟨[.ref S, .ref z, res], []⟩) R { s with heap := h', toks := tk' }) :
    codeAny (model prog w) { A with units := un } (.builtin "list.extend.loop" ⟨[.ref S, .ref z, res], []⟩) R s := by
  refine codeAny_builtin F.entry_extend_loop ?_
  rw [Around.under_plainId F.plain_extend_loop _]
  show wpAny _ _ (pyNext (.ref z) >>= _) _ _ s
  refine wpAny_bind (map_next_item (un := un + 1) hun F0 N hl hv ho h1 h2 h3 g fun h' tk' F1 N1 => ?_)
  show wpAny _ _ (updateSeq S (·.push v) >>= _) _ _ _
  have gS : h'.get? S = some (lsO acc c) := (N1 (S, lsO acc c) (by simp)).1
  refine wpAny_bind ?_
  refine wpAny_updateSeq gS rfl (wpAny_pure ⟨plainId_quiet F.plain_extend_loop _, hQ _ tk' (c + 1) (F1.update N1 List.mem_cons_self (Heap.SameBut.update ..)) (News.setHead N1 ?_ (Heap.SameBut.update ..) ?_)⟩) ?_ ?_
  · intro p hp
    simp only [List.mem_cons] at hp
    have hiS := Nat.lt_trans h1 (Nat.lt_trans h2 h3)
    rcases hp with rfl | rfl | rfl | hp
    · exact Nat.ne_of_lt h3
    · exact Nat.ne_of_lt (Nat.lt_trans h2 h3)
    · exact Nat.ne_of_lt hiS
    · exact Nat.ne_of_lt (Nat.lt_trans (ho p hp) hiS)
  · rw [Heap.get?_update_self _ gS rfl, push_lsO]
  · have := sizeLine_eq; simp; omega
  · have := sizeLine_eq; simp; omega
theorem Fr.keptE {h h' : Heap} (F0 : Fr h₀ L h m) (N : News h₀ L h news) {a : Addr} {o : Obj} (hm : (a, o) ∈ news) (hk : Heap.ExtBut a h h') : Fr h₀ L h' m := by
  obtain ⟨oL, a1, a2, hoL, a3⟩ := F0.ns
  have hd := N _ hm
  refine ⟨⟨oL, a1, a2, hk L oL (Ne.symm hd.2.1) hoL, a3⟩, fun b x e => hk b x ?_ (F0.keep b x e), F0.above⟩
  rintro rfl
  rw [hd.2.2] at e
  cases e
theorem News.dropE {h h' : Heap} {own : List (Addr × Obj)} (N : News h₀ L h own) {a : Addr} (hs : ∀ p ∈ news, p ∈ own) (ha : ∀ p ∈ news, p.1 ≠ a) (hk : Heap.ExtBut a h h') : News h₀ L h' news := fun p hp =>
  ⟨hk p.1 p.2 (ha p hp) (N p (hs p hp)).1, (N p (hs p hp)).2⟩
theorem ext_end (hh : A.handled = none) {R : Result → Shared → Prop} {f res : Value} {z TI i l S : Addr} {vs acc : List Value} {k c c' : Nat} (F0 : Fr h₀ L s.heap m)
    (N : News h₀ L s.heap ((S, lsO acc c) :: (z, mapO TI f) :: (TI, tupO i) :: (i, itO l k) :: news)) (hl : (l, lsO vs c') ∈ news) (hv : vs.toArray[k]? = none)
    (ho : ∀ p ∈ news, p.1 < i) (h1 : i < TI) (h2 : TI < z) (h3 : z < S)
    (hQ : ∀ h', Fr h₀ L h' m → News h₀ L h' ((S, lsO acc c) :: news) → R (.ok (.ret res)) { s with heap := h' }) :
    codeAny (model prog w) A (.builtin "list.extend.loop" ⟨[.ref S, .ref z, res], []⟩) R s := by
  refine codeAny_builtin F.entry_extend_loop ?_
  rw [Around.under_plainId F.plain_extend_loop _]
  show wpAny _ _ (pyNext (.ref z) >>= _) _ _ s
  refine wpAny_bind (map_next_end (A := A.in1) hh N hl hv fun h' hk => ?_)
  refine wpAny_pure (hQ h' (Fr.keptE F0 N (List.mem_cons_of_mem _ (List.mem_cons_of_mem _ (List.mem_cons_of_mem _ List.mem_cons_self))) hk) (News.dropE N ?_ ?_ hk))
  · intro p hp
    rcases List.mem_cons.mp hp with rfl | hp
    · exact List.mem_cons_self
    · exact List.mem_cons_of_mem _ (List.mem_cons_of_mem _ (List.mem_cons_of_mem _ (List.mem_cons_of_mem _ hp)))
  · intro p hp
    rcases List.mem_cons.mp hp with rfl | hp
    · exact Nat.ne_of_gt (Nat.lt_trans h1 (Nat.lt_trans h2 h3))
    · exact Nat.ne_of_lt (ho p hp)
theorem ext_map {un : Nat} (hun : un + 2 ≤ A.units + 10) (hh : A.handled = none) {R : Result → Shared → Prop} {f v1 v2 res : Value} {z TI i l S : Addr} {c c' : Nat} (F0 : Fr h₀ L s.heap m)
    (N : News h₀ L s.heap ((S, lsO [] c) :: (z, mapO TI f) :: (TI, tupO i) :: (i, itO l 0) :: news)) (hl : (l, lsO [v1, v2] c') ∈ news)
    (ho : ∀ p ∈ news, p.1 < i) (h1 : i < TI) (h2 : TI < z) (h3 : z < S) (g1 : Gives prog w A h₀ L m f v1) (g2 : Gives prog w A h₀ L m f v2)
    (hQ : ∀ h' tk' c2, Fr h₀ L h' m → News h₀ L h' ((S, lsO [v1, v2] c2) :: news) → R (.ok (.ret res)) { s with heap := h', toks := tk' }) :
    codeAny (model prog w) { A with units := un } (.builtin "list.extend.loop" ⟨[.ref S, .ref z, res], []⟩) R s :=
  ext_item hun F0 N hl rfl (by simp) ho h1 h2 h3 g1 fun ha ta ca Fa Na =>
    ext_item hun (s := ⟨ha, s.gens, s.drawn, ta, s.os⟩) Fa Na hl rfl (by simp) ho h1 h2 h3 g2 fun hb tb cb Fb Nb =>
      ext_end (A := { A with units := un }) (s := ⟨hb, s.gens, s.drawn, tb, s.os⟩) hh Fb Nb hl rfl ho h1 h2 h3 fun hc Fc Nc => hQ hc tb cb Fc Nc
theorem pyIter_map {z TI : Addr} {f : Value} {Q : Value → Shared → Prop} (gz : s.heap.get? z = some (mapO TI f)) (h : Q (.ref z) s) : wpAny (model prog w) A (pyIter (.ref z)) Q E s := by
  have hT : s.TypeIs (.ref z) "map" := ⟨_, gz, rfl⟩
  refine wpAny_pyIter_slot hT F.m_slot_map_iter (wpAny_call_entry F.m_slot_map_iter hT F.m_entry_map_iter ?_ (F.m_args_map_iter_1 _))
  show wpAny _ _ (ret (.ref z)) _ _ s
  exact wpAny_pure ⟨_, rfl, "map", _, hT, F.m_slot_map_next.lookup, h⟩
theorem collect_map {un : Nat} (hun : un + 5 ≤ A.units + 10) (hh : A.handled = none) {Q : List Value → Shared → Prop} {f v1 v2 : Value} {z TI i l : Addr} {c' : Nat} (F0 : Fr h₀ L s.heap m)
    (N : News h₀ L s.heap ((z, mapO TI f) :: (TI, tupO i) :: (i, itO l 0) :: news)) (hl : (l, lsO [v1, v2] c') ∈ news)
    (ho : ∀ p ∈ news, p.1 < i) (h1 : i < TI) (h2 : TI < z) (g1 : Gives prog w A h₀ L m f v1) (g2 : Gives prog w A h₀ L m f v2)
    (hQ : ∀ h' tk', Fr h₀ L h' m → News h₀ L h' news → Q [v1, v2] { s with heap := h', toks := tk' }) :
    wpAny (model prog w) { A with units := un } (collect (.ref z)) Q E s := by
  unfold collect
  refine wpAny_bind (wpAny_runValue (codeAny_builtin F.entry_proto_collect ?_))
  rw [Around.under_plainId F.plain_proto_collect _]
  show wpAny _ _ (newList [] >>= fun l => again (.builtin "list.__iadd__" ⟨[l, .ref z], []⟩)) _ _ s
  refine wpAny_bind (wpAny_newObj_type ?_)
  refine wpAny_pure ⟨plainId_quiet F.plain_list_iadd _, codeAny_builtin F.entry_list_iadd ?_⟩
  rw [Around.under_plainId F.plain_list_iadd _]
  have N1 : News h₀ L (s.heap.push (lsO [] 0)) ((s.heap.objs.size, lsO [] 0) :: (z, mapO TI f) :: (TI, tupO i) :: (i, itO l 0) :: news) := News.push F0 N (lsO [] 0)
  have F1 : Fr h₀ L (s.heap.push (lsO [] 0)) m := Fr.push F0 (lsO [] 0)
  have hzS : z < s.heap.objs.size := Heap.lt_size (N (z, mapO TI f) (by simp)).1
  have gz1 : (s.heap.push (lsO [] 0)).get? z = some (mapO TI f) := (N1 (z, mapO TI f) (by simp)).1
  have hT : Shared.TypeIs ⟨s.heap.push (lsO [] 0), s.gens, s.drawn, s.toks, s.os⟩ (.ref z) "map" := ⟨_, gz1, rfl⟩
  show wpAny _ _ (Builtin.List.listExtendWith (.ref s.heap.objs.size) (.ref z) (.ref s.heap.objs.size)) _ _ _
  unfold Builtin.List.listExtendWith
  refine wpAny_bind (wpAny_typeOf hT ?_)
  have e1 : Builtin.List.listSameRef (.ref s.heap.objs.size) (.ref z) = false := by simp [Builtin.List.listSameRef, Nat.ne_of_gt hzS]
  have e2 : (Value.type "map" == Value.type "list") = false := by decide
  have e3 : (Value.type "map" == Value.type "tuple") = false := by decide
  simp only [e1, e2, e3, Bool.or_false, Bool.false_eq_true, if_false]
  refine wpAny_bind (pyIter_map gz1 ?_)
  refine wpAny_bind (wpAny_holding ?_)
  unfold Builtin.List.listLengthHint
  refine wpAny_bind (wpAny_specialOf hT F.m_no_len ?_)
  show wpAny _ _ (specialOf (Value.ref z) (Str.ofString "__length_hint__") >>= _) _ _ _
  refine wpAny_bind (wpAny_specialOf hT F.m_no_hint ?_)
  refine wpAny_pure ?_
  show wpAny _ _ (rule "list.extend.makes-room" >>= fun _ => Builtin.List.listTouch (.ref s.heap.objs.size) >>= fun _ =>
    again (.builtin "list.extend.loop" ⟨[.ref s.heap.objs.size, .ref z, .ref s.heap.objs.size], []⟩)) _ _ _
  refine wpAny_bind (wpAny_rule ?_)
  refine wpAny_bind ?_
  show wpAny _ _ (updateSeq s.heap.objs.size (·.push .none) >>= fun _ => updateSeq s.heap.objs.size (·.pop)) _ _ _
  have hS₁ : (s.heap.push (lsO [] 0)).get? s.heap.objs.size = some (lsO [] 0) := (N1 _ List.mem_cons_self).1
  refine wpAny_bind (wpAny_updateSeq hS₁ rfl ?_)
  have hS₂ := Heap.get?_update_self (Obj.mapSeq (·.push Value.none)) hS₁ rfl
  refine wpAny_updateSeq hS₂ rfl ?_
  have hS₃ := Heap.get?_update_self (Obj.mapSeq (·.pop)) hS₂ rfl
  have hap : ∀ p ∈ (z, mapO TI f) :: (TI, tupO i) :: (i, itO l 0) :: news, p.1 ≠ s.heap.objs.size := fun p hp => Nat.ne_of_lt (Heap.lt_size (N p hp).1)
  have N2 := News.setHead N1 hap (Heap.SameBut.update ..) hS₂
  have F2 := F1.update N1 List.mem_cons_self (Heap.SameBut.update (s.heap.push (lsO [] 0)) s.heap.objs.size (Obj.mapSeq (·.push Value.none)))
  have N3 := News.setHead N2 hap (Heap.SameBut.update ..) hS₃
  have F3 := F2.update N2 List.mem_cons_self (Heap.SameBut.update _ s.heap.objs.size (Obj.mapSeq (·.pop)))
  refine wpAny_pure ⟨plainId_quiet F.plain_extend_loop _, ext_map (un := un) (by omega) hh F3 N3 hl ho h1 h2 hzS g1 g2 fun h' tk' c2 F4 N4 => ?_⟩
  show wpAny _ _ (load s.heap.objs.size >>= _) _ _ _
  have gS : h'.get? s.heap.objs.size = some (lsO [v1, v2] c2) := (N4 _ List.mem_cons_self).1
  refine wpAny_bind (wpAny_load gS ?_)
  exact wpAny_pure (hQ h' tk' F4 fun p hp => N4 p (List.mem_cons_of_mem _ hp))
theorem tuple_map {Q : Value → Shared → Prop} {f : Value} {l z TI i : Addr} {v1 v2 : Value} {k : Nat} (hh : A.handled = none) (F0 : Fr h₀ L s.heap m) (N : News h₀ L s.heap ((z, mapO TI f) :: (TI, tupO i) :: (i, itO l 0) :: news)) (hl : (l, lsO [v1, v2] k) ∈ news)
    (ho : ∀ p ∈ news, p.1 < i) (h1 : i < TI) (h2 : TI < z)
    (g1 : Gives prog w A h₀ L m f v1) (g2 : Gives prog w A h₀ L m f v2)
    (h : ∀ h' tk' T, Fr h₀ L h' m → News h₀ L h' ((T, tpO [v1, v2]) :: news) → (∀ p ∈ news, p.1 < T) → Q (.ref T) { s with heap := h', toks := tk' }) :
    wpAny (model prog w) A (call (.type "tuple") [.ref z]) Q E s := by
  refine callType_codes (Q₁ := fun obj s₁ => s₁.TypeIs obj "tuple" ∧ Q obj s₁) F.called_tuple (F.typeCall_tuple_1 _) F.entry_object_init ?_ fun obj s₁ h₁ => ?_
  · refine codeAny_of_tree ?_
    show wpAny _ _ (do checkBuiltinCall "tuple.__new__" ⟨[.type "tuple", .ref z], []⟩; again (.builtin "tuple.__new__" ⟨[.type "tuple", .ref z], []⟩)) _ _ s
    refine wpAny_bind (wpAny_of_eq (F.newCall_tuple_1 _) (wpAny_pure ⟨plainId_quiet F.plain_tuple_new _, codeAny_builtin F.entry_tuple_new ?_⟩))
    rw [Around.under_plainId F.plain_tuple_new _]
    have hsub := sub_tuple_self
    have hinit := init_tuple_lookup
    have hmh := madeHere_tuple
    have gz : s.heap.get? z = some (mapO TI f) := (N (z, mapO TI f) (by simp)).1
    have hTI : s.TypeIs (.ref z) "map" := ⟨_, gz, rfl⟩
    have C : ∀ (Q : List Value → Shared → Prop) (E : Value → Shared → Prop), (∀ h' tk', Fr h₀ L h' m → News h₀ L h' news → Q [v1, v2] { s with heap := h', toks := tk' }) → wpAny (model prog w) A.in1.in1 (collect (.ref z)) Q E s :=
      fun Q E hq => collect_map (A := A) (un := A.units + 1 + 1) (by omega) hh F0 N hl ho h1 h2 g1 g2 hq
    wp_walk using wpAny_typeOf hTI, C
    intro h' tk' F1 N1
    show wpAny _ _ (Builtin.Tuple.tupleExact #[v1, v2] >>= fun v => ret v) _ _ _
    unfold Builtin.Tuple.tupleExact
    refine wpAny_bind (wpAny_newObj_type ?_)
    have N2 := News.push F1 N1 (tpO [v1, v2])
    have F2 := Fr.push F1 (tpO [v1, v2])
    exact wpAny_pure ⟨⟨_, (N2 _ List.mem_cons_self).1, rfl⟩, h _ tk' _ F2 N2 fun p hp => Heap.lt_size (N1 p hp).1⟩
  · exact ⟨h₁.1, F.args_object_init_2 obj _, object_init_meets F.called_tuple.init.lookup F.called_tuple.made (by decide) prog w A.in1 _ s₁ ⟨h₁.1, rfl, h₁.2⟩⟩
end
end Mine

namespace Mine.F
open PySem.F
theorem m_args_bool_hash (a : Value) : argsOk "int.__hash__" ⟨[a], []⟩ := args_int_hash a
end Mine.F
namespace Mine
abbrev stT1 (led : Bool) : SetTable := ⟨7, #[1], #[], 0, led, 0, true⟩
abbrev stO0 (led : Bool) : Obj := Obj.mk (.type "set") none (.set #[] 0 (.fresh 0 0 led)) #[]
abbrev stO1 (led : Bool) : Obj := Obj.mk (.type "set") none (.set #[(1, .bool true)] 1 (stT1 led)) #[]
theorem lay_true (led : Bool) : layNew (.fresh 0 0 led) #[] 1 (.bool true) = (#[(1, .bool true)], stT1 led, false, false) := by
  cases led <;> decide +kernel
section
variable {prog : Program} {w : World} {A : Around} {E : Value → Shared → Prop} {s : Shared}
theorem pyHash_true {Q : Int → Shared → Prop} (h : Q 1 { s with toks := s.toks + 1 }) : wpAny (model prog w) A (pyHash (.bool true)) Q E s := by
  have hT : s.TypeIs (.bool true) "bool" := rfl
  unfold pyHash pyHashByItsType
  have hv : [Value.bool true].any Value.onHeap = false := rfl
  refine wpAny_bind ?_
  rw [cRoomFor, if_neg (by rw [hv]; exact Bool.false_ne_true)]; refine wpAny_pure ?_
  refine wpAny_bind (wpAny_specialOf hT F.slot_bool_hash.lookup ?_)
  show wpAny _ _ (if (some (Value.builtin "int.__hash__") == some Value.none) = true then _ else _) Q E s
  rw [if_neg (by rw [beq_builtin_none]; exact Bool.false_ne_true)]
  refine wpAny_bind (wpAny_specialOf hT F.slot_bool_hash.lookup ?_)
  show wpAny _ _ (callSpecialIfBoundUnlessNone? (.bool true) "__hash__" _ >>= _) Q E s
  refine wpAny_bind (wpAny_callSpecialIfBoundUnlessNone?_slot hT F.slot_bool_hash
    (wpAny_call_entry F.slot_bool_hash hT entry_int_hash
      (show wpAny _ _ (do ret (← mkInt 1)) _ _ s from wpAny_ret_mkInt ?_) (args_int_hash _)))
  show wpAny _ _ (if (decide (-(2 : Int) ^ 63 ≤ 1) && decide ((1 : Int) < 2 ^ 63)) = true then _ else _) Q E _
  rw [if_pos (by decide)]
  exact wpAny_pure h
theorem add_first {a : Addr} {led : Bool} {Q : Value → Shared → Prop} (ho : s.heap.get? a = some (stO0 led))
    (h : ∀ h', Heap.SameBut a s.heap h' → h'.get? a = some (stO1 led) → Q .none { s with heap := h', toks := s.toks + 1 }) :
    wpAny (model prog w) A (call (.builtin "set.add") [.ref a, .bool true]) Q E s := by
  have hT : s.TypeIs (.ref a) "set" := ⟨_, ho, rfl⟩
  refine wpAny_call_entry F.slot_set_add hT F.entry_set_add ?_ (F.args_set_add_2 _ _)
  unfold Builtin.«set.add» Builtin.Frozenset.oneOther
  simp only [List.isEmpty_nil, bind_assoc]
  unfold Builtin.Frozenset.addrOf setAdd
  refine wpAny_bind (wpAny_pure ?_)
  try dsimp only
  refine wpAny_bind (wpAny_pure ?_)
  try dsimp only
  refine wpAny_bind ?_
  refine wpAny_holding ?_
  refine wpAny_bind (pyHash_true ?_)
  unfold setAddHashed setAddHashedIn
  refine wpAny_holding (wpAny_bind (wpAny_setState_of (s := { s with toks := s.toks + 1 }) ho rfl (by cases led <;> rfl) ?_))
  dsimp only
  have hb : byScan (.bool true) #[] = true := by simp [byScan, Value.scannable, scanBound]
  rw [hb]
  simp only [↓reduceIte]
  unfold setAddByScan
  refine wpAny_bind ?_
  refine wpAny_bind (wpAny_rule ?_)
  refine wpAny_bind (m := setScan _ _ _ _ _) (wpAny_pure ?_)
  rw [lay_true]
  dsimp only
  refine wpAny_bind ?_
  refine wpAny_pure ?_
  have hp : (stT1 led).plain = true := rfl
  rw [if_pos hp]
  refine wpAny_bind ?_
  rw [hashByValue_scannable 8 (x := .bool true) rfl]
  refine wpAny_pure ?_
  have hk : plainKind (Value.bool true) = true := rfl
  simp only [hk, if_true]
  refine wpAny_bind (wpAny_storeSet_of (s := { s with toks := s.toks + 1 }) ho rfl ?_ (by have := sizeLine_eq; simp; omega))
  have hf : (stT1 led).tooFull = false := by cases led <;> decide
  simp only [hf, Bool.and_false, Bool.false_eq_true, if_false]
  refine wpAny_pure ?_
  dsimp only
  refine wpAny_pure ?_
  refine wpAny_pure ⟨_, rfl, h _ (Heap.SameBut.update ..) (Heap.get?_update_self _ ho rfl)⟩
theorem add_again {a : Addr} {led : Bool} {Q : Value → Shared → Prop} (ho : s.heap.get? a = some (stO1 led))
    (h : Q .none { s with toks := s.toks + 1 }) :
    wpAny (model prog w) A (call (.builtin "set.add") [.ref a, .bool true]) Q E s := by
  have hT : s.TypeIs (.ref a) "set" := ⟨_, ho, rfl⟩
  refine wpAny_call_entry F.slot_set_add hT F.entry_set_add ?_ (F.args_set_add_2 _ _)
  unfold Builtin.«set.add» Builtin.Frozenset.oneOther
  simp only [List.isEmpty_nil, bind_assoc]
  unfold Builtin.Frozenset.addrOf setAdd
  refine wpAny_bind (wpAny_pure ?_)
  try dsimp only
  refine wpAny_bind (wpAny_pure ?_)
  try dsimp only
  refine wpAny_bind ?_
  refine wpAny_holding ?_
  refine wpAny_bind (pyHash_true ?_)
  unfold setAddHashed setAddHashedIn
  have hf : (stT1 led).fits 1 = true := by cases led <;> rfl
  refine wpAny_holding (wpAny_bind (wpAny_setState_of (s := { s with toks := s.toks + 1 }) ho rfl hf ?_))
  dsimp only
  have hb : byScan (.bool true) #[(1, .bool true)] = true := by simp [byScan, Value.scannable, scanBound]
  rw [hb]
  simp only [↓reduceIte]
  unfold setAddByScan
  refine wpAny_bind ?_
  refine wpAny_bind (wpAny_rule ?_)
  refine wpAny_bind (m := setScan _ _ _ _ _) ?_
  show wpAny _ _ (setScanFrom a (.bool true) 1 true [(1, .bool true)] 0) _ _ _
  unfold setScanFrom
  rw [if_pos (by decide)]
  refine wpAny_bind (wpAny_setEpoch_of (s := { s with toks := s.toks + 1 }) ho rfl hf ?_)
  refine wpAny_bind ?_
  unfold PySem.eqBool
  refine wpAny_holding ?_
  show wpAny _ _ (if (Value.bool true == Value.bool true) = true then _ else _) _ _ _
  rw [if_pos (by decide)]
  refine wpAny_bind (wpAny_rule (wpAny_pure ?_))
  simp only [Bool.and_self, if_true]
  refine wpAny_pure ?_
  dsimp only
  refine wpAny_pure ?_
  dsimp only
  refine wpAny_pure ?_
  refine wpAny_pure ⟨_, rfl, h⟩
end
end Mine

namespace Mine.F
open PySem.F
theorem m_entry_set_iter : entryFor table "set.__iter__" = some Builtin.«frozenset.__iter__» :=
  entryFor_alias (id' := "frozenset.__iter__") (by kernel_rfl) (by first | rfl | decide +kernel | (unfold String.splitOn; simp +decide [String.splitOnAux])) (by decide +kernel) (by kernel_rfl)
theorem m_owner_seti : Manifest.owners.lookup (String.ofList ['r','o','t','a','r','e','t','i','_','t','e','s'].reverse) = some Manifest.sig_set_iterator := by kernel_rfl
theorem m_args_seti_next (a : Value) : argsOk "set_iterator.__next__" ⟨[a], []⟩ := by
  unfold argsOk; rw [signature?_of (id := "set_iterator.__next__") (n := ['_', '_', 't', 'x', 'e', 'n', '_', '_']) (o := ['r','o','t','a','r','e','t','i','_','t','e','s']) (by kernel_rfl) m_owner_seti]; kernel_rfl
theorem m_slot_seti_next : Slot "set_iterator" "__next__" "set_iterator.__next__" :=
  .of (owner := "set_iterator") (n := "__next__") (by rw [typeLookup_type, builtinLookup_eq_fast]; kernel_rfl) (by decide +kernel) (by decide +kernel) (by decide +kernel) (by first | exact .inl (by decide +kernel) | exact .inr (by decide +kernel)) (by rw [isSubtype_type]; kernel_rfl)
theorem m_entry_seti_next : entryFor table "set_iterator.__next__" = some Builtin.«set_iterator.__next__» := entryFor_of_tree (by kernel_rfl)
end Mine.F
namespace Mine
def byT (w : World) : Bool := w.params.followText "set-order"
def ledW (w : World) : Bool := !byT w
abbrev siO (first : Int) (i : Int) (S : Value) : Obj := Obj.mk (.type "set_iterator") none (.fields #[rawInt first, rawInt i, S, rawInt 1, rawInt 1]) #[]
section
variable {prog : Program} {w : World} {A : Around} {E : Value → Shared → Prop} {s : Shared}
theorem byText_ {Q : Bool → Shared → Prop} (h : Q (byT w) s) : wpAny (model prog w) A setsByText Q E s := by
  unfold setsByText
  exact wpAny_bind (wpAny_askSetting (wpAny_pure h))
theorem newSet_ {Q : Value → Shared → Prop} (h : Q (.ref s.heap.objs.size) { s with heap := s.heap.push (stO0 (ledW w)) }) : wpAny (model prog w) A (newSet (.type "set")) Q E s := by
  unfold newSet
  refine wpAny_bind (byText_ ?_)
  dsimp only
  simp only [newObj]
  exact wpAny_bind (wpAny_alloc (wpAny_pure h))
theorem st1_fits (led : Bool) : (stT1 led).fits 1 = true := by cases led <;> rfl
theorem drawn_ {a : Addr} {led : Bool} {Q : Bool → Shared → Prop} (ho : s.heap.get? a = some (stO1 led)) (h : Q false s) : wpAny (model prog w) A (setDrawn a) Q E s := by
  unfold setDrawn
  refine wpAny_bind (wpAny_setState_of ho rfl (st1_fits led) ?_)
  refine wpAny_bind (byText_ ?_)
  refine wpAny_pure ?_
  cases byT w <;> exact h
theorem iter_set {a : Addr} {led : Bool} {Q : Value → Shared → Prop} (ho : s.heap.get? a = some (stO1 led)) (h : Q (.ref s.heap.objs.size) { s with heap := s.heap.push (siO 0 0 (.ref a)) }) :
    wpAny (model prog w) A (pyIter (.ref a)) Q E s := by
  have hT : s.TypeIs (.ref a) "set" := ⟨_, ho, rfl⟩
  refine wpAny_pyIter_slot hT F.slot_set_iter (wpAny_call_entry F.slot_set_iter hT F.m_entry_set_iter ?_ (F.args_set_iter_1 _))
  unfold Builtin.«frozenset.__iter__»
  show wpAny _ _ (Builtin.Frozenset.sizeOf a >>= _) _ _ _
  unfold Builtin.Frozenset.sizeOf
  refine wpAny_bind (wpAny_bind (wpAny_setEntries_of ho rfl (st1_fits led) (wpAny_pure ?_)))
  refine wpAny_bind (drawn_ ho ?_)
  dsimp only
  simp only [Bool.false_eq_true, if_false]
  refine wpAny_bind (wpAny_pure ?_)
  refine wpAny_bind (wpAny_setEpoch_of ho rfl (st1_fits led) ?_)
  simp only [newFields]
  refine wpAny_bind (wpAny_newObj_type ?_)
  refine wpAny_pure ⟨_, rfl, "set_iterator", _, ⟨_, Heap.get?_push_size _ rfl, rfl⟩, F.m_slot_seti_next.lookup, h⟩
theorem walk_ {a : Addr} {led : Bool} {Q : Array (Int × Value) → Shared → Prop} (ho : s.heap.get? a = some (stO1 led)) (hb : byT w = true) (h : Q #[(1, .bool true)] s) : wpAny (model prog w) A (setWalk a) Q E s := by
  unfold setWalk
  refine wpAny_bind (wpAny_setState_of ho rfl (st1_fits led) ?_)
  dsimp only
  refine wpAny_bind (byText_ ?_)
  rw [hb]
  simp only [if_true]
  refine wpAny_bind (wpAny_askSetting (wpAny_pure ?_))
  have e : ∀ f : Nat → Nat, pickOrder f (#[(1, Value.bool true)] : Array (Int × Value)) = #[(1, .bool true)] := by
    intro f
    simp [pickOrder, pickOrder.go, Nat.mod_one]
  rw [e]
  exact h
theorem next_item {a : Addr} {Q : Option (Value × Nat) → Shared → Prop} (ho : s.heap.get? a = some (stO1 (ledW w)))
    (h : ∀ n : Nat, (byT w = false → n = 2) → Q (some (.bool true, n)) s) : wpAny (model prog w) A (setNext a 0 0 1) Q E s := by
  unfold setNext
  refine wpAny_bind (wpAny_setState_of ho rfl (st1_fits _) ?_)
  dsimp only
  refine wpAny_bind (byText_ ?_)
  cases hb : byT w with
  | true =>
    simp only [if_true]
    refine wpAny_bind (walk_ ho hb (wpAny_pure ?_))
    exact h 0 (fun e => by rw [hb] at e; cases e)
  | false =>
    have hl : ledW w = true := by simp [ledW, hb]
    rw [hl]
    simp only [Bool.false_eq_true, if_false]
    show wpAny _ _ (pure (some (Value.bool true, 2))) Q E s
    exact wpAny_pure (h 2 fun _ => rfl)
theorem next_none {a : Addr} {n : Nat} (hn : byT w = false → n = 2) {Q : Option (Value × Nat) → Shared → Prop} (ho : s.heap.get? a = some (stO1 (ledW w)))
    (h : Q none s) : wpAny (model prog w) A (setNext a n 1 1) Q E s := by
  unfold setNext
  refine wpAny_bind (wpAny_setState_of ho rfl (st1_fits _) ?_)
  dsimp only
  refine wpAny_bind (byText_ ?_)
  cases hb : byT w with
  | true =>
    simp only [if_true]
    refine wpAny_bind (walk_ ho hb (wpAny_pure ?_))
    exact h
  | false =>
    have hl : ledW w = true := by simp [ledW, hb]
    rw [hl, hn hb]
    simp only [Bool.false_eq_true, if_false]
    show wpAny _ _ (pure none) Q E s
    exact wpAny_pure h
theorem pyNext_item {I a : Addr} {Q : Option Value → Shared → Prop} (hi : s.heap.get? I = some (siO 0 0 (.ref a))) (ho : s.heap.get? a = some (stO1 (ledW w))) (hne : a ≠ I)
    (h : ∀ h' n, (byT w = false → n = 2) → h'.get? I = some (siO ((n : Nat) : Int) 1 (.ref a)) → Heap.SameBut I s.heap h' → Q (some (.bool true)) { s with heap := h' }) :
    wpAny (model prog w) A (pyNext (.ref I)) Q E s := by
  have hT : s.TypeIs (.ref I) "set_iterator" := ⟨_, hi, rfl⟩
  unfold pyNext
  refine wpAny_bind (wpAny_attempt (wpAny_callSpecial?_slot (name := Str.ofString "__next__") hT F.m_slot_seti_next
    (wpAny_call_entry F.m_slot_seti_next hT F.m_entry_seti_next ?_ (F.m_args_seti_next _))))
  show wpAny _ _ (fieldsOf (.ref I) >>= _) _ _ _
  refine wpAny_bind (wpAny_fieldsOf hi rfl ?_)
  dsimp only [rawInt]
  refine wpAny_bind (wpAny_setEntries_of ho rfl (st1_fits _) ?_)
  rw [if_neg (by decide)]
  show wpAny _ _ (setNext a 0 0 1 >>= _) _ _ _
  refine wpAny_bind (next_item ho fun n hn => ?_)
  dsimp only
  refine wpAny_bind (wpAny_setField_rec hi (by simp) fun h₁ hi₁ hs₁ => ?_)
  refine wpAny_bind (wpAny_setField_rec hi₁ (by simp) fun h₂ hi₂ hs₂ => ?_)
  exact wpAny_pure ⟨_, rfl, wpAny_pure (h h₂ n hn hi₂ (hs₁.trans hs₂))⟩
theorem pyNext_end {I a : Addr} {n : Nat} {Q : Option Value → Shared → Prop} (hh : A.handled = none) (hn : byT w = false → n = 2) (hi : s.heap.get? I = some (siO ((n : Nat) : Int) 1 (.ref a))) (ho : s.heap.get? a = some (stO1 (ledW w)))
    (h : ∀ h', Heap.ExtBut I s.heap h' → Q none { s with heap := h' }) :
    wpAny (model prog w) A (pyNext (.ref I)) Q E s := by
  have hT : s.TypeIs (.ref I) "set_iterator" := ⟨_, hi, rfl⟩
  unfold pyNext
  refine wpAny_bind (wpAny_attempt (wpAny_callSpecial?_slot (name := Str.ofString "__next__") hT F.m_slot_seti_next
    (wpAny_call_entry F.m_slot_seti_next hT F.m_entry_seti_next ?_ (F.m_args_seti_next _))))
  show wpAny _ _ (fieldsOf (.ref I) >>= _) _ _ _
  refine wpAny_bind (wpAny_fieldsOf hi rfl ?_)
  dsimp only [rawInt]
  refine wpAny_bind (wpAny_setEntries_of ho rfl (st1_fits _) ?_)
  rw [if_neg (by decide)]
  show wpAny _ _ (setNext a n 1 1 >>= _) _ _ _
  refine wpAny_bind (next_none hn ho ?_)
  dsimp only
  refine wpAny_bind (wpAny_setField_rec hi (by simp) fun h₁ hi₁ hs₁ => ?_)
  show wpAny _ _ (newExc (.type "StopIteration") [] >>= _) _ _ _
  refine wpAny_bind ?_
  simp only [newExc, newTuple]
  refine wpAny_bind (wpAny_newObj_type ?_ (by size_fits))
  refine wpAny_bind (m := firstArgMember _ _) (wpAny_of_eq (a := Value.none) (by first | rfl | (simp only [firstArgMember]; rfl)) ?_)
  refine wpAny_newObj_type ?_ (by size_fits)
  simp only [raiseNew]
  refine wpAny_bind (wpAny_handled ?_)
  first | rw [show A.in1.handled = none from hh] | rw [hh]
  refine wpAny_bind (wpAny_pure (wpAny_throw ?_))
  refine wpAny_bind (wpAny_isInstance (T := "StopIteration") (b := true) ⟨_, Heap.get?_push_size _ rfl, rfl⟩ isSubtype_stop ?_)
  exact wpAny_pure (h _ ((hs₁.extBut.push _).push _))
theorem unpackItems_set {a : Addr} {Q : List Value → Shared → Prop} (hh : A.handled = none) (ho : s.heap.get? a = some (stO1 (ledW w)))
    (hQ : ∀ h', Heap.ExtBut s.heap.objs.size s.heap h' → Q [.bool true] { s with heap := h' }) : wpAny (model prog w) A (unpackItems (.ref a) 1 none) Q E s := by
  have hlt : a ≠ s.heap.objs.size := Nat.ne_of_lt (Heap.lt_size ho)
  have hT : s.TypeIs (.ref a) "set" := ⟨_, ho, rfl⟩
  unfold unpackItems
  refine wpAny_bind ?_
  unfold notIterableAtAll
  refine wpAny_bind (wpAny_specialOf hT F.slot_set_iter.lookup ?_)
  refine wpAny_pure ?_
  simp only [Bool.false_eq_true, if_false]
  refine wpAny_bind (wpAny_holding (iter_set ho ?_))
  have ho1 : (s.heap.push (siO 0 0 (.ref a))).get? a = some (stO1 (ledW w)) := Heap.get?_push_of_some _ ho
  refine wpAny_bind (wpAny_holding ?_)
  simp only [draw]
  refine wpAny_bind (pyNext_item (Heap.get?_push_size _ rfl) ho1 hlt fun h₁ n hn hi₁ hs₁ => ?_)
  refine wpAny_bind (wpAny_holding (wpAny_pure (wpAny_pure ?_)))
  rw [if_neg (by simp)]
  refine wpAny_bind (wpAny_holding (pyNext_end hh hn hi₁ ((hs₁.2 _ hlt).trans ho1) fun h₂ he₂ => ?_))
  simp only [Option.isSome_none, Bool.false_eq_true, if_false]
  exact wpAny_pure (hQ h₂ fun b o hb e => he₂ b o hb (hs₁.extBut b o hb (Heap.get?_push_of_some _ e)))
end
end Mine

namespace Mine
theorem compTurn_set (elt target iter : Expr) (scope : Scope) (pos : Pos) (it acc : Value) (env : Env) :
    compTurn (.SetComp elt [⟨target, iter, [], 0⟩] scope pos) 0 it acc env = (do
      standAt iter.pos
      match ← pyNext it with
      | none => pure (.done .next)
      | some v =>
        letOwnedTupleGo target it v
        assign target env v
        let mut ok := true
        for c in ([] : List Expr) do
          if ok then ok ← isTrue c env (eval c env)
        if ok then
          (do let v ← eval elt env; standAt elt.pos; let _ ← call (.builtin "set.add") [acc, v])
        again (.compLoop (.SetComp elt [⟨target, iter, [], 0⟩] scope pos) 0 it acc env)) := by rfl
section
variable {prog : Program} {w : World} {A : Around} {E : Value → Shared → Prop} {R : Result → Shared → Prop} {s : Shared}
theorem compStart_set {elt target iter ifs rest scope pos it acc env}
    (h0 : codeAny (model prog w) A (.compLoop (.SetComp elt (⟨target, iter, ifs, 0⟩ :: rest) scope pos) 0 it acc env) R s)
    (h : wpAny (model prog w) A (pyIter it) (fun it' s' => codeAny (model prog w) A (.compLoop (.SetComp elt (⟨target, iter, ifs, 0⟩ :: rest) scope pos) 0 it' acc env) R s')
      (notedBy (model prog w) A env fun x s' => R (.error x) s') s) :
    codeAny (model prog w) A (.compStart (.SetComp elt (⟨target, iter, ifs, 0⟩ :: rest) scope pos) 0 it acc env) R s := by
  refine codeAny_of_tree ?_
  show wpAny _ _ ((compStart (.SetComp elt (⟨target, iter, ifs, 0⟩ :: rest) scope pos) 0 it acc env).onRaise (fun x => do noteFrame x env; standAt theWindowsPlace)) _ _ s
  refine wpAny_notedAt ?_
  unfold compStart
  show wpAny _ _ (ask >>= _) _ _ s
  refine wpAny_bind (wpAny_askSetting (wpAny_ite ?_))
  split
  · first
      | exact wpAny_bind (wpAny_pure (wpAny_pure (And.intro rfl h0)))
      | exact wpAny_pure (And.intro rfl h0)
  · first
      | exact wpAny_bind (wpAny_rule (wpAny_bind (wpAny_standAt (wpAny_bind (wpAny_mono h (fun it' s' h' => wpAny_pure (And.intro rfl h')) fun _ _ x => x)))))
      | (refine wpAny_bind (wpAny_rule ?_); show wpAny _ _ (standAt iter.pos >>= _) _ _ s; exact wpAny_bind (wpAny_standAt (wpAny_bind (wpAny_mono h (fun it' s' h' => wpAny_pure (And.intro rfl h')) fun _ _ x => x))))
theorem compLoop_set {elt target iter : Expr} {scope : Scope} {pos : Pos} {it acc : Value} {env : Env}
    (h : wpAny (model prog w) A (pyNext it) (fun r s₁ => match r with
      | none => R (.ok .next) s₁
      | some v => wpAny (model prog w) A (assign target env v) (fun _ s₂ =>
          wpAny (model prog w) A (eval elt env) (fun x s₄ =>
              wpAny (model prog w) A (call (.builtin "set.add") [acc, x]) (fun _ s₅ => codeAny (model prog w) A (.compLoop (.SetComp elt [⟨target, iter, [], 0⟩] scope pos) 0 it acc env) R s₅)
                (notedBy (model prog w) A env fun e s' => R (.error e) s') s₄) (notedBy (model prog w) A env fun e s' => R (.error e) s') s₂) (notedBy (model prog w) A env fun e s' => R (.error e) s') s₁) (notedBy (model prog w) A env fun e s' => R (.error e) s') s)
    (ht : ∀ v, letOwnedTupleGo target it v = pure () := by intro _; rfl) :
    codeAny (model prog w) A (.compLoop (.SetComp elt [⟨target, iter, [], 0⟩] scope pos) 0 it acc env) R s := by
  refine codeAny_of_tree ?_
  show wpAny _ _ ((compTurn (.SetComp elt [⟨target, iter, [], 0⟩] scope pos) 0 it acc env).onRaise (fun x => do noteFrame x env; theTreesLotGoes x)) _ _ s
  refine wpAny_noted ?_
  rw [compTurn_set]
  refine wpAny_bind (wpAny_standAt (wpAny_bind (wpAny_mono h (fun r s₁ h₁ => ?_) fun _ _ h' => h')))
  cases r with
  | none => exact wpAny_pure h₁
  | some v =>
    refine wpAny_bind (wpAny_of_eq (ht v) ?_)
    refine wpAny_bind (wpAny_mono h₁ (fun _ s₂ h₂ => ?_) fun _ _ h' => h')
    refine wpAny_bind (wpAny_pure ?_)
    simp only [if_true]
    exact wpAny_bind (wpAny_bind (wpAny_mono h₂ (fun x s₄ h₄ => wpAny_bind (wpAny_standAt (wpAny_bind (wpAny_mono h₄ (fun _ s₅ h₅ => wpAny_pure (wpAny_pure ⟨rfl, h₅⟩)) fun _ _ h' => h')))) fun _ _ h' => h'))
end
end Mine

namespace Mine
section
variable {prog : Program} {w : World} {A : Around} {E : Value → Shared → Prop} {s : Shared} {h₀ : Heap} {L : Addr} {m : Str → Option Value} {env : Env}
/-- one turn of a set comprehension: the element is True, the ledger stays -/
def ScTurn (prog : Program) (w : World) (A : Around) (h₀ : Heap) (L : Addr) (m : Str → Option Value) (env : Env) (elt : Expr) (x : Str) (scope : Scope) (cl : List (Str × Addr)) (s : Shared) (news : List (Addr × Obj)) (v : Value) (oD : Obj) : Prop :=
  ∀ I oI C oC D m₂ h tk (E' : Value → Shared → Prop), LCg.NsObj oC m₂ → m₂ x = some v → Fr h₀ L h m → News h₀ L h ((I, oI) :: (C, oC) :: (D, oD) :: news) → LCg.Off3 I C D news → ((@Ne Nat I C) ∧ (@Ne Nat I D) ∧ (@Ne Nat C D)) →
      wpAny (model prog w) A (eval elt (compEnvC scope cl C env)) (LCg.CompEnd h₀ L m { s with heap := h, toks := tk } I oI C oC D oD (fun nw => nw = news) (fun y _ => y = .bool true)) E' { s with heap := h, toks := tk }
theorem sc_turn {elt iter : Expr} {x : Str} {px : Pos} {scope : Scope} {cl : List (Str × Addr)} {pos : Pos} {I C D T : Addr} {oD : Obj} {its : Array Value} {k : Nat} {v : Value} {m' : Str → Option Value} {news : List (Addr × Obj)} {R : Result → Shared → Prop}
    (hkind : scope.kind = .function) (hx : scope.names.lookup x = some .local) (ne : ((@Ne Nat I C) ∧ (@Ne Nat I D) ∧ (@Ne Nat C D)))
    (F : Fr h₀ L s.heap m) (N : News h₀ L s.heap ((D, oD) :: news)) (off : LCg.Off3 I C D news) (hC : s.heap.Ns C m') (hCL : C ≠ L) (hC₀ : h₀.get? C = none) (hIL : L ≠ I) (hI₀ : h₀.get? I = none)
    (hit : s.heap.IsTupleIter I T k) (hT : s.heap.IsTuple T its) (hv : its[k]? = some v)
    (t : ScTurn prog w A h₀ L m env elt x scope cl s news v oD)
    (h : ∀ h₄ tk₄ m₄, Fr h₀ L h₄ m → News h₀ L h₄ ((D, oD) :: news) → h₄.Ns C m₄ → h₄.IsTupleIter I T (k + 1) →
       wpAny (model prog w) A (call (.builtin "set.add") [.ref D, .bool true]) (fun _ s₅ => codeAny (model prog w) A (.compLoop (.SetComp elt [⟨.Name x px, iter, [], 0⟩] scope pos) 0 (.ref I) (.ref D) (compEnvC scope cl C env)) R s₅)
         (notedBy (model prog w) A (compEnvC scope cl C env) fun e s' => R (.error e) s') { s with heap := h₄, toks := tk₄ }) :
    codeAny (model prog w) A (.compLoop (.SetComp elt [⟨.Name x px, iter, [], 0⟩] scope pos) 0 (.ref I) (.ref D) (compEnvC scope cl C env)) R s := by
  refine compLoop_set ?_
  refine wpAny_pyNext_tuple_item hit hT hv fun h₂ hit₂ hs₂ => ?_
  have hk₂ : ∀ b o, b ∉ [I] → s.heap.get? b = some o → h₂.get? b = some o := fun b o hb e => hs₂.extBut b o (by simpa using hb) e
  refine wpAny_assign_Name (wpAny_storeName_local (lookup_relabel_local hx) (hC.at' fun o e => hk₂ _ o (by simpa using Ne.symm ne.1) e) (fun h₃ hn₃ hs₃ => ?_) (by simp [compEnvC, relabel, hkind]))
  obtain ⟨oC, heC, hoC⟩ := LCg.ns_obj hn₃
  have hit₃ : h₃.IsTupleIter I T (k + 1) := hit₂.extBut hs₃.extBut ne.1
  obtain ⟨oI, heI, hrI⟩ := hit₃
  have F₃ : Fr h₀ L h₃ m := (LCg.fr_but F hk₂ hIL hI₀).change hs₃ hCL hC₀
  have off3 := off.mem
  have N₂ : News h₀ L h₂ ((D, oD) :: news) := LCg.news_but N hk₂ fun p hp => by
    rcases List.mem_cons.mp hp with rfl | hp
    · exact Ne.symm ne.2.1
    · exact (off3 p hp).1
  have N₃ : News h₀ L h₃ ((I, oI) :: (C, oC) :: (D, oD) :: news) := fun p hp => by
    rcases List.mem_cons.mp hp with rfl | hp
    · exact ⟨heI, Ne.symm hIL, hI₀⟩
    · rcases List.mem_cons.mp hp with rfl | hp
      · exact ⟨heC, hCL, hC₀⟩
      · have z := N₂ p hp
        refine ⟨hs₃.extBut _ _ ?_ z.1, z.2⟩
        rcases List.mem_cons.mp hp with rfl | hp
        · exact Ne.symm ne.2.2
        · exact (off3 p hp).2.1
  refine wpAny_mono (t I oI C oC D _ h₃ _ _ hoC (by simp) F₃ N₃ off ne) (fun y s₄ h₄ => ?_) fun _ _ e => e
  obtain ⟨h₄, tk₄, news₄, rfl, F₄, N₄, off₄, hS₄, hy⟩ := h₄
  subst hy
  rw [hS₄] at N₄
  exact h h₄ tk₄ _ F₄ (fun p hp => N₄ p (List.mem_cons_of_mem _ (List.mem_cons_of_mem _ hp))) (hoC.ns (N₄ (C, oC) (List.mem_cons_of_mem _ List.mem_cons_self)).1) ⟨oI, (N₄ (I, oI) List.mem_cons_self).1, hrI⟩
end
end Mine

namespace Mine
section
variable {prog : Program} {w : World} {A : Around} {E : Value → Shared → Prop} {s : Shared} {h₀ : Heap} {L : Addr} {m : Str → Option Value} {env : Env}
theorem sc_true {elt iter : Expr} {x : Str} {px : Pos} {scope : Scope} {cl : List (Str × Addr)} {pos : Pos} {Q : Value → Shared → Prop} {v1 v2 : Value} (hh : A.handled = none)
    (hclos : closureFor scope env = pure cl) (hcell : ∀ y ∈ scope.names, y.2 ≠ .cell) (hkind : scope.kind = .function)
    (hnames : ∀ y ∈ scope.names, y.2 = .local → scope.names.lookup y.1 = some .local) (hx : scope.names.lookup x = some .local)
    (h : wpAny (model prog w) A (eval iter env) (fun xv s₁ => ∃ T news, xv = .ref T ∧ Fr h₀ L s₁.heap m ∧ News h₀ L s₁.heap news ∧ (T, tpO [v1, v2]) ∈ news ∧
      ScTurn prog w A h₀ L m env elt x scope cl s₁ news v1 (stO0 (ledW w)) ∧ ScTurn prog w A h₀ L m env elt x scope cl s₁ news v2 (stO1 (ledW w)) ∧
      (∀ D h' tk, Fr h₀ L h' m → News h₀ L h' ((D, stO1 (ledW w)) :: news) → (∀ p ∈ news, p.1 < D) → Q (.ref D) { s₁ with heap := h', toks := tk })) E s)
    (hs : ∀ x, foldedSetIterable iter env x = pure x := by intro _; rfl) :
    wpAny (model prog w) A (eval (.SetComp elt [⟨.Name x px, iter, [], 0⟩] scope pos) env) Q E s := by
  rw [arm_eval_SetComp]
  refine wpAny_comprehension_free (use := none) rfl hs hclos hkind hnames (wpAny_mono h (fun xv s₁ h₁ => ?_) fun _ _ e => e)
  obtain ⟨T, news, rfl, F, N, hT, t1, t2, fin⟩ := h₁
  have gT : s₁.heap.IsTuple T #[v1, v2] := ⟨_, (N _ hT).1, rfl, _, rfl⟩
  refine wpAny_pyIter_tuple gT ?_
  refine newSet_ ?_
  refine wpAny_newFunctionEnv hcell (by intro y hy; simp at hy) (fun h₁ hns₁ hsb₁ => ?_) hkind
  dsimp only at hns₁ hsb₁ ⊢
  have N1 := News.push F N (Obj.mk (.type "tuple_iterator") none (.fields #[.ref T, .int 0 0]) #[])
  have F1 := Fr.push F (Obj.mk (.type "tuple_iterator") none (.fields #[.ref T, .int 0 0]) #[])
  have e1 : (s₁.heap.push (Obj.mk (.type "tuple_iterator") none (.fields #[.ref T, .int 0 0]) #[])).objs.size = s₁.heap.objs.size + 1 := Heap.size_push ..
  generalize hH1 : s₁.heap.push (Obj.mk (.type "tuple_iterator") none (.fields #[.ref T, .int 0 0]) #[]) = H1 at hns₁ hsb₁ N1 F1 e1 ⊢
  have N2 := News.push F1 N1 (stO0 (ledW w))
  have F2 := Fr.push F1 (stO0 (ledW w))
  have e2 : (H1.push (stO0 (ledW w))).objs.size = s₁.heap.objs.size + 1 + 1 := by rw [Heap.size_push, e1]
  generalize hH2 : H1.push (stO0 (ledW w)) = H2 at hns₁ hsb₁ N2 F2 e2 ⊢
  have old : ∀ b o, H2.get? b = some o → h₁.get? b = some o := fun b o e => hsb₁.extBut b o (Nat.ne_of_lt (Heap.lt_size e)) (Heap.get?_push_of_some _ e)
  have N3 : News h₀ L h₁ _ := N2.grown old
  have F3 : Fr h₀ L h₁ m := F2.keeps old
  have hC₀ : h₀.get? H2.objs.size = none := F2.fresh
  have hCL : H2.objs.size ≠ L := Nat.ne_of_gt F2.ns.lt
  have hIL := (N3 (s₁.heap.objs.size, _) (List.mem_cons_of_mem _ List.mem_cons_self)).2
  have lt : ∀ p ∈ news, p.1 < s₁.heap.objs.size := fun p hp => Heap.lt_size (N p hp).1
  have ne : ((@Ne Nat s₁.heap.objs.size H2.objs.size) ∧ (@Ne Nat s₁.heap.objs.size H1.objs.size) ∧ (@Ne Nat H2.objs.size H1.objs.size)) := by
    rw [e1, e2]
    exact ⟨Nat.ne_of_lt (Nat.lt_succ_of_lt (Nat.lt_succ_self _)), Nat.ne_of_lt (Nat.lt_succ_self _), Nat.ne_of_gt (Nat.lt_succ_self _)⟩
  have off : LCg.Off3 s₁.heap.objs.size H2.objs.size H1.objs.size news := LCg.Off3.of fun p hp => by
    have := lt p hp
    rw [e1, e2]
    exact ⟨Nat.ne_of_lt this, Nat.ne_of_lt (Nat.lt_succ_of_lt (Nat.lt_succ_of_lt this)), Nat.ne_of_lt (Nat.lt_succ_of_lt this)⟩
  have gI : h₁.IsTupleIter s₁.heap.objs.size T 0 := ⟨_, (N3 (s₁.heap.objs.size, _) (List.mem_cons_of_mem _ List.mem_cons_self)).1, rfl, rfl⟩
  have tupAt : ∀ {h' : Heap} {o : Obj}, News h₀ L h' ((H1.objs.size, o) :: news) → h'.IsTuple T #[v1, v2] := fun N' => ⟨_, (N' _ (List.mem_cons_of_mem _ hT)).1, rfl, _, rfl⟩
  have hapD : ∀ p ∈ news, p.1 ≠ H1.objs.size := fun p hp => (off.mem p hp).2.2
  have N4 : News h₀ L h₁ ((H1.objs.size, stO0 (ledW w)) :: news) := fun p hp => by
    rcases List.mem_cons.mp hp with rfl | hp
    · exact N3 _ List.mem_cons_self
    · exact N3 _ (List.mem_cons_of_mem _ (List.mem_cons_of_mem _ hp))
  have loop : ∀ s₃ : Shared, s₃ = { s₁ with heap := h₁, toks := s₁.toks + ([] : List (Str × Value)).length } →
      codeAny (model prog w) A (.compLoop (.SetComp elt [⟨.Name x px, iter, [], 0⟩] scope pos) 0 (.ref s₁.heap.objs.size) (.ref H1.objs.size) (compEnvC scope cl H2.objs.size env))
        (compPost (model prog w) A E none Q (.ref H1.objs.size) H2.objs.size) s₃ := by
    rintro s₃ rfl
    refine sc_turn (T := T) (its := #[v1, v2]) (k := 0) hkind hx ne F3 N4 off hns₁ hCL hC₀ (Ne.symm hIL.1) hIL.2 gI (tupAt N4) rfl t1 ?_
    intro h₄ tk₄ m₄ F5 N5 hn5 hit5
    refine add_first (N5 _ List.mem_cons_self).1 fun h₅ hs₅ g₅ => ?_
    have N6 : News h₀ L h₅ ((H1.objs.size, stO1 (ledW w)) :: news) := News.setHead N5 hapD hs₅ g₅
    have F6 : Fr h₀ L h₅ m := F5.update N5 List.mem_cons_self hs₅
    refine sc_turn (T := T) (its := #[v1, v2]) (k := 1) hkind hx ne F6 N6 off (hn5.sameBut hs₅ ne.2.2) hCL hC₀ (Ne.symm hIL.1) hIL.2 (hit5.extBut hs₅.extBut ne.2.1) (tupAt N6) rfl t2 ?_
    intro h₆ tk₆ m₆ F7 N7 hn7 hit7
    refine add_again (N7 _ List.mem_cons_self).1 ?_
    refine compLoop_set ?_
    refine wpAny_pyNext_tuple_end hh hit7 (tupAt N7) rfl fun h₈ hk₈ => ?_
    have hb₈ : ∀ b o, b ∉ [s₁.heap.objs.size] → h₆.get? b = some o → h₈.get? b = some o := fun b o hb e => hk₈ b o (by simpa using hb) e
    have F8 : Fr h₀ L h₈ m := LCg.fr_but F7 hb₈ (Ne.symm hIL.1) hIL.2
    have N8 : News h₀ L h₈ ((H1.objs.size, stO1 (ledW w)) :: news) := LCg.news_but N7 hb₈ fun p hp => by
      rcases List.mem_cons.mp hp with rfl | hp
      · exact Ne.symm ne.2.1
      · exact (off.mem p hp).1
    refine ⟨m₆, hn7.at' fun o e => hb₈ _ o (by simpa using Ne.symm ne.1) e, fun h₉ hs₉ => fin _ h₉ _ (F8.change hs₉ hCL hC₀) (fun p hp => ?_) fun p hp => ?_⟩
    · refine ⟨hs₉.extBut _ _ ?_ (N8 p hp).1, (N8 p hp).2⟩
      rcases List.mem_cons.mp hp with rfl | hp
      · exact Ne.symm ne.2.2
      · exact (off.mem p hp).2.1
    · rw [e1]; exact Nat.lt_succ_of_lt (lt p hp)
  exact compStart_set (loop _ rfl) (wpAny_pyIter_tupleiter gI (loop _ rfl))
end
end Mine

namespace Mine
theorem cut_inj : ∀ {a b R S : List Nat}, 47 ∉ a → 47 ∉ b → (R = [] ∨ ∃ r, R = 47 :: r) → (S = [] ∨ ∃ r, S = 47 :: r) → a ++ R = b ++ S → a = b ∧ R = S
  | [], [], _, _, _, _, _, _, e => ⟨rfl, e⟩
  | [], y :: b, R, S, _, hb, hR, _, e => by
    exfalso
    rcases hR with rfl | ⟨r, rfl⟩
    · simp at e
    · simp only [List.nil_append, List.cons_append, List.cons.injEq] at e
      exact hb (by rw [← e.1]; exact List.mem_cons_self)
  | x :: a, [], R, S, ha, _, _, hS, e => by
    exfalso
    rcases hS with rfl | ⟨r, rfl⟩
    · simp at e
    · simp only [List.nil_append, List.cons_append, List.cons.injEq] at e
      exact ha (by rw [e.1]; exact List.mem_cons_self)
  | x :: a, y :: b, R, S, ha, hb, hR, hS, e => by
    simp only [List.cons_append, List.cons.injEq] at e
    have h := cut_inj (fun h => ha (List.mem_cons_of_mem _ h)) (fun h => hb (List.mem_cons_of_mem _ h)) hR hS e.2
    exact ⟨by rw [e.1, h.1], h.2⟩
theorem flat_head (xs : List (List Nat)) : (xs.flatMap fun c => 47 :: c) = [] ∨ ∃ r, (xs.flatMap fun c => 47 :: c) = 47 :: r := by
  cases xs with
  | nil => exact .inl rfl
  | cons x r => exact .inr ⟨_, rfl⟩
theorem flat_inj : ∀ {xs ys : List (List Nat)}, (∀ c ∈ xs, 47 ∉ c) → (∀ c ∈ ys, 47 ∉ c) → (xs.flatMap fun c => 47 :: c) = (ys.flatMap fun c => 47 :: c) → xs = ys
  | [], [], _, _, _ => rfl
  | [], _ :: _, _, _, e => by simp at e
  | _ :: _, [], _, _, e => by simp at e
  | x :: xs, y :: ys, hx, hy, e => by
    simp only [List.flatMap_cons, List.cons_append, List.cons.injEq, true_and] at e
    have h := cut_inj (hx x List.mem_cons_self) (hy y List.mem_cons_self) (flat_head xs) (flat_head ys) e
    rw [h.1, flat_inj (fun c hc => hx c (List.mem_cons_of_mem _ hc)) (fun c hc => hy c (List.mem_cons_of_mem _ hc)) h.2]
theorem join_list_eq : ∀ (x : Str) (r : List Str), (Str.join (mkS [47]) (x :: r)).cps.toList = x.cps.toList ++ (r.map (·.cps.toList)).flatMap fun c => 47 :: c
  | x, [] => by simp [Str.join]
  | x, y :: r => by
    show (x ++ mkS [47] ++ Str.join (mkS [47]) (y :: r)).cps.toList = _
    rw [Str.cps_append, Array.toList_append, Str.cps_append, Array.toList_append, join_list_eq y r]
    simp [mkS]
theorem split_path (N f : Nat) (hf : f ≠ 0) : Txt.split (mkS (pathL N f)) (mkS [47]) = mkS [] :: (flds N f).map mkS := by
  have hj := StrLaws.join_split (mkS (pathL N f)) (mkS [47])
  have hp := split_pos (mkS (pathL N f)) (mkS [47])
  have hfr := StrLaws.split_free (mkS (pathL N f)) 47
  change ∀ p ∈ Txt.split (mkS (pathL N f)) (mkS [47]), _ at hfr
  generalize Txt.split (mkS (pathL N f)) (mkS [47]) = P at hj hp hfr
  cases P with
  | nil => simp at hp
  | cons x r =>
    have e := congrArg (fun s : Str => s.cps.toList) hj
    rw [join_list_eq] at e
    have e2 : (mkS (pathL N f)).cps.toList = [] ++ (flds N f).flatMap fun c => 47 :: c := by
      show pathL N f = _
      unfold pathL
      rw [if_neg hf]; rfl
    rw [e2] at e
    have h := cut_inj (hfr x List.mem_cons_self) (by simp) (flat_head _) (flat_head _) e
    have h2 := flat_inj (fun c hc => by
      obtain ⟨p, hp, rfl⟩ := List.mem_map.mp hc
      exact hfr p (List.mem_cons_of_mem _ hp)) (fun c hc => (flds_ok N f c hc).2) h.2
    have hx : x = mkS [] := by apply Str.ext'; apply Array.ext'; rw [h.1]; rfl
    have hr : r = (flds N f).map mkS := by
      rw [← h2, List.map_map]
      have : (mkS ∘ fun x : Str => x.cps.toList) = id := by
        funext s
        apply Str.ext'; apply Array.ext'; simp [mkS]
      rw [this, List.map_id]
    rw [hx, hr]
section
variable {prog : Program} {w : World} {A : Around} {E : Value → Shared → Prop} {s : Shared} {h₀ : Heap} {L : Addr} {m : Str → Option Value} {news : List (Addr × Obj)} {Q : Value → Shared → Prop}
theorem split_mk {N : Nat} {y : Str} {t u : Tok} (hF : Fr h₀ L s.heap m) (hN : News h₀ L s.heap news) (hy : y = mkS [47])
    (h : ∀ h' k D t0 t1 t2 t3 t4, Fr h₀ L h' m → News h₀ L h' ((D, lsO [.str (mkS []) t0, .str (mkS (fld N 3)) t1, .str (mkS (fld N 2)) t2, .str (mkS (fld N 1)) t3, .str (mkS (fld N 0)) t4] 0) :: news) → (∀ p ∈ news, p.1 < D) → Q (.ref D) { s with heap := h', toks := k }) :
    wpAny (model prog w) A (call (.builtin "str.split") [.str (mkS (pathL N 4)) t, .str y u]) Q E s := by
  subst hy
  refine splitN1 hF hN (by rfl) (fun l h' k hl F' N' => ?_) (by rw [mkS_len, pathL_len, sizeLine_eq]; decide)
  rw [split_path N 4 (by decide)] at hl
  have hfl : flds N 4 = [fld N 3, fld N 2, fld N 1, fld N 0] := rfl
  rw [hfl] at hl
  match l, hl with
  | [(a, t0), (b, t1), (c, t2), (d, t3), (e, t4)], hl =>
    simp only [List.map_cons, List.map_nil, List.cons.injEq, and_true] at hl
    obtain ⟨rfl, rfl, rfl, rfl, rfl⟩ := hl
    exact h h' k _ t0 t1 t2 t3 t4 F' N' fun p hp => Heap.lt_size (hN p hp).1
end
end Mine
namespace Mine
theorem compEnd_grow {h₀ : Heap} {L : Addr} {m : Str → Option Value} {s₁ : Shared} {I C D X : Addr} {oI oC oD oX : Obj} {news : List (Addr × Obj)} {S : List (Addr × Obj) → Prop} {rest : Value → List (Addr × Obj) → Prop} {y : Value} {h' : Heap} {tk : Nat}
    (F : Fr h₀ L h' m) (N : News h₀ L h' ((X, oX) :: (I, oI) :: (C, oC) :: (D, oD) :: news)) (hX : ∀ p ∈ (I, oI) :: (C, oC) :: (D, oD) :: news, p.1 < X) (off : LCg.Off3 I C D news) (hS : S ((X, oX) :: news)) (r : rest y ((X, oX) :: news)) :
    LCg.CompEnd h₀ L m s₁ I oI C oC D oD S rest y { s₁ with heap := h', toks := tk } := by
  refine LCg.CompEnd.intro F N ((X, oX) :: news) (fun p hp => ?_) ⟨⟨?_, ?_, ?_⟩, off⟩ hS r
  · rcases List.mem_cons.mp hp with rfl | hp
    · exact List.mem_cons_of_mem _ List.mem_cons_self
    rcases List.mem_cons.mp hp with rfl | hp
    · exact List.mem_cons_of_mem _ (List.mem_cons_of_mem _ List.mem_cons_self)
    rcases List.mem_cons.mp hp with rfl | hp
    · exact List.mem_cons_of_mem _ (List.mem_cons_of_mem _ (List.mem_cons_of_mem _ List.mem_cons_self))
    rcases List.mem_cons.mp hp with rfl | hp
    · exact List.mem_cons_self
    · exact List.mem_cons_of_mem _ (List.mem_cons_of_mem _ (List.mem_cons_of_mem _ (List.mem_cons_of_mem _ hp)))
  · exact Nat.ne_of_gt (hX (I, oI) List.mem_cons_self)
  · exact Nat.ne_of_gt (hX (C, oC) (List.mem_cons_of_mem _ List.mem_cons_self))
  · exact Nat.ne_of_gt (hX (D, oD) (List.mem_cons_of_mem _ (List.mem_cons_of_mem _ List.mem_cons_self)))
end Mine

namespace Mine
open PySem.AutoSeq1 (wpAny_loadPart')
/-- the elder of two lists of texts, by their first place that differs -/
def lexN : List (List Nat) → List (List Nat) → Bool
  | x :: xs, y :: ys => if x == y then lexN xs ys else decide (x < y)
  | [], _ :: _ => true
  | _, [] => false
def lexG : List (List Nat) → List (List Nat) → Bool
  | x :: xs, y :: ys => if x == y then lexG xs ys else decide (y < x)
  | [], _ :: _ => false
  | _ :: _, [] => true
  | [], [] => false
theorem strs_at : ∀ {vs : List Value} {ns : List (List Nat)}, StrsAre vs (ns.map mkS) → ∀ i : Nat, i < vs.length → ∃ (a : List Nat) (t : Tok), vs[i]? = some (.str (mkS a) t) ∧ ns.drop i = a :: ns.drop (i + 1)
  | [], [], _, i, h => absurd h (Nat.not_lt_zero _)
  | _, a :: ns, .cons _ t r, 0, _ => ⟨a, t, rfl, rfl⟩
  | _, a :: ns, .cons _ t r, i + 1, h => by
    obtain ⟨a, t, h1, h2⟩ := strs_at r i (Nat.lt_of_succ_lt_succ h)
    exact ⟨a, t, h1, h2⟩
theorem strs_len {vs : List Value} {ns : List (List Nat)} (h : StrsAre vs (ns.map mkS)) : vs.length = ns.length := by
  have := strsAre_len h
  simpa using this
theorem cmp_loop_lt (l b : Addr) (vs us : List Value) (n n2 : Nat) (xs ys : List (List Nat)) (hx : StrsAre vs (xs.map mkS)) (hy : StrsAre us (ys.map mkS)) (hsz : vs.length = us.length) (k : Nat) :
    ∀ i : Nat, vs.length - i = k → Meets (Builtin.«list.__eq__.loop» ⟨[.ref l, .ref b, rawInt i, rawInt 0], []⟩)
      (fun _ R s => s.heap.get? l = some { cls := .type "list", dict := none, data := .seq vs.toArray n, slots := #[] } ∧ s.heap.get? b = some { cls := .type "list", dict := none, data := .seq us.toArray n2, slots := #[] } ∧
        R (.ok (.ret (.bool (lexN (xs.drop i) (ys.drop i))))) s) := by
  induction k with
  | zero =>
    intro i hk prog w A R s h
    obtain ⟨hp, g, d, tk, os⟩ := s; obtain ⟨hl, hb, h⟩ := h
    wp_walk using wpAny_loadPart' hl, wpAny_loadPart' hb
    have hi1 : vs.toArray[((i : Nat) : Int).toNat]? = none := by simp; omega
    have hi2 : us.toArray[((i : Nat) : Int).toNat]? = none := by simp; omega
    have l1 := strs_len hx
    have l2 := strs_len hy
    rw [List.drop_eq_nil_of_le (by omega : xs.length ≤ i), List.drop_eq_nil_of_le (by omega : ys.length ≤ i)] at h
    rw [hi1, hi2]
    wp_walk using wpAny_loadPart' hl, wpAny_loadPart' hb
    show R (.ok (.ret (.bool (decide (vs.toArray.size < us.toArray.size))))) _
    rw [List.size_toArray, List.size_toArray, hsz, decide_eq_false (Nat.lt_irrefl _)]
    exact h
  | succ k ih =>
    intro i hk prog w A R s h
    obtain ⟨hp, g, d, tk, os⟩ := s; obtain ⟨hl, hb, h⟩ := h
    wp_walk using wpAny_loadPart' hl, wpAny_loadPart' hb
    obtain ⟨x, t, ex, dx⟩ := strs_at hx i (by omega)
    obtain ⟨y, u, ey, dy⟩ := strs_at hy i (by omega)
    have hi1 : vs.toArray[((i : Nat) : Int).toNat]? = some (.str (mkS x) t) := by simpa using ex
    have hi2 : us.toArray[((i : Nat) : Int).toNat]? = some (.str (mkS y) u) := by simpa using ey
    have hc : ((i : Int) + 1) = ((i + 1 : Nat) : Int) := by push_cast; rfl
    rw [dx, dy] at h
    rw [hi1, hi2]
    refine wpAny_bind (SeqRoads2.EqGives.str (mkS x) (mkS y) t u prog w _ _ _ _ ?_)
    have he : ((mkS x).cps.toList == (mkS y).cps.toList) = (x == y) := rfl
    rw [he]
    cases hb' : x == y with
    | true =>
      have e2 : lexN (x :: xs.drop (i + 1)) (y :: ys.drop (i + 1)) = lexN (xs.drop (i + 1)) (ys.drop (i + 1)) := by show (if x == y then _ else _) = _; rw [hb']; rfl
      rw [e2] at h
      wp_walk
      rw [hc]
      exact ⟨plainId_quiet MeetsSeq3.plain_eq_loop _, codeAny_builtin MeetsSeq3.entry_eq_loop (by
        rw [Around.under_plainId MeetsSeq3.plain_eq_loop _]
        exact ih (i + 1) (by omega) prog w A R _ ⟨hl, hb, h⟩)⟩
    | false =>
      have e2 : lexN (x :: xs.drop (i + 1)) (y :: ys.drop (i + 1)) = decide (x < y) := by show (if x == y then _ else _) = _; rw [hb']; rfl
      rw [e2] at h
      wp_walk using wpAny_loadPart' hl, wpAny_loadPart' hb
      rw [hi1, hi2]
      refine wpAny_bind (lt_str ?_)
      wp_walk
      exact h
theorem list_lt (l b : Addr) (vs us : List Value) (n n2 : Nat) (xs ys : List (List Nat)) (hx : StrsAre vs (xs.map mkS)) (hy : StrsAre us (ys.map mkS)) (hsz : vs.length = us.length) :
    Meets (Builtin.«list.__lt__» ⟨[.ref l, .ref b], []⟩)
      (fun _ R s => s.heap.get? l = some { cls := .type "list", dict := none, data := .seq vs.toArray n, slots := #[] } ∧ s.heap.get? b = some { cls := .type "list", dict := none, data := .seq us.toArray n2, slots := #[] } ∧
        R (.ok (.ret (.bool (lexN xs ys)))) s) := by
  intro prog w A R s h
  obtain ⟨hp, g, d, tk, os⟩ := s; obtain ⟨hl, hb, h⟩ := h
  have f3 := AutoSeq1.sub_list_list
  wp_walk using wpAny_loadPart' hl, wpAny_loadPart' hb
  exact ⟨plainId_quiet MeetsSeq3.plain_eq_loop _, codeAny_builtin MeetsSeq3.entry_eq_loop (by
    rw [Around.under_plainId MeetsSeq3.plain_eq_loop _]
    exact cmp_loop_lt l b vs us n n2 xs ys hx hy hsz _ 0 rfl prog w A R _ ⟨hl, hb, by simpa using h⟩)⟩
theorem cmp_loop_gt (l b : Addr) (vs us : List Value) (n n2 : Nat) (xs ys : List (List Nat)) (hx : StrsAre vs (xs.map mkS)) (hy : StrsAre us (ys.map mkS)) (hsz : vs.length = us.length) (k : Nat) :
    ∀ i : Nat, vs.length - i = k → Meets (Builtin.«list.__eq__.loop» ⟨[.ref l, .ref b, rawInt i, rawInt 4], []⟩)
      (fun _ R s => s.heap.get? l = some { cls := .type "list", dict := none, data := .seq vs.toArray n, slots := #[] } ∧ s.heap.get? b = some { cls := .type "list", dict := none, data := .seq us.toArray n2, slots := #[] } ∧
        R (.ok (.ret (.bool (lexG (xs.drop i) (ys.drop i))))) s) := by
  induction k with
  | zero =>
    intro i hk prog w A R s h
    obtain ⟨hp, g, d, tk, os⟩ := s; obtain ⟨hl, hb, h⟩ := h
    wp_walk using wpAny_loadPart' hl, wpAny_loadPart' hb
    have hi1 : vs.toArray[((i : Nat) : Int).toNat]? = none := by simp; omega
    have hi2 : us.toArray[((i : Nat) : Int).toNat]? = none := by simp; omega
    have l1 := strs_len hx
    have l2 := strs_len hy
    rw [List.drop_eq_nil_of_le (by omega : xs.length ≤ i), List.drop_eq_nil_of_le (by omega : ys.length ≤ i)] at h
    rw [hi1, hi2]
    wp_walk using wpAny_loadPart' hl, wpAny_loadPart' hb
    show R (.ok (.ret (.bool (decide (vs.toArray.size > us.toArray.size))))) _
    rw [List.size_toArray, List.size_toArray, hsz, decide_eq_false (Nat.lt_irrefl _)]
    exact h
  | succ k ih =>
    intro i hk prog w A R s h
    obtain ⟨hp, g, d, tk, os⟩ := s; obtain ⟨hl, hb, h⟩ := h
    wp_walk using wpAny_loadPart' hl, wpAny_loadPart' hb
    obtain ⟨x, t, ex, dx⟩ := strs_at hx i (by omega)
    obtain ⟨y, u, ey, dy⟩ := strs_at hy i (by omega)
    have hi1 : vs.toArray[((i : Nat) : Int).toNat]? = some (.str (mkS x) t) := by simpa using ex
    have hi2 : us.toArray[((i : Nat) : Int).toNat]? = some (.str (mkS y) u) := by simpa using ey
    have hc : ((i : Int) + 1) = ((i + 1 : Nat) : Int) := by push_cast; rfl
    rw [dx, dy] at h
    rw [hi1, hi2]
    refine wpAny_bind (SeqRoads2.EqGives.str (mkS x) (mkS y) t u prog w _ _ _ _ ?_)
    have he : ((mkS x).cps.toList == (mkS y).cps.toList) = (x == y) := rfl
    rw [he]
    cases hb' : x == y with
    | true =>
      have e2 : lexG (x :: xs.drop (i + 1)) (y :: ys.drop (i + 1)) = lexG (xs.drop (i + 1)) (ys.drop (i + 1)) := by show (if x == y then _ else _) = _; rw [hb']; rfl
      rw [e2] at h
      wp_walk
      rw [hc]
      exact ⟨plainId_quiet MeetsSeq3.plain_eq_loop _, codeAny_builtin MeetsSeq3.entry_eq_loop (by
        rw [Around.under_plainId MeetsSeq3.plain_eq_loop _]
        exact ih (i + 1) (by omega) prog w A R _ ⟨hl, hb, h⟩)⟩
    | false =>
      have e2 : lexG (x :: xs.drop (i + 1)) (y :: ys.drop (i + 1)) = decide (y < x) := by show (if x == y then _ else _) = _; rw [hb']; rfl
      rw [e2] at h
      wp_walk using wpAny_loadPart' hl, wpAny_loadPart' hb
      rw [hi1, hi2]
      refine wpAny_bind (P.gt_str ?_)
      wp_walk
      exact h
theorem list_gt (l b : Addr) (vs us : List Value) (n n2 : Nat) (xs ys : List (List Nat)) (hx : StrsAre vs (xs.map mkS)) (hy : StrsAre us (ys.map mkS)) (hsz : vs.length = us.length) :
    Meets (Builtin.«list.__gt__» ⟨[.ref l, .ref b], []⟩)
      (fun _ R s => s.heap.get? l = some { cls := .type "list", dict := none, data := .seq vs.toArray n, slots := #[] } ∧ s.heap.get? b = some { cls := .type "list", dict := none, data := .seq us.toArray n2, slots := #[] } ∧
        R (.ok (.ret (.bool (lexG xs ys)))) s) := by
  intro prog w A R s h
  obtain ⟨hp, g, d, tk, os⟩ := s; obtain ⟨hl, hb, h⟩ := h
  have f3 := AutoSeq1.sub_list_list
  wp_walk using wpAny_loadPart' hl, wpAny_loadPart' hb
  exact ⟨plainId_quiet MeetsSeq3.plain_eq_loop _, codeAny_builtin MeetsSeq3.entry_eq_loop (by
    rw [Around.under_plainId MeetsSeq3.plain_eq_loop _]
    exact cmp_loop_gt l b vs us n n2 xs ys hx hy hsz _ 0 rfl prog w A R _ ⟨hl, hb, by simpa using h⟩)⟩
section
variable {prog : Program} {w : World} {A : Around} {E : Value → Shared → Prop} {s : Shared} {Q : Value → Shared → Prop}
theorem rich_lt {l b : Addr} {vs us : List Value} {n n2 : Nat} {xs ys : List (List Nat)} (hx : StrsAre vs (xs.map mkS)) (hy : StrsAre us (ys.map mkS)) (hsz : vs.length = us.length) (hl : s.heap.get? l = some (lsO vs n)) (hb : s.heap.get? b = some (lsO us n2)) (hu : A.units < cLine) (h : Q (.bool (lexN xs ys)) s) :
    wpAny (model prog w) A (richCompare .Lt (.ref l) (.ref b)) Q E s :=
  richCompare_meets_room ⟨_, hl, rfl⟩ ⟨_, hb, rfl⟩ F.slot_list_lt F.entry_list_lt (F.args_list_lt_2 _ _) (list_lt l b vs us n n2 xs ys hx hy hsz) ⟨hl, hb, (fun e => nomatch e), h⟩ hu
end
section
variable {prog : Program} {w : World} {A : Around} {E : Value → Shared → Prop} {s : Shared} {Q : Value → Shared → Prop}
theorem rich_gt {l b : Addr} {vs us : List Value} {n n2 : Nat} {xs ys : List (List Nat)} (hx : StrsAre vs (xs.map mkS)) (hy : StrsAre us (ys.map mkS)) (hsz : vs.length = us.length) (hl : s.heap.get? l = some (lsO vs n)) (hb : s.heap.get? b = some (lsO us n2)) (hu : A.units < cLine) (h : Q (.bool (lexG xs ys)) s) :
    wpAny (model prog w) A (richCompare .Gt (.ref l) (.ref b)) Q E s :=
  richCompare_meets_room ⟨_, hl, rfl⟩ ⟨_, hb, rfl⟩ F.slot_list_gt F.entry_list_gt (F.args_list_gt_2 _ _) (list_gt l b vs us n n2 xs ys hx hy hsz) ⟨hl, hb, (fun e => nomatch e), h⟩ hu
end
end Mine

namespace Mine
section
variable {prog : Program} {w : World} {A : Around} {E : Value → Shared → Prop} {s : Shared} {h₀ : Heap} {L : Addr} {m : Str → Option Value} {news : List (Addr × Obj)} {Q : Value → Shared → Prop}
theorem min_two {D a b : Addr} {c ca cb : Nat} {vs us : List Value} {xs ys : List (List Nat)} (hh : A.handled = none) (hu : A.units + 8 < cLine) (F0 : Fr h₀ L s.heap m) (N : News h₀ L s.heap news)
    (hD : (D, lsO [.ref b, .ref a] c) ∈ news) (hb : (b, lsO us cb) ∈ news) (ha : (a, lsO vs ca) ∈ news) (hx : StrsAre vs (xs.map mkS)) (hy : StrsAre us (ys.map mkS)) (hsz : vs.length = us.length)
    (h : ∀ h' tk, Fr h₀ L h' m → News h₀ L h' news → Q (.ref (if lexN xs ys then a else b)) { s with heap := h', toks := tk }) :
    wpAny (model prog w) A (call (.builtin "min") [.ref D]) Q E s := by
  have hname : (toString "min" ++ toString ".loop" : String) = "min.loop" := by decide
  have gD : s.heap.get? D = some (lsO [.ref b, .ref a] c) := (N _ hD).1
  have gb : s.heap.get? b = some (lsO us cb) := (N _ hb).1
  have ga : s.heap.get? a = some (lsO vs ca) := (N _ ha).1
  refine call_function_tree F.kind_min F.plain_min F.entry_min (F.args_min1 _) ?_
  show wpAny _ A.in1 (Builtin.Builtins.bindParams "min" ["key", "default"] 0 ⟨[], []⟩ >>= _) _ _ s
  refine wpAny_bind (wpAny_of_eq (show Builtin.Builtins.bindParams "min" ["key", "default"] 0 ⟨[], []⟩ = pure [none, none] from rfl) ?_)
  refine wpAny_bind (wpAny_pure ?_)
  refine wpAny_bind (wpAny_pyIter_list ⟨_, gD, rfl, _, rfl⟩ ?_)
  refine wpAny_bind (wpAny_newObj_type ?_)
  rw [hname]
  have eI : s.heap.objs.size ≠ (s.heap.push (itO D 0)).objs.size := by rw [Heap.size_push]; exact Nat.ne_of_lt (Nat.lt_succ_self _)
  have k1 : ∀ x o, s.heap.get? x = some o → (s.heap.push (itO D 0)).get? x = some o := fun x o e => Heap.get?_push_of_some _ e
  have k2 : ∀ x o, (s.heap.push (itO D 0)).get? x = some o → ((s.heap.push (itO D 0)).push (lsO [] 0)).get? x = some o := fun x o e => Heap.get?_push_of_some _ e
  have gI : ((s.heap.push (itO D 0)).push (lsO [] 0)).IsListIter s.heap.objs.size D 0 := ⟨_, k2 _ _ (Heap.get?_push_size _ rfl), rfl, rfl⟩
  have gS : ((s.heap.push (itO D 0)).push (lsO [] 0)).get? (s.heap.push (itO D 0)).objs.size = some (lsO [] 0) := Heap.get?_push_size _ rfl
  have old : ∀ x o, s.heap.get? x = some o → ((s.heap.push (itO D 0)).push (lsO [] 0)).get? x = some o ∧ x ≠ s.heap.objs.size ∧ x ≠ (s.heap.push (itO D 0)).objs.size := fun x o e =>
    ⟨k2 _ _ (k1 _ _ e), Nat.ne_of_lt (Heap.lt_size e), by rw [Heap.size_push]; exact Nat.ne_of_lt (Nat.lt_succ_of_lt (Heap.lt_size e))⟩
  generalize s.heap.objs.size = I at eI gI old ⊢
  generalize (s.heap.push (itO D 0)).objs.size = S at eI gS old ⊢
  generalize (s.heap.push (itO D 0)).push (lsO [] 0) = h1 at gI gS old ⊢
  -- first item
  refine wpAny_pure ⟨plainId_quiet F.plain_min_loop _, codeAny_builtin F.entry_min_loop ?_⟩
  rw [Around.under_plainId F.plain_min_loop _]
  show wpAny _ A.in1 (seqItems? (.ref S) >>= _) _ _ _
  refine wpAny_bind (wpAny_seqItems gS rfl ?_)
  show wpAny _ A.in1 (tryCatch (pyNext (.ref I)) _ >>= _) _ _ _
  refine wpAny_bind (wpAny_tryCatch (wpAny_pyNext_list_item gI ⟨_, (old _ _ gD).1, rfl, _, rfl⟩ (x := .ref b) rfl fun h2 gI2 hs2 => ?_))
  have old2 : ∀ x o, s.heap.get? x = some o → h2.get? x = some o ∧ x ≠ I ∧ x ≠ S := fun x o e => ⟨hs2.extBut _ _ (old x o e).2.1 (old x o e).1, (old x o e).2⟩
  have gS2 : h2.get? S = some (lsO [] 0) := hs2.extBut _ _ (Ne.symm eI) gS
  show wpAny _ A.in1 (updateSeq S (fun _ => #[.ref b, .ref b]) >>= _) _ _ _
  refine wpAny_bind (wpAny_updateSeq gS2 rfl ?_)
  rw [hname]
  have gS3 : (h2.update S (Obj.mapSeq fun _ => #[.ref b, .ref b])).get? S = some (Obj.mapSeq (fun _ => #[.ref b, .ref b]) (lsO [] 0)) := Heap.get?_update_self _ gS2 rfl
  have ne3 : ∀ x, x ≠ S → (h2.update S (Obj.mapSeq fun _ => #[.ref b, .ref b])).get? x = h2.get? x := fun x e => Heap.get?_update_other _ _ (Ne.symm e)
  generalize h2.update S (Obj.mapSeq fun _ => #[.ref b, .ref b]) = h3 at gS3 ne3 ⊢
  have old3 : ∀ x o, s.heap.get? x = some o → h3.get? x = some o ∧ x ≠ I ∧ x ≠ S := fun x o e => ⟨(ne3 x (old2 x o e).2.2).trans (old2 x o e).1, (old2 x o e).2⟩
  have gI3 : h3.IsListIter I D 1 := by obtain ⟨o, ho, r⟩ := gI2; exact ⟨o, (ne3 I eI).trans ho, r⟩
  -- second item
  refine wpAny_pure ⟨plainId_quiet F.plain_min_loop _, codeAny_builtin F.entry_min_loop ?_⟩
  rw [Around.under_plainId F.plain_min_loop _]
  show wpAny _ A.in1 (seqItems? (.ref S) >>= _) _ _ _
  refine wpAny_bind (wpAny_seqItems gS3 rfl ?_)
  show wpAny _ A.in1 (tryCatch (pyNext (.ref I)) _ >>= _) _ _ _
  refine wpAny_bind (wpAny_tryCatch (wpAny_pyNext_list_item gI3 ⟨_, (old3 _ _ gD).1, rfl, _, rfl⟩ (x := .ref a) rfl fun h4 gI4 hs4 => ?_))
  have old4 : ∀ x o, s.heap.get? x = some o → h4.get? x = some o ∧ x ≠ I ∧ x ≠ S := fun x o e => ⟨hs4.extBut _ _ (old3 x o e).2.1 (old3 x o e).1, (old3 x o e).2⟩
  have gS4 := hs4.extBut _ _ (Ne.symm eI) gS3
  show wpAny _ A.in1 (tryCatch (holding [.ref a, .ref a] (richCompare .Lt (.ref a) (.ref b) >>= _)) _ >>= _) _ _ _
  refine wpAny_bind (wpAny_tryCatch (wpAny_holding (wpAny_bind (rich_lt hx hy hsz (old4 _ _ ga).1 (old4 _ _ gb).1 (by show A.units + 1 < cLine; omega) ?_))))
  refine wpAny_bind (wpAny_holding (wpAny_truthy_bool ?_))
  refine wpAny_bind (wpAny_letGo (wpAny_pure ?_))
  -- the end, whatever stands in S
  have fin : ∀ (R : Result → Shared → Prop) (v : Value) (h5 : Heap) (o5 : Obj) (tk : Nat) (n5 : Nat), h5.get? S = some o5 → o5.data = .seq #[v, v] n5 → h5.IsListIter I D 2 → (∀ x o, s.heap.get? x = some o → h5.get? x = some o ∧ x ≠ I ∧ x ≠ S) →
      (∀ h' tk, Fr h₀ L h' m → News h₀ L h' news → R (.ok (.ret v)) { s with heap := h', toks := tk }) →
      codeAny (model prog w) A (.builtin "min.loop" ⟨[.ref I, .none, .ref S], []⟩) R { s with heap := h5, toks := tk } := by
    intro R v h5 o5 tk n5 gS5 gd5 gI5 old5 hR
    refine codeAny_builtin F.entry_min_loop ?_
    rw [Around.under_plainId F.plain_min_loop _]
    show wpAny _ A.in1 (seqItems? (.ref S) >>= _) _ _ _
    refine wpAny_bind (wpAny_seqItems gS5 gd5 ?_)
    show wpAny _ A.in1 (tryCatch (pyNext (.ref I)) _ >>= _) _ _ _
    refine wpAny_bind (wpAny_tryCatch (wpAny_pyNext_list_end (A := A.in1) hh gI5 ⟨_, (old5 _ _ gD).1, rfl, _, rfl⟩ rfl fun h6 hk6 => ?_))
    have gS6 := hk6 S _ (Ne.symm eI) gS5
    show wpAny _ A.in1 (updateSeq S (fun _ => #[]) >>= _) _ _ _
    refine wpAny_bind ?_
    refine wpAny_updateSeq gS6 gd5 (wpAny_bind (wpAny_letGo (wpAny_pure ?_)))
    have all : ∀ x o, s.heap.get? x = some o → (h6.update S (Obj.mapSeq fun _ => #[])).get? x = some o := fun x o e =>
      (Heap.get?_update_other _ _ (Ne.symm (old5 x o e).2.2)).trans (hk6 x o (old5 x o e).2.1 (old5 x o e).1)
    exact hR _ _ (F0.keeps all) (N.grown all)
  cases hlx : lexN xs ys with
  | true =>
    simp only [if_true]
    refine wpAny_bind ?_
    refine wpAny_updateSeq gS4 rfl (wpAny_bind (wpAny_letGo ?_))
    rw [hname]
    have gS5 := Heap.get?_update_self (h := h4) (Obj.mapSeq fun _ => #[Value.ref a, Value.ref a]) gS4 rfl
    have ne5 : ∀ x, x ≠ S → (h4.update S (Obj.mapSeq fun _ => #[.ref a, .ref a])).get? x = h4.get? x := fun x e => Heap.get?_update_other _ _ (Ne.symm e)
    refine wpAny_pure ⟨plainId_quiet F.plain_min_loop _, fin _ (.ref a) _ _ _ _ gS5 rfl (by obtain ⟨o, ho, r⟩ := gI4; exact ⟨o, (ne5 I eI).trans ho, r⟩) (fun x o e => ⟨(ne5 x (old4 x o e).2.2).trans (old4 x o e).1, (old4 x o e).2⟩) fun h' tk F' N' => ?_⟩
    have := h h' tk F' N'
    rw [hlx] at this
    exact this
  | false =>
    simp only [Bool.false_eq_true, if_false]
    refine wpAny_bind (wpAny_letGo ?_)
    rw [hname]
    refine wpAny_pure ⟨plainId_quiet F.plain_min_loop _, fin _ (.ref b) _ _ _ _ gS4 rfl gI4 old4 fun h' tk F' N' => ?_⟩
    have := h h' tk F' N'
    rw [hlx] at this
    exact this
end
section
variable {prog : Program} {w : World} {A : Around} {E : Value → Shared → Prop} {s : Shared} {h₀ : Heap} {L : Addr} {m : Str → Option Value} {news : List (Addr × Obj)} {Q : Value → Shared → Prop}
theorem max_two {D a b : Addr} {c ca cb : Nat} {vs us : List Value} {xs ys : List (List Nat)} (hh : A.handled = none) (hu : A.units + 8 < cLine) (F0 : Fr h₀ L s.heap m) (N : News h₀ L s.heap news)
    (hD : (D, lsO [.ref b, .ref a] c) ∈ news) (hb : (b, lsO us cb) ∈ news) (ha : (a, lsO vs ca) ∈ news) (hx : StrsAre vs (xs.map mkS)) (hy : StrsAre us (ys.map mkS)) (hsz : vs.length = us.length)
    (h : ∀ h' tk, Fr h₀ L h' m → News h₀ L h' news → Q (.ref (if lexG xs ys then a else b)) { s with heap := h', toks := tk }) :
    wpAny (model prog w) A (call (.builtin "max") [.ref D]) Q E s := by
  have hname : (toString "max" ++ toString ".loop" : String) = "max.loop" := by decide
  have gD : s.heap.get? D = some (lsO [.ref b, .ref a] c) := (N _ hD).1
  have gb : s.heap.get? b = some (lsO us cb) := (N _ hb).1
  have ga : s.heap.get? a = some (lsO vs ca) := (N _ ha).1
  refine call_function_tree F.kind_max F.plain_max F.entry_max (F.args_max1 _) ?_
  show wpAny _ A.in1 (Builtin.Builtins.bindParams "max" ["key", "default"] 0 ⟨[], []⟩ >>= _) _ _ s
  refine wpAny_bind (wpAny_of_eq (show Builtin.Builtins.bindParams "max" ["key", "default"] 0 ⟨[], []⟩ = pure [none, none] from rfl) ?_)
  refine wpAny_bind (wpAny_pure ?_)
  refine wpAny_bind (wpAny_pyIter_list ⟨_, gD, rfl, _, rfl⟩ ?_)
  refine wpAny_bind (wpAny_newObj_type ?_)
  rw [hname]
  have eI : s.heap.objs.size ≠ (s.heap.push (itO D 0)).objs.size := by rw [Heap.size_push]; exact Nat.ne_of_lt (Nat.lt_succ_self _)
  have k1 : ∀ x o, s.heap.get? x = some o → (s.heap.push (itO D 0)).get? x = some o := fun x o e => Heap.get?_push_of_some _ e
  have k2 : ∀ x o, (s.heap.push (itO D 0)).get? x = some o → ((s.heap.push (itO D 0)).push (lsO [] 0)).get? x = some o := fun x o e => Heap.get?_push_of_some _ e
  have gI : ((s.heap.push (itO D 0)).push (lsO [] 0)).IsListIter s.heap.objs.size D 0 := ⟨_, k2 _ _ (Heap.get?_push_size _ rfl), rfl, rfl⟩
  have gS : ((s.heap.push (itO D 0)).push (lsO [] 0)).get? (s.heap.push (itO D 0)).objs.size = some (lsO [] 0) := Heap.get?_push_size _ rfl
  have old : ∀ x o, s.heap.get? x = some o → ((s.heap.push (itO D 0)).push (lsO [] 0)).get? x = some o ∧ x ≠ s.heap.objs.size ∧ x ≠ (s.heap.push (itO D 0)).objs.size := fun x o e =>
    ⟨k2 _ _ (k1 _ _ e), Nat.ne_of_lt (Heap.lt_size e), by rw [Heap.size_push]; exact Nat.ne_of_lt (Nat.lt_succ_of_lt (Heap.lt_size e))⟩
  generalize s.heap.objs.size = I at eI gI old ⊢
  generalize (s.heap.push (itO D 0)).objs.size = S at eI gS old ⊢
  generalize (s.heap.push (itO D 0)).push (lsO [] 0) = h1 at gI gS old ⊢
  -- first item
  refine wpAny_pure ⟨plainId_quiet F.plain_max_loop _, codeAny_builtin F.entry_max_loop ?_⟩
  rw [Around.under_plainId F.plain_max_loop _]
  show wpAny _ A.in1 (seqItems? (.ref S) >>= _) _ _ _
  refine wpAny_bind (wpAny_seqItems gS rfl ?_)
  show wpAny _ A.in1 (tryCatch (pyNext (.ref I)) _ >>= _) _ _ _
  refine wpAny_bind (wpAny_tryCatch (wpAny_pyNext_list_item gI ⟨_, (old _ _ gD).1, rfl, _, rfl⟩ (x := .ref b) rfl fun h2 gI2 hs2 => ?_))
  have old2 : ∀ x o, s.heap.get? x = some o → h2.get? x = some o ∧ x ≠ I ∧ x ≠ S := fun x o e => ⟨hs2.extBut _ _ (old x o e).2.1 (old x o e).1, (old x o e).2⟩
  have gS2 : h2.get? S = some (lsO [] 0) := hs2.extBut _ _ (Ne.symm eI) gS
  show wpAny _ A.in1 (updateSeq S (fun _ => #[.ref b, .ref b]) >>= _) _ _ _
  refine wpAny_bind (wpAny_updateSeq gS2 rfl ?_)
  rw [hname]
  have gS3 : (h2.update S (Obj.mapSeq fun _ => #[.ref b, .ref b])).get? S = some (Obj.mapSeq (fun _ => #[.ref b, .ref b]) (lsO [] 0)) := Heap.get?_update_self _ gS2 rfl
  have ne3 : ∀ x, x ≠ S → (h2.update S (Obj.mapSeq fun _ => #[.ref b, .ref b])).get? x = h2.get? x := fun x e => Heap.get?_update_other _ _ (Ne.symm e)
  generalize h2.update S (Obj.mapSeq fun _ => #[.ref b, .ref b]) = h3 at gS3 ne3 ⊢
  have old3 : ∀ x o, s.heap.get? x = some o → h3.get? x = some o ∧ x ≠ I ∧ x ≠ S := fun x o e => ⟨(ne3 x (old2 x o e).2.2).trans (old2 x o e).1, (old2 x o e).2⟩
  have gI3 : h3.IsListIter I D 1 := by obtain ⟨o, ho, r⟩ := gI2; exact ⟨o, (ne3 I eI).trans ho, r⟩
  -- second item
  refine wpAny_pure ⟨plainId_quiet F.plain_max_loop _, codeAny_builtin F.entry_max_loop ?_⟩
  rw [Around.under_plainId F.plain_max_loop _]
  show wpAny _ A.in1 (seqItems? (.ref S) >>= _) _ _ _
  refine wpAny_bind (wpAny_seqItems gS3 rfl ?_)
  show wpAny _ A.in1 (tryCatch (pyNext (.ref I)) _ >>= _) _ _ _
  refine wpAny_bind (wpAny_tryCatch (wpAny_pyNext_list_item gI3 ⟨_, (old3 _ _ gD).1, rfl, _, rfl⟩ (x := .ref a) rfl fun h4 gI4 hs4 => ?_))
  have old4 : ∀ x o, s.heap.get? x = some o → h4.get? x = some o ∧ x ≠ I ∧ x ≠ S := fun x o e => ⟨hs4.extBut _ _ (old3 x o e).2.1 (old3 x o e).1, (old3 x o e).2⟩
  have gS4 := hs4.extBut _ _ (Ne.symm eI) gS3
  show wpAny _ A.in1 (tryCatch (holding [.ref a, .ref a] (richCompare .Gt (.ref a) (.ref b) >>= _)) _ >>= _) _ _ _
  refine wpAny_bind (wpAny_tryCatch (wpAny_holding (wpAny_bind (rich_gt hx hy hsz (old4 _ _ ga).1 (old4 _ _ gb).1 (by show A.units + 1 < cLine; omega) ?_))))
  refine wpAny_bind (wpAny_holding (wpAny_truthy_bool ?_))
  refine wpAny_bind (wpAny_letGo (wpAny_pure ?_))
  -- the end, whatever stands in S
  have fin : ∀ (R : Result → Shared → Prop) (v : Value) (h5 : Heap) (o5 : Obj) (tk : Nat) (n5 : Nat), h5.get? S = some o5 → o5.data = .seq #[v, v] n5 → h5.IsListIter I D 2 → (∀ x o, s.heap.get? x = some o → h5.get? x = some o ∧ x ≠ I ∧ x ≠ S) →
      (∀ h' tk, Fr h₀ L h' m → News h₀ L h' news → R (.ok (.ret v)) { s with heap := h', toks := tk }) →
      codeAny (model prog w) A (.builtin "max.loop" ⟨[.ref I, .none, .ref S], []⟩) R { s with heap := h5, toks := tk } := by
    intro R v h5 o5 tk n5 gS5 gd5 gI5 old5 hR
    refine codeAny_builtin F.entry_max_loop ?_
    rw [Around.under_plainId F.plain_max_loop _]
    show wpAny _ A.in1 (seqItems? (.ref S) >>= _) _ _ _
    refine wpAny_bind (wpAny_seqItems gS5 gd5 ?_)
    show wpAny _ A.in1 (tryCatch (pyNext (.ref I)) _ >>= _) _ _ _
    refine wpAny_bind (wpAny_tryCatch (wpAny_pyNext_list_end (A := A.in1) hh gI5 ⟨_, (old5 _ _ gD).1, rfl, _, rfl⟩ rfl fun h6 hk6 => ?_))
    have gS6 := hk6 S _ (Ne.symm eI) gS5
    show wpAny _ A.in1 (updateSeq S (fun _ => #[]) >>= _) _ _ _
    refine wpAny_bind ?_
    refine wpAny_updateSeq gS6 gd5 (wpAny_bind (wpAny_letGo (wpAny_pure ?_)))
    have all : ∀ x o, s.heap.get? x = some o → (h6.update S (Obj.mapSeq fun _ => #[])).get? x = some o := fun x o e =>
      (Heap.get?_update_other _ _ (Ne.symm (old5 x o e).2.2)).trans (hk6 x o (old5 x o e).2.1 (old5 x o e).1)
    exact hR _ _ (F0.keeps all) (N.grown all)
  cases hlx : lexG xs ys with
  | true =>
    simp only [if_true]
    refine wpAny_bind ?_
    refine wpAny_updateSeq gS4 rfl (wpAny_bind (wpAny_letGo ?_))
    rw [hname]
    have gS5 := Heap.get?_update_self (h := h4) (Obj.mapSeq fun _ => #[Value.ref a, Value.ref a]) gS4 rfl
    have ne5 : ∀ x, x ≠ S → (h4.update S (Obj.mapSeq fun _ => #[.ref a, .ref a])).get? x = h4.get? x := fun x e => Heap.get?_update_other _ _ (Ne.symm e)
    refine wpAny_pure ⟨plainId_quiet F.plain_max_loop _, fin _ (.ref a) _ _ _ _ gS5 rfl (by obtain ⟨o, ho, r⟩ := gI4; exact ⟨o, (ne5 I eI).trans ho, r⟩) (fun x o e => ⟨(ne5 x (old4 x o e).2.2).trans (old4 x o e).1, (old4 x o e).2⟩) fun h' tk F' N' => ?_⟩
    have := h h' tk F' N'
    rw [hlx] at this
    exact this
  | false =>
    simp only [Bool.false_eq_true, if_false]
    refine wpAny_bind (wpAny_letGo ?_)
    rw [hname]
    refine wpAny_pure ⟨plainId_quiet F.plain_max_loop _, fin _ (.ref b) _ _ _ _ gS4 rfl gI4 old4 fun h' tk F' N' => ?_⟩
    have := h h' tk F' N'
    rw [hlx] at this
    exact this
end
end Mine

namespace Mine
theorem pathL_head (N f : Nat) : ∃ r, pathL N f = 47 :: r := by
  unfold pathL
  by_cases h : f = 0
  · exact ⟨[], by rw [if_pos h]⟩
  · rw [if_neg h]
    obtain ⟨g, rfl⟩ : ∃ g, f = g + 1 := ⟨f - 1, by omega⟩
    rcases flat_head (flds N (g + 1)) with e | ⟨r, e⟩
    · exfalso
      have := congrArg List.length e
      have h2 := pathL_len N (g + 1)
      unfold pathL at h2
      rw [if_neg h, e] at h2
      simp at h2
    · exact ⟨r, e⟩
theorem sw_path (N f : Nat) : Txt.startswith (mkS (pathL N f)) (Str.ofString "/") = true := by
  obtain ⟨r, e⟩ := pathL_head N f
  rw [ofS_slash, e]
  unfold Txt.startswith
  rw [StrLaws.subAt_eq]
  rw [mkS_len, mkS_len]
  simp [mkS]
section
variable {prog : Program} {w : World} {A : Around} {E : Value → Shared → Prop} {s : Shared} {h₀ : Heap} {L : Addr} {m : Str → Option Value} {env : Env}
theorem sc_trueF (F : Fr h₀ L s.heap m) {elt iter : Expr} {x : Str} {px : Pos} {scope : Scope} {cl : List (Str × Addr)} {pos : Pos} {Q : Value → Shared → Prop} {v1 v2 : Value} (hh : A.handled = none)
    (hclos : closureFor scope env = pure cl) (hcell : ∀ y ∈ scope.names, y.2 ≠ .cell) (hkind : scope.kind = .function)
    (hnames : ∀ y ∈ scope.names, y.2 = .local → scope.names.lookup y.1 = some .local) (hx : scope.names.lookup x = some .local)
    (h : wpAny (model prog w) A (eval iter env) (fun xv s₁ => ∃ T news, xv = .ref T ∧ Fr h₀ L s₁.heap m ∧ News h₀ L s₁.heap news ∧ (T, tpO [v1, v2]) ∈ news ∧
      ScTurn prog w A h₀ L m env elt x scope cl s₁ news v1 (stO0 (ledW w)) ∧ ScTurn prog w A h₀ L m env elt x scope cl s₁ news v2 (stO1 (ledW w)) ∧
      (∀ D h' tk, Fr h₀ L h' m → News h₀ L h' ((D, stO1 (ledW w)) :: news) → (∀ p ∈ news, p.1 < D) → Q (.ref D) { s₁ with heap := h', toks := tk })) E s)
    (hs : ∀ x, foldedSetIterable iter env x = pure x := by intro _; rfl) :
    wpAny (model prog w) A (eval (.SetComp elt [⟨.Name x px, iter, [], 0⟩] scope pos) env) Q E s :=
  sc_true hh hclos hcell hkind hnames hx h hs
theorem scEnd {I C D : Addr} {oI oC oD : Obj} {news : List (Addr × Obj)} {h' : Heap} {tk : Nat} {y : Value} (F : Fr h₀ L h' m) (N : News h₀ L h' ((I, oI) :: (C, oC) :: (D, oD) :: news)) (off : LCg.Off3 I C D news) (hy : y = .bool true) :
    LCg.CompEnd h₀ L m s I oI C oC D oD (fun nw => nw = news) (fun y _ => y = .bool true) y { s with heap := h', toks := tk } :=
  LCg.CompEnd.intro F N news (fun p hp => hp) off rfl hy
theorem unpack_setL {D : Addr} {news : List (Addr × Obj)} {Q : List Value → Shared → Prop} (hh : A.handled = none) (F : Fr h₀ L s.heap m) (N : News h₀ L s.heap news) (hm : (D, stO1 (ledW w)) ∈ news)
    (h : ∀ h', Fr h₀ L h' m → News h₀ L h' news → Q [.bool true] { s with heap := h' }) : wpAny (model prog w) A (unpackItems (.ref D) 1 none) Q E s := by
  refine unpackItems_set hh (N _ hm).1 fun h' hk => ?_
  have all : ∀ x o, s.heap.get? x = some o → h'.get? x = some o := fun x o e => hk x o (Nat.ne_of_lt (Heap.lt_size e)) e
  exact h h' (F.keeps all) (N.grown all)
theorem assign_set {D : Addr} {news : List (Addr × Obj)} {elt : Expr} {k : Nat} {pos : Pos} {Q : Unit → Shared → Prop} (hh : A.handled = none) (F : Fr h₀ L s.heap m) (N : News h₀ L s.heap news) (hm : (D, stO1 (ledW w)) ∈ news)
    (hs : assignEach [elt] env = [(false, assign elt env)])
    (h : ∀ h', Fr h₀ L h' m → News h₀ L h' news → wpAny (model prog w) A (assignInOrder [assign elt env] [.bool true]) Q E { s with heap := h' }) :
    wpAny (model prog w) A (assign (.Tuple [elt] k pos) env (.ref D)) Q E s := by
  rw [assign_Tuple]
  refine wpAny_bind (wpAny_standAt ?_)
  unfold unpack
  rw [hs]
  exact wpAny_bind (wpAny_holding (unpack_setL hh F N hm h))
variable {ct elt : Expr} {x : Str} {scope : Scope} {cl : List (Str × Addr)} {news : List (Addr × Obj)} {S : List (Addr × Obj) → Prop} {Fin' : List Value → List (Addr × Obj) → Prop}
/-- items kept by a test -/
theorem restT_keep (its : List Value) (p : Value → Bool)
    (turn : ∀ (i : Nat) (v : Value) I oI C oC D m₂ ys h tk (E' : Value → Shared → Prop), its[i]? = some v → LCg.NsObj oC m₂ → m₂ x = some v → Fr h₀ L h m → News h₀ L h ((I, oI) :: (C, oC) :: (D, LCg.lst ys) :: news) → LCg.Off3 I C D news → ((@Ne Nat I C) ∧ (@Ne Nat I D) ∧ (@Ne Nat C D)) →
      wpAny (model prog w) A (isTrue ct (compEnvC scope cl C env) (eval ct (compEnvC scope cl C env))) (fun ok s' => ok = p v ∧ if ok = true then
        wpAny (model prog w) A (eval elt (compEnvC scope cl C env)) (LCg.CompEnd h₀ L m { s with heap := h, toks := tk } I oI C oC D (LCg.lst ys) S (fun y news' => news' = news ∧ y = v)) E' s'
        else LCg.CompEnd h₀ L m { s with heap := h, toks := tk } I oI C oC D (LCg.lst ys) S (fun _ news' => news' = news ∧ True) Value.none s') E' { s with heap := h, toks := tk })
    (fin : Fin' (its.filter p) news) : LCt.CompRestT prog w A h₀ L m env ct elt x scope cl s S (fun i v => its.toArray[i]? = some v) Fin' its.toArray.size 0 [] news := by
  have key : ∀ (j i : Nat), i + j = its.length → LCt.CompRestT prog w A h₀ L m env ct elt x scope cl s S (fun i v => its.toArray[i]? = some v) Fin' j i ((its.take i).filter p) news := by
    intro j
    induction j with
    | zero => intro i hi; exact LCt.CompRestT.zero (by rw [List.take_of_length_le (by omega)]; exact fin)
    | succ j ih =>
      intro i hi
      refine LCt.CompRestT.succ ?_
      intro v I oI C oC D m₂ h tk E' hv hC hx F N off ne
      have hv2 : its[i]? = some v := by simpa using hv
      have ht : its.take (i + 1) = its.take i ++ [v] := by rw [List.take_add_one, hv2]; rfl
      have hn := ih (i + 1) (by omega)
      rw [ht, List.filter_append] at hn
      refine wpAny_mono (turn i v I oI C oC D m₂ _ h tk E' hv2 hC hx F N off ne) (fun ok s₂ hq => ?_) fun _ _ e => e
      obtain ⟨hok, hq⟩ := hq
      cases ok with
      | true =>
        simp only [if_true] at hq ⊢
        refine wpAny_mono hq (fun y s₃ hq => ?_) fun _ _ e => e
        obtain ⟨h', tk', nw, e, F', N', off', hS, hnw, hy⟩ := hq
        rw [hnw] at N' off' hS
        rw [List.filter_cons, ← hok] at hn
        rw [hy]
        exact ⟨h', tk', news, e, F', N', off', hS, hn⟩
      | false =>
        simp only [Bool.false_eq_true, if_false] at hq ⊢
        obtain ⟨h', tk', nw, e, F', N', off', hS, hnw, _⟩ := hq
        rw [hnw] at N' off' hS
        rw [List.filter_cons, ← hok] at hn
        simp only [Bool.false_eq_true, if_false, List.filter_nil, List.append_nil] at hn
        exact ⟨h', tk', news, e, F', N', off', hS, hn⟩
  rw [List.size_toArray]
  exact key its.length 0 (by omega)
/-- a text that is not empty -/
def notNil : Value → Bool
  | .str x _ => !x.cps.toList.isEmpty
  | _ => false
end
theorem five_at {B : Nat} {t0 t1 t2 t3 t4 : Tok} {i : Nat} {v : Value} (h : [Value.str (mkS []) t0, .str (mkS (fld B 3)) t1, .str (mkS (fld B 2)) t2, .str (mkS (fld B 1)) t3, .str (mkS (fld B 0)) t4][i]? = some v) :
    (∃ t, v = .str (mkS []) t) ∨ ∃ j t, v = .str (mkS (fld B j)) t := by
  have := List.mem_of_getElem? h
  simp only [List.mem_cons, List.not_mem_nil, or_false] at this
  rcases this with rfl | rfl | rfl | rfl | rfl
  · exact .inl ⟨_, rfl⟩
  all_goals exact .inr ⟨_, _, rfl⟩
theorem five_keep (B : Nat) (t0 t1 t2 t3 t4 : Tok) : [Value.str (mkS []) t0, .str (mkS (fld B 3)) t1, .str (mkS (fld B 2)) t2, .str (mkS (fld B 1)) t3, .str (mkS (fld B 0)) t4].filter notNil = [.str (mkS (fld B 3)) t1, .str (mkS (fld B 2)) t2, .str (mkS (fld B 1)) t3, .str (mkS (fld B 0)) t4] := rfl
theorem four_are (B : Nat) (t1 t2 t3 t4 : Tok) : StrsAre [Value.str (mkS (fld B 3)) t1, .str (mkS (fld B 2)) t2, .str (mkS (fld B 1)) t3, .str (mkS (fld B 0)) t4] ((flds B 4).map mkS) := .cons _ _ (.cons _ _ (.cons _ _ (.cons _ _ .nil)))
theorem compEnd_grow2 {h₀ : Heap} {L : Addr} {m : Str → Option Value} {s₁ : Shared} {I C D X : Addr} {oI oC oD oX : Obj} {news : List (Addr × Obj)} {S : List (Addr × Obj) → Prop} {rest : Value → List (Addr × Obj) → Prop} {y : Value} {h' : Heap} {tk : Nat}
    (F : Fr h₀ L h' m) (N : News h₀ L h' ((X, oX) :: (I, oI) :: (C, oC) :: (D, oD) :: news)) (hX : (@Ne Nat X I) ∧ (@Ne Nat X C) ∧ (@Ne Nat X D)) (off : LCg.Off3 I C D news) (hS : S ((X, oX) :: news)) (r : rest y ((X, oX) :: news)) :
    LCg.CompEnd h₀ L m s₁ I oI C oC D oD S rest y { s₁ with heap := h', toks := tk } := by
  refine LCg.CompEnd.intro F N ((X, oX) :: news) (fun p hp => ?_) ⟨hX, off⟩ hS r
  rcases List.mem_cons.mp hp with rfl | hp
  · exact List.mem_cons_of_mem _ List.mem_cons_self
  rcases List.mem_cons.mp hp with rfl | hp
  · exact List.mem_cons_of_mem _ (List.mem_cons_of_mem _ List.mem_cons_self)
  rcases List.mem_cons.mp hp with rfl | hp
  · exact List.mem_cons_of_mem _ (List.mem_cons_of_mem _ (List.mem_cons_of_mem _ List.mem_cons_self))
  rcases List.mem_cons.mp hp with rfl | hp
  · exact List.mem_cons_self
  · exact List.mem_cons_of_mem _ (List.mem_cons_of_mem _ (List.mem_cons_of_mem _ (List.mem_cons_of_mem _ hp)))
end Mine

namespace Mine
section
variable {prog : Program} {w : World} {A : Around} {E : Value → Shared → Prop} {s : Shared} {h₀ : Heap} {L : Addr} {m : Str → Option Value} {news : List (Addr × Obj)} {Q : Value → Shared → Prop}
theorem min_fst {X Y : Nat} {D a b : Addr} {c ca cb : Nat} {t1 t2 t3 t4 u1 u2 u3 u4 : Tok} (hh : A.handled = none) (hu : A.units + 8 < cLine) (F0 : Fr h₀ L s.heap m) (N : News h₀ L s.heap news)
    (hD : (D, lsO [.ref b, .ref a] c) ∈ news) (hb : (b, lsO [.str (mkS (fld Y 3)) u1, .str (mkS (fld Y 2)) u2, .str (mkS (fld Y 1)) u3, .str (mkS (fld Y 0)) u4] cb) ∈ news) (ha : (a, lsO [.str (mkS (fld X 3)) t1, .str (mkS (fld X 2)) t2, .str (mkS (fld X 1)) t3, .str (mkS (fld X 0)) t4] ca) ∈ news)
    (hx : lexN (flds X 4) (flds Y 4) = true)
    (h : ∀ h' tk, Fr h₀ L h' m → News h₀ L h' news → Q (.ref a) { s with heap := h', toks := tk }) :
    wpAny (model prog w) A (call (.builtin "min") [.ref D]) Q E s :=
  min_two hh hu F0 N hD hb ha (four_are X t1 t2 t3 t4) (four_are Y u1 u2 u3 u4) rfl fun h' tk F' N' => by rw [hx]; exact h h' tk F' N'
theorem min_snd {X Y : Nat} {D a b : Addr} {c ca cb : Nat} {t1 t2 t3 t4 u1 u2 u3 u4 : Tok} (hh : A.handled = none) (hu : A.units + 8 < cLine) (F0 : Fr h₀ L s.heap m) (N : News h₀ L s.heap news)
    (hD : (D, lsO [.ref b, .ref a] c) ∈ news) (hb : (b, lsO [.str (mkS (fld Y 3)) u1, .str (mkS (fld Y 2)) u2, .str (mkS (fld Y 1)) u3, .str (mkS (fld Y 0)) u4] cb) ∈ news) (ha : (a, lsO [.str (mkS (fld X 3)) t1, .str (mkS (fld X 2)) t2, .str (mkS (fld X 1)) t3, .str (mkS (fld X 0)) t4] ca) ∈ news)
    (hx : lexN (flds X 4) (flds Y 4) = false)
    (h : ∀ h' tk, Fr h₀ L h' m → News h₀ L h' news → Q (.ref b) { s with heap := h', toks := tk }) :
    wpAny (model prog w) A (call (.builtin "min") [.ref D]) Q E s :=
  min_two hh hu F0 N hD hb ha (four_are X t1 t2 t3 t4) (four_are Y u1 u2 u3 u4) rfl fun h' tk F' N' => by rw [hx]; exact h h' tk F' N'
theorem max_snd {X Y : Nat} {D a b : Addr} {c ca cb : Nat} {t1 t2 t3 t4 u1 u2 u3 u4 : Tok} (hh : A.handled = none) (hu : A.units + 8 < cLine) (F0 : Fr h₀ L s.heap m) (N : News h₀ L s.heap news)
    (hD : (D, lsO [.ref b, .ref a] c) ∈ news) (hb : (b, lsO [.str (mkS (fld Y 3)) u1, .str (mkS (fld Y 2)) u2, .str (mkS (fld Y 1)) u3, .str (mkS (fld Y 0)) u4] cb) ∈ news) (ha : (a, lsO [.str (mkS (fld X 3)) t1, .str (mkS (fld X 2)) t2, .str (mkS (fld X 1)) t3, .str (mkS (fld X 0)) t4] ca) ∈ news)
    (hx : lexG (flds X 4) (flds Y 4) = false)
    (h : ∀ h' tk, Fr h₀ L h' m → News h₀ L h' news → Q (.ref b) { s with heap := h', toks := tk }) :
    wpAny (model prog w) A (call (.builtin "max") [.ref D]) Q E s :=
  max_two hh hu F0 N hD hb ha (four_are X t1 t2 t3 t4) (four_are Y u1 u2 u3 u4) rfl fun h' tk F' N' => by rw [hx]; exact h h' tk F' N'
end
theorem lexN_self (l : List (List Nat)) : lexN l l = false := by
  induction l with
  | nil => rfl
  | cons x r ih => show (if x == x then lexN r r else _) = false; rw [beq_self_eq_true]; exact ih
theorem lexG_self (l : List (List Nat)) : lexG l l = false := by
  induction l with
  | nil => rfl
  | cons x r ih => show (if x == x then lexG r r else _) = false; rw [beq_self_eq_true]; exact ih
end Mine

namespace Mine
theorem unr_same {h₀ : Heap} {L : Addr} {I : Addr} {oe oi : Obj} {news : List (Addr × Obj)} {rest : (Str → Option Value) → List (Addr × Obj) → Prop} {s₁ : Shared} {h' : Heap} {tk : Nat} {m' : Str → Option Value}
    (F : Fr h₀ L h' m') (N : News h₀ L h' ((I + 1, oe) :: (I, oi) :: news)) (hI : ∀ p ∈ news, p.1 < I) (r : rest m' news) : UnrEndW h₀ L s₁ [(I + 1, oe), (I, oi)] rest { s₁ with heap := h', toks := tk } :=
  ⟨h', tk, m', news, rfl, F, N, fun p hp q hq e => by
    have h1 : @LT.lt Nat _ p.1 I := hI p hp
    simp only [List.mem_cons, List.not_mem_nil, or_false] at hq
    rcases hq with rfl | rfl
    · exact absurd e (Nat.ne_of_lt (Nat.lt_succ_of_lt h1))
    · exact absurd e (Nat.ne_of_lt h1), r⟩
end Mine

namespace Mine
/-- a folder by its number -/
def fF (q : Nat) : List Nat := [65 + q / 256 % 16, 65 + q / 16 % 16, 65 + q % 16]
theorem fld_fF (n j : Nat) : fld n j = fF (n / 4096 ^ j) := by
  have h : ∀ k, n / 16 ^ (3 * j + k) = n / 4096 ^ j / 16 ^ k := fun k => by
    rw [Nat.div_div_eq_div_mul, Nat.pow_add, Nat.pow_mul]
  have h0 := h 0
  have h1 := h 1
  have h2 := h 2
  simp only [Nat.add_zero, Nat.pow_zero, Nat.div_one] at h0
  unfold fld hx fF
  rw [h2, h1, h0]
theorem fF_eq {p q : Nat} : fF p = fF q ↔ p % 4096 = q % 4096 := by
  unfold fF
  simp only [List.cons.injEq, and_true]
  omega
theorem fF_lt {p q : Nat} : fF p < fF q ↔ p % 4096 < q % 4096 := by
  unfold fF
  simp only [List.cons_lt_cons_iff, List.not_lt_nil, and_false, or_false]
  omega
theorem flds4 (n : Nat) : flds n 4 = [fld n 3, fld n 2, fld n 1, fld n 0] := rfl
theorem fF_beq (p q : Nat) : (fF p == fF q) = decide (p % 4096 = q % 4096) := by
  rw [Bool.eq_iff_iff, beq_iff_eq, decide_eq_true_iff]; exact fF_eq
theorem lexN_flds {A B : Nat} (h : A < B) (hB : B < 2 ^ 48) : lexN (flds A 4) (flds B 4) = true := by
  rw [flds4, flds4]
  simp only [fld_fF, lexN, fF_beq, fF_lt, decide_eq_true_iff]
  split
  · split
    · split
      · split
        · exfalso; omega
        · simp only [decide_eq_true_iff]; omega
      · simp only [decide_eq_true_iff]; omega
    · simp only [decide_eq_true_iff]; omega
  · simp only [decide_eq_true_iff]; omega
theorem lexG_flds {A B : Nat} (h : A ≤ B) (hB : B < 2 ^ 48) : lexG (flds A 4) (flds B 4) = false := by
  rw [flds4, flds4]
  simp only [fld_fF, lexG, fF_beq, fF_lt, decide_eq_true_iff]
  split
  · split
    · split
      · split
        · rfl
        · simp only [decide_eq_false_iff_not]; omega
      · simp only [decide_eq_false_iff_not]; omega
    · simp only [decide_eq_false_iff_not]; omega
  · simp only [decide_eq_false_iff_not]; omega
theorem fld_iff {A B j : Nat} : fld A j = fld B j ↔ A / 4096 ^ j % 4096 = B / 4096 ^ j % 4096 := by
  rw [fld_fF, fld_fF, fF_eq]
theorem fld_shiftN (n k j : Nat) : fld (n / 4096 ^ k) j = fld n (k + j) := by
  rw [fld_fF, fld_fF, Nat.div_div_eq_div_mul, Nat.pow_add]
theorem sharedN_def (A B : Nat) : sharedN A B = (if A / 4096 ^ 0 = B / 4096 ^ 0 then 1 else 0) + (if A / 4096 ^ 1 = B / 4096 ^ 1 then 1 else 0) + (if A / 4096 ^ 2 = B / 4096 ^ 2 then 1 else 0) + (if A / 4096 ^ 3 = B / 4096 ^ 3 then 1 else 0) := by
  unfold sharedN
  show (([0, 1, 2, 3] : List Nat).filter _).length = _
  rw [← List.countP_eq_length_filter]
  simp only [List.countP_cons, List.countP_nil, decide_eq_true_iff]
  omega
theorem shared0 {A B : Nat} (h3 : ¬ fld A 3 = fld B 3) : sharedN A B = 0 := by
  rw [fld_iff] at h3
  rw [sharedN_def, if_neg (by omega), if_neg (by omega), if_neg (by omega), if_neg (by omega)]
theorem shared1 {A B : Nat} (hA : A < 2 ^ 48) (hB : B < 2 ^ 48) (h3 : fld A 3 = fld B 3) (h2 : ¬ fld A 2 = fld B 2) : sharedN A B = 1 := by
  rw [fld_iff] at h3 h2
  rw [sharedN_def, if_neg (by omega), if_neg (by omega), if_neg (by omega), if_pos (by omega)]
theorem shared2 {A B : Nat} (hA : A < 2 ^ 48) (hB : B < 2 ^ 48) (h3 : fld A 3 = fld B 3) (h2 : fld A 2 = fld B 2) (h1 : ¬ fld A 1 = fld B 1) : sharedN A B = 2 := by
  rw [fld_iff] at h3 h2 h1
  rw [sharedN_def, if_neg (by omega), if_neg (by omega), if_pos (by omega), if_pos (by omega)]
theorem shared3 {A B : Nat} (hA : A < 2 ^ 48) (hB : B < 2 ^ 48) (h3 : fld A 3 = fld B 3) (h2 : fld A 2 = fld B 2) (h1 : fld A 1 = fld B 1) (h0 : ¬ fld A 0 = fld B 0) : sharedN A B = 3 := by
  rw [fld_iff] at h3 h2 h1 h0
  rw [sharedN_def, if_neg (by omega), if_pos (by omega), if_pos (by omega), if_pos (by omega)]
theorem shared_all {A B : Nat} (hA : A < 2 ^ 48) (hB : B < 2 ^ 48) (h3 : fld A 3 = fld B 3) (h2 : fld A 2 = fld B 2) (h1 : fld A 1 = fld B 1) (h0 : fld A 0 = fld B 0) : A = B := by
  rw [fld_iff] at h3 h2 h1 h0
  omega
theorem shared4 (A : Nat) : sharedN A A = 4 := by
  rw [sharedN_def, if_pos rfl, if_pos rfl, if_pos rfl, if_pos rfl]
theorem cut0 (A : Nat) : flds (A / 4096 ^ (4 - 0)) 0 = [] := rfl
theorem cut1 (A : Nat) : flds (A / 4096 ^ (4 - 1)) 1 = [fld A 3] := by
  show [fld (A / 4096 ^ 3) 0] = _
  rw [fld_shiftN]
theorem cut2 (A : Nat) : flds (A / 4096 ^ (4 - 2)) 2 = [fld A 3, fld A 2] := by
  show [fld (A / 4096 ^ 2) 1, fld (A / 4096 ^ 2) 0] = _
  rw [fld_shiftN, fld_shiftN]
theorem cut3 (A : Nat) : flds (A / 4096 ^ (4 - 3)) 3 = [fld A 3, fld A 2, fld A 1] := by
  show [fld (A / 4096 ^ 1) 2, fld (A / 4096 ^ 1) 1, fld (A / 4096 ^ 1) 0] = _
  rw [fld_shiftN, fld_shiftN, fld_shiftN]
theorem cut4 (A : Nat) : flds (A / 4096 ^ (4 - 4)) 4 = [fld A 3, fld A 2, fld A 1, fld A 0] := by
  show [fld (A / 4096 ^ 0) 3, fld (A / 4096 ^ 0) 2, fld (A / 4096 ^ 0) 1, fld (A / 4096 ^ 0) 0] = _
  rw [fld_shiftN, fld_shiftN, fld_shiftN, fld_shiftN]
section
variable {prog : Program} {w : World} {A : Around} {E : Value → Shared → Prop} {s : Shared} {h₀ : Heap} {L : Addr} {news : List (Addr × Obj)} {x : Str} {t : Tok}
theorem item_lst {value slice : PySem.Expr} {D : Addr} {o : Obj} {vs : List Value} {n : Nat} {k : Int} {u : Tok} {v : Value} {Q : Value → Shared → Prop} (N : News h₀ L s.heap news) (hm : (D, o) ∈ news) (ho : o = Obj.mk (.type "list") none (.seq vs.toArray n) #[])
    (h0 : 0 ≤ k) (h1 : k < 2 ^ 63) (hx : vs[k.toNat]? = some v) (h : Q v s)
    (hs : subscripted slice false (.ref D) (.int k u) = operate [.ref D, .int k u] (getItem (.ref D) (.int k u)) := by with_unfolding_all rfl) (hg : ∀ r, letTemporaryGo value (.ref D) r = pure () := by intro _; with_unfolding_all rfl) :
    wpAny (model prog w) A (subscriptTail value slice (.ref D) (.int k u)) Q E s := by
  subst ho
  exact item_list (items := vs.toArray) ⟨_, (N _ hm).1, rfl, _, rfl⟩ h0 h1 (by simpa using hx) h hs hg
theorem join_cut {D : Addr} {o : Obj} {vs : List Value} {n : Nat} {ls : List (List Nat)} {q f : Nat} {Q : Value → Shared → Prop} (hc : flds q f = ls) (N : News h₀ L s.heap news) (hm : (D, o) ∈ news) (ho : o = Obj.mk (.type "list") none (.seq vs.toArray n) #[]) (hi : StrsAre vs (ls.map mkS)) (hf : f ≤ 4) (hx : x = mkS [47])
    (h : ∀ t' k, Q (.str (mkS (interS (flds q f))) t') { s with toks := k }) : wpAny (model prog w) A (call (.builtin "str.join") [.str x t, .ref D]) Q E s := by
  subst hc; subst hx; subst ho
  refine join_listW (ys := (flds q f).map mkS) (items := vs.toArray) ⟨_, (N _ hm).1, rfl, _, rfl⟩ hi (by rw [mkS_len]; decide) ?_ ?_
  · have : ∀ ls : List (List Nat), (∀ c ∈ ls, c.length = 3) → ((ls.map mkS).map (·.length)).sum = 3 * ls.length := by
      intro ls
      induction ls with
      | nil => intro _; rfl
      | cons c r ih =>
        intro h
        have h3 := h c List.mem_cons_self
        have := ih fun d hd => h d (List.mem_cons_of_mem _ hd)
        simp only [List.map_cons, List.sum_cons, List.length_cons]
        rw [this, mkS_len, h3]; omega
    rw [this _ fun c hc => (flds_ok q f c hc).1, List.length_map, flds_len]; omega
  · intro t' k
    have e : Txt.join (mkS [47]) ((flds q f).map mkS) = mkS (interS (flds q f)) := by
      unfold Txt.join
      rw [StrLaws.glued_eq_join, join_slash]
    rw [e]
    exact h _ _
end
end Mine

end
section
open Mine
local macro_rules | `(tactic| walk_at $s:str) => `(tactic| k_extra $s)
local macro_rules | `(tactic| cell_enter) => `(tactic| first
  | (refine' code_def ?k1 ?k2 ?k3 ?k4 ?k5 ?kA ?kF ?kK ?k6 ?k7 ?k8 ?k9 ?kB ?_ ?c2 ?c3 ?c4 ?c5; (case kA => exact rfl); (case kF => exact rfl); (case kK => assumption); (case k1 => k_asm); (case k2 => k_asm); (case k3 => k_asm); (case k4 => k_asm); (case k5 => k_asm); (case k6 => k_is); (case k7 => k_is); (case k8 => ktr_room); (case k9 => first | exact BindsTo.of_eq rfl | (refine' kp_binds ?kx ?ke; (case kx => k_in); (case ke => exact fun _ => rfl))); (case c5 => decide); (case kB => exact locs rfl); (case c2 => exact rfl); (case c3 => exact rfl); (case c4 => exact rfl); k_whole; intro g' L' h' FG' F' N' B' X' T'; (try dsimp only); (try k_lift B'); (try k_fold))
  | (refine' code_defC ?k1 ?k2 ?k3 ?k4 ?k5 ?kA ?kF ?kK ?k6 ?k7 ?k8 ?k9 ?kB ?kD ?_ ?c2 ?c3 ?c4; (case kA => exact rfl); (case kF => exact rfl); (case kK => assumption); (case k1 => k_asm); (case k2 => k_asm); (case k3 => k_asm); (case k4 => k_asm); (case k5 => k_asm); (case k6 => k_is); (case k7 => k_is); (case k8 => ktr_room); (case k9 => first | exact BindsTo.of_eq rfl | (refine' kp_binds ?kx ?ke; (case kx => k_in); (case ke => exact fun _ => rfl))); (case kB => exact rfl); (case kD => decide +kernel); (case c2 => exact rfl); (case c3 => exact rfl); (case c4 => exact rfl); k_whole; intro g' L' h' tk' cells' FG' F' N' Y' B' X' T' l1; (try k_lt l1); k_cells Y'; (try simp only [List.cons_append, List.nil_append] at N'); (try dsimp only); (try k_lift B'); (try k_fold))
  | (refine' kp_rest ?k1 ?k2 ?k3 ?k4 ?k5 ?kA ?kF ?kK ?k6 ?k7 ?k8 ?kV ?kP ?kG ?kB ?_ ?c2 ?c3 ?c4 ?c5; (case kA => exact rfl); (case kF => exact rfl); (case kK => assumption); (case k1 => k_asm); (case k2 => k_asm); (case k3 => k_asm); (case k4 => k_asm); (case k5 => k_asm); (case k6 => k_is); (case k7 => k_is); (case k8 => ktr_room); (case kV => first | exact rfl | kl_lit); (case kP => first | exact rfl | exact join_bind (by assumption)); (case kG => exact fun _ => rfl); (case kB => exact fun _ => locs rfl); (case c5 => decide); (case c2 => exact rfl); (case c3 => exact rfl); (case c4 => exact rfl); k_whole; intro D' g' L' h' l1 FG' F' N' B' X' T'; (try k_lt l1); (try dsimp only); (try k_lift B'); (try k_fold)))
local macro_rules | `(tactic| k_all) => `(tactic| first | exact lt_ne1 (by assumption) | exact lt_ne2 (by assumption) | exact lt_ne3 (by assumption))
namespace Mine
set_option maxHeartbeats 8000000 in
theorem c_get_sep (x : Str) (t : Tok) : Ct 145 1 True [.str x t] (fun t => .str (Str.ofString "/") t) := by
  have : Fill PySem.Challenge.rw_rt0031_01 Mine.hd.heap_39 := by k_fill; trivial
  w_top off
  k_with_none
  k_with "call builtin:issubclass" => ((k_here; k_dflt (refine' issub_pair ?zqk1 ?_; (case zqk1 => exact kto_N (by k_asm) (by k_mem)); k_whole; intro _; (try dsimp only))))
  k_with "call type:type" => ((k_here; (with_reducible show wpAny _ _ (call _ [Value.bytes _ _]) _ _ _); k_dflt (refine call_type_of (Tx := "bytes") rfl (by decide +kernel) ?_)))
  k_with "eval ListComp" => ((k_here; (with_reducible show wpAny _ _ (eval (Expr.ListComp _ [Comprehension.mk _ _ [] _] _ _) _) _ _ _); k_dflt (refine lc_gen (F₀ := by k_asm) (by with_unfolding_all rfl) (by decide) (by rfl) (by decide) (by rfl) ?_)))
  k_with "eval ListComp" => ((k_here; (with_reducible show wpAny _ _ (eval (Expr.ListComp _ [Comprehension.mk _ _ [_] _] _ _) _) _ _ _); k_dflt (refine lc_genT (F₀ := by k_asm) (by with_unfolding_all rfl) (by decide) (by rfl) (by decide) (by rfl) ?_)))
  k_with "exec Assign cons ListComp" => ((k_here; k_dflt (refine lc_genA (F₀ := by k_asm) (by rfl) (by with_unfolding_all rfl) (by with_unfolding_all rfl) (by decide) (by rfl) (by decide) (by rfl) (by rfl) (by rfl) ?_)))
  k_with "CompEnd" => ((refine compEnd_at (by k_asm) (by k_asm) (by intro p9 hp9; (repeat (first | exact hp9 | refine List.mem_cons_of_mem _ ?_))) (by first | assumption | (simp only [LCg.Off3, and_true]; assumption) | lcg_off) (by first | exact trivial | assumption | exact Or.inr ⟨_, by k_mem, rfl, _, rfl⟩) ?_))
  k_with "call builtin:chr" => ((k_here; refine chr_byte ?_; intro t9; (try dsimp only)))
  k_with "call builtin:str.join" => ((k_here; (with_reducible show wpAny _ _ (call (Value.builtin "str.join") [Value.str _ _, Value.ref _]) _ _ _); k_dflt (refine' join_led ?zqN ?zqm ?zqi ?zqs ?zqw ?_; (case zqN => k_asm); (case zqm => k_mem); (case zqi => assumption); (case zqs => decide); (case zqw => first | assumption | omega); k_whole; intro t9 k9; (try dsimp only))))
  k_with "exec For Name Name cons nil" => ((k_here; (rename Fr _ _ _ _ => lF'); (with_unfolding_all refine' For_invVF lF' ?zqk1 ?zqk2 ?_; (case zqk1 => exact rfl); (case zqk2 => exact rfl); k_whole)))
  k_with "call builtin:str.join" => ((k_here; (with_reducible show wpAny _ _ (call (Value.builtin "str.join") [Value.str _ _, Value.ref _]) _ _ _); k_dflt (refine' join_chars_led ?zqN ?zqm ?zqi ?zqw ?zqx ?_; (case zqN => k_asm); (case zqm => k_mem); (case zqi => assumption); (case zqw => first | assumption | omega | ((try simp only [List.length_append, List.length_replicate, List.length_cons, List.length_nil]); omega)); (case zqx => first | with_reducible exact ofS_slash | with_reducible exact ofS_A | with_reducible exact ofS_nil | with_reducible exact ofS_dot | with_reducible exact ofS_hex | with_reducible exact ofS_b64 | with_reducible exact mkS_rfl _); k_whole; intro t9 k9; (try dsimp only))))
  k_with "call builtin:len" => ((k_here; (with_reducible show wpAny _ _ (call _ [Value.str _ _]) _ _ _); k_dflt (refine' len_mk ?zqx ?zql ?_; (case zqx => first | with_reducible exact ofS_slash | with_reducible exact ofS_A | with_reducible exact ofS_nil | with_reducible exact ofS_dot | with_reducible exact ofS_hex | with_reducible exact ofS_b64 | with_reducible exact mkS_rfl _); (case zql => first | assumption | omega | ((try simp only [List.length_append, List.length_replicate, List.length_cons, List.length_nil]); omega)); k_whole; intro t9 k9; (try dsimp only))))
  k_with "truthy str" => ((k_here; k_dflt (refine' truthy_mk ?zqx ?zql ?_; (case zqx => first | with_reducible exact ofS_slash | with_reducible exact ofS_A | with_reducible exact ofS_nil | with_reducible exact ofS_dot | with_reducible exact ofS_hex | with_reducible exact ofS_b64 | with_reducible exact mkS_rfl _); (case zql => first | assumption | omega | ((try simp only [List.length_append, List.length_replicate, List.length_cons, List.length_nil]); omega)); k_whole; intro k9; (try dsimp only))))
  k_with "binaryOp Add str str" => ((k_here; k_dflt (refine' add_mk ?zqx ?zqy ?zql ?_; (case zqx => first | with_reducible exact ofS_slash | with_reducible exact ofS_A | with_reducible exact ofS_nil | with_reducible exact ofS_dot | with_reducible exact ofS_hex | with_reducible exact ofS_b64 | with_reducible exact mkS_rfl _); (case zqy => first | with_reducible exact ofS_slash | with_reducible exact ofS_A | with_reducible exact ofS_nil | with_reducible exact ofS_dot | with_reducible exact ofS_hex | with_reducible exact ofS_b64 | with_reducible exact mkS_rfl _); (case zql => first | assumption | omega | ((try simp only [List.length_append, List.length_replicate, List.length_cons, List.length_nil]); omega)); k_whole; intro t9 k9; (try dsimp only))))
  k_with "inplaceOp Add str str" => ((k_here; k_dflt (refine' iadd_mk ?zqx ?zqy ?zql ?_; (case zqx => first | with_reducible exact ofS_slash | with_reducible exact ofS_A | with_reducible exact ofS_nil | with_reducible exact ofS_dot | with_reducible exact ofS_hex | with_reducible exact ofS_b64 | with_reducible exact mkS_rfl _); (case zqy => first | with_reducible exact ofS_slash | with_reducible exact ofS_A | with_reducible exact ofS_nil | with_reducible exact ofS_dot | with_reducible exact ofS_hex | with_reducible exact ofS_b64 | with_reducible exact mkS_rfl _); (case zql => first | assumption | omega | ((try simp only [List.length_append, List.length_replicate, List.length_cons, List.length_nil]); omega)); k_whole; intro t9 k9; (try dsimp only))))
  k_with "binaryOp Mult str int" => ((k_here; k_dflt (refine' mul_mk ?zqx ?zqa ?zqb ?_; (case zqx => first | with_reducible exact ofS_slash | with_reducible exact ofS_A | with_reducible exact ofS_nil | with_reducible exact ofS_dot | with_reducible exact ofS_hex | with_reducible exact ofS_b64 | with_reducible exact mkS_rfl _); (case zqa => first | assumption | omega | ((try simp only [List.length_append, List.length_replicate, List.length_cons, List.length_nil]); omega)); (case zqb => first | assumption | omega | ((try simp only [List.length_append, List.length_replicate, List.length_cons, List.length_nil]); omega)); k_whole; intro t9 k9; (try dsimp only))))
  k_with "compareOp Eq str str" => ((k_here; k_dflt (refine' eq_mk ?zqx ?zqy ?_; (case zqx => first | with_reducible exact ofS_slash | with_reducible exact ofS_A | with_reducible exact ofS_nil | with_reducible exact ofS_dot | with_reducible exact ofS_hex | with_reducible exact ofS_b64 | with_reducible exact mkS_rfl _); (case zqy => first | with_reducible exact ofS_slash | with_reducible exact ofS_A | with_reducible exact ofS_nil | with_reducible exact ofS_dot | with_reducible exact ofS_hex | with_reducible exact ofS_b64 | with_reducible exact mkS_rfl _); k_whole)))
  k_with "subscriptTail Name Slice str ref" => ((k_here; (with_reducible rename Fr _ _ _ _ => F'); (with_reducible rename News _ _ _ _ => N'); first
    | ((refine slice_ss (s := ⟨_, _, _, _, _⟩) F' N' (by first | with_reducible exact ofS_slash | with_reducible exact ofS_A | with_reducible exact ofS_nil | with_reducible exact ofS_dot | with_reducible exact ofS_hex | with_reducible exact ofS_b64 | with_reducible exact mkS_rfl _) (by first | assumption | omega | ((try simp only [List.length_append, List.length_replicate, List.length_cons, List.length_nil]); omega)) (by first | assumption | omega | ((try simp only [List.length_append, List.length_replicate, List.length_cons, List.length_nil]); omega)) (by first | assumption | omega | ((try simp only [List.length_append, List.length_replicate, List.length_cons, List.length_nil]); omega)) ?_); intro _ _ _ _ _; (try dsimp only))
    | ((refine slice_ns (s := ⟨_, _, _, _, _⟩) F' N' (by first | with_reducible exact ofS_slash | with_reducible exact ofS_A | with_reducible exact ofS_nil | with_reducible exact ofS_dot | with_reducible exact ofS_hex | with_reducible exact ofS_b64 | with_reducible exact mkS_rfl _) (by first | assumption | omega | ((try simp only [List.length_append, List.length_replicate, List.length_cons, List.length_nil]); omega)) (by first | assumption | omega | ((try simp only [List.length_append, List.length_replicate, List.length_cons, List.length_nil]); omega)) ?_); intro _ _ _ _ _; (try dsimp only))
    | ((refine slice_sn (s := ⟨_, _, _, _, _⟩) F' N' (by first | with_reducible exact ofS_slash | with_reducible exact ofS_A | with_reducible exact ofS_nil | with_reducible exact ofS_dot | with_reducible exact ofS_hex | with_reducible exact ofS_b64 | with_reducible exact mkS_rfl _) (by first | assumption | omega | ((try simp only [List.length_append, List.length_replicate, List.length_cons, List.length_nil]); omega)) (by first | assumption | omega | ((try simp only [List.length_append, List.length_replicate, List.length_cons, List.length_nil]); omega)) ?_); intro _ _ _ _ _; (try dsimp only))))
  k_with "call ref" => ((k_here; (with_reducible show wpAny _ _ (call _ (_ :: (_ ++ []))) _ _ _); rw [List.append_nil]))
  k_with "StarOf ref" => ((k_here; k_dflt (refine' star_seq ?zqk1 ?zqk2 ?zqm ?zqc ?zqd ?zqT ?zqe ?zqz ?_; (case zqk1 => k_asm); (case zqk2 => k_asm); (case zqm => k_mem); (case zqc => exact rfl); (case zqd => exact rfl); (case zqT => first | exact .inl rfl | exact .inr rfl); (case zqe => exact rfl); (case zqz => assumption); k_whole); intro h' F' N'; (try k_sweep); try dsimp only [List.nil_append, List.cons_append]))
  k_with "subscriptTail" => ((k_here; (with_reducible show wpAny _ _ (subscriptTail _ _ (Value.str _ _) (Value.int _ _)) _ _ _); k_dflt (refine' tail_of_ItemOn (item_mk ?zqx ?zql ?zqa ?zqb ?_) ?zqhs ?zqht; (case zqx => first | with_reducible exact ofS_slash | with_reducible exact ofS_A | with_reducible exact ofS_nil | with_reducible exact ofS_dot | with_reducible exact ofS_hex | with_reducible exact ofS_b64 | with_reducible exact mkS_rfl _); (case zql => decide); (case zqa => exact fmod_lo (by decide)); (case zqb => exact fmod_hi (by decide) (by decide)); (case zqhs => with_unfolding_all rfl); (case zqht => intro _; with_unfolding_all rfl); intro t9 k9; (try dsimp only))))
  k_with "binaryOp FloorDiv int int" => ((k_here; (with_reducible show wpAny _ _ (binaryOp _ _ (Value.int (_ ^ _) _)) _ _ _); refine div_pow (by decide) (by decide) (by omega) ?_))
  k_with "compareOp NotEq str str" => ((k_here; k_dflt (refine' ne_mk ?zqx ?zqy ?_; (case zqx => first | with_reducible exact ofS_slash | with_reducible exact ofS_A | with_reducible exact ofS_nil | with_reducible exact ofS_dot | with_reducible exact ofS_hex | with_reducible exact ofS_b64 | with_reducible exact mkS_rfl _); (case zqy => first | with_reducible exact ofS_slash | with_reducible exact ofS_A | with_reducible exact ofS_nil | with_reducible exact ofS_dot | with_reducible exact ofS_hex | with_reducible exact ofS_b64 | with_reducible exact mkS_rfl _); k_whole)))
  k_with "binaryOp Pow int int" => ((k_here; refine pow_int_small (by omega) (by omega) (by decide) ?_))
  unfold Ct; intros; rename_i hpre hd hu hret
  refine wpAny_call ?_
  k_dflt cell_enter
  repeat' (first | (k_unfold; (try dsimp only)) | (walk1) | (dsimp only; walk1) | (leave1; walk_say "STEP leave1"; try dsimp only) | fail "no step")
  all_goals exact hret _ _ _ (by k_asm) (by first | k_asm | (refine' cb_drop ?cbN ?cbS; (case cbN => assumption); (case cbS => (intro p9 hp9; (repeat (first | exact hp9 | refine List.mem_cons_of_mem _ ?_))))))
end Mine
namespace Mine
set_option maxHeartbeats 8000000 in
theorem c_truth (x : Bool) : Ct 42 1 True [.bool x] (fun _ => .bool x) := by
  have : Fill PySem.Challenge.rw_rt0031_01 Mine.hd.heap_39 := by k_fill; trivial
  w_top off
  k_with_none
  k_with "call builtin:issubclass" => ((k_here; k_dflt (refine' issub_pair ?zqk1 ?_; (case zqk1 => exact kto_N (by k_asm) (by k_mem)); k_whole; intro _; (try dsimp only))))
  k_with "call type:type" => ((k_here; (with_reducible show wpAny _ _ (call _ [Value.bytes _ _]) _ _ _); k_dflt (refine call_type_of (Tx := "bytes") rfl (by decide +kernel) ?_)))
  k_with "eval ListComp" => ((k_here; (with_reducible show wpAny _ _ (eval (Expr.ListComp _ [Comprehension.mk _ _ [] _] _ _) _) _ _ _); k_dflt (refine lc_gen (F₀ := by k_asm) (by with_unfolding_all rfl) (by decide) (by rfl) (by decide) (by rfl) ?_)))
  k_with "eval ListComp" => ((k_here; (with_reducible show wpAny _ _ (eval (Expr.ListComp _ [Comprehension.mk _ _ [_] _] _ _) _) _ _ _); k_dflt (refine lc_genT (F₀ := by k_asm) (by with_unfolding_all rfl) (by decide) (by rfl) (by decide) (by rfl) ?_)))
  k_with "exec Assign cons ListComp" => ((k_here; k_dflt (refine lc_genA (F₀ := by k_asm) (by rfl) (by with_unfolding_all rfl) (by with_unfolding_all rfl) (by decide) (by rfl) (by decide) (by rfl) (by rfl) (by rfl) ?_)))
  k_with "CompEnd" => ((refine compEnd_at (by k_asm) (by k_asm) (by intro p9 hp9; (repeat (first | exact hp9 | refine List.mem_cons_of_mem _ ?_))) (by first | assumption | (simp only [LCg.Off3, and_true]; assumption) | lcg_off) (by first | exact trivial | assumption | exact Or.inr ⟨_, by k_mem, rfl, _, rfl⟩) ?_))
  k_with "call builtin:chr" => ((k_here; refine chr_byte ?_; intro t9; (try dsimp only)))
  k_with "call builtin:str.join" => ((k_here; (with_reducible show wpAny _ _ (call (Value.builtin "str.join") [Value.str _ _, Value.ref _]) _ _ _); k_dflt (refine' join_led ?zqN ?zqm ?zqi ?zqs ?zqw ?_; (case zqN => k_asm); (case zqm => k_mem); (case zqi => assumption); (case zqs => decide); (case zqw => first | assumption | omega); k_whole; intro t9 k9; (try dsimp only))))
  k_with "exec For Name Name cons nil" => ((k_here; (rename Fr _ _ _ _ => lF'); (with_unfolding_all refine' For_invVF lF' ?zqk1 ?zqk2 ?_; (case zqk1 => exact rfl); (case zqk2 => exact rfl); k_whole)))
  k_with "call builtin:str.join" => ((k_here; (with_reducible show wpAny _ _ (call (Value.builtin "str.join") [Value.str _ _, Value.ref _]) _ _ _); k_dflt (refine' join_chars_led ?zqN ?zqm ?zqi ?zqw ?zqx ?_; (case zqN => k_asm); (case zqm => k_mem); (case zqi => assumption); (case zqw => first | assumption | omega | ((try simp only [List.length_append, List.length_replicate, List.length_cons, List.length_nil]); omega)); (case zqx => first | with_reducible exact ofS_slash | with_reducible exact ofS_A | with_reducible exact ofS_nil | with_reducible exact ofS_dot | with_reducible exact ofS_hex | with_reducible exact ofS_b64 | with_reducible exact mkS_rfl _); k_whole; intro t9 k9; (try dsimp only))))
  k_with "call builtin:len" => ((k_here; (with_reducible show wpAny _ _ (call _ [Value.str _ _]) _ _ _); k_dflt (refine' len_mk ?zqx ?zql ?_; (case zqx => first | with_reducible exact ofS_slash | with_reducible exact ofS_A | with_reducible exact ofS_nil | with_reducible exact ofS_dot | with_reducible exact ofS_hex | with_reducible exact ofS_b64 | with_reducible exact mkS_rfl _); (case zql => first | assumption | omega | ((try simp only [List.length_append, List.length_replicate, List.length_cons, List.length_nil]); omega)); k_whole; intro t9 k9; (try dsimp only))))
  k_with "truthy str" => ((k_here; k_dflt (refine' truthy_mk ?zqx ?zql ?_; (case zqx => first | with_reducible exact ofS_slash | with_reducible exact ofS_A | with_reducible exact ofS_nil | with_reducible exact ofS_dot | with_reducible exact ofS_hex | with_reducible exact ofS_b64 | with_reducible exact mkS_rfl _); (case zql => first | assumption | omega | ((try simp only [List.length_append, List.length_replicate, List.length_cons, List.length_nil]); omega)); k_whole; intro k9; (try dsimp only))))
  k_with "binaryOp Add str str" => ((k_here; k_dflt (refine' add_mk ?zqx ?zqy ?zql ?_; (case zqx => first | with_reducible exact ofS_slash | with_reducible exact ofS_A | with_reducible exact ofS_nil | with_reducible exact ofS_dot | with_reducible exact ofS_hex | with_reducible exact ofS_b64 | with_reducible exact mkS_rfl _); (case zqy => first | with_reducible exact ofS_slash | with_reducible exact ofS_A | with_reducible exact ofS_nil | with_reducible exact ofS_dot | with_reducible exact ofS_hex | with_reducible exact ofS_b64 | with_reducible exact mkS_rfl _); (case zql => first | assumption | omega | ((try simp only [List.length_append, List.length_replicate, List.length_cons, List.length_nil]); omega)); k_whole; intro t9 k9; (try dsimp only))))
  k_with "inplaceOp Add str str" => ((k_here; k_dflt (refine' iadd_mk ?zqx ?zqy ?zql ?_; (case zqx => first | with_reducible exact ofS_slash | with_reducible exact ofS_A | with_reducible exact ofS_nil | with_reducible exact ofS_dot | with_reducible exact ofS_hex | with_reducible exact ofS_b64 | with_reducible exact mkS_rfl _); (case zqy => first | with_reducible exact ofS_slash | with_reducible exact ofS_A | with_reducible exact ofS_nil | with_reducible exact ofS_dot | with_reducible exact ofS_hex | with_reducible exact ofS_b64 | with_reducible exact mkS_rfl _); (case zql => first | assumption | omega | ((try simp only [List.length_append, List.length_replicate, List.length_cons, List.length_nil]); omega)); k_whole; intro t9 k9; (try dsimp only))))
  k_with "binaryOp Mult str int" => ((k_here; k_dflt (refine' mul_mk ?zqx ?zqa ?zqb ?_; (case zqx => first | with_reducible exact ofS_slash | with_reducible exact ofS_A | with_reducible exact ofS_nil | with_reducible exact ofS_dot | with_reducible exact ofS_hex | with_reducible exact ofS_b64 | with_reducible exact mkS_rfl _); (case zqa => first | assumption | omega | ((try simp only [List.length_append, List.length_replicate, List.length_cons, List.length_nil]); omega)); (case zqb => first | assumption | omega | ((try simp only [List.length_append, List.length_replicate, List.length_cons, List.length_nil]); omega)); k_whole; intro t9 k9; (try dsimp only))))
  k_with "compareOp Eq str str" => ((k_here; k_dflt (refine' eq_mk ?zqx ?zqy ?_; (case zqx => first | with_reducible exact ofS_slash | with_reducible exact ofS_A | with_reducible exact ofS_nil | with_reducible exact ofS_dot | with_reducible exact ofS_hex | with_reducible exact ofS_b64 | with_reducible exact mkS_rfl _); (case zqy => first | with_reducible exact ofS_slash | with_reducible exact ofS_A | with_reducible exact ofS_nil | with_reducible exact ofS_dot | with_reducible exact ofS_hex | with_reducible exact ofS_b64 | with_reducible exact mkS_rfl _); k_whole)))
  k_with "subscriptTail Name Slice str ref" => ((k_here; (with_reducible rename Fr _ _ _ _ => F'); (with_reducible rename News _ _ _ _ => N'); first
    | ((refine slice_ss (s := ⟨_, _, _, _, _⟩) F' N' (by first | with_reducible exact ofS_slash | with_reducible exact ofS_A | with_reducible exact ofS_nil | with_reducible exact ofS_dot | with_reducible exact ofS_hex | with_reducible exact ofS_b64 | with_reducible exact mkS_rfl _) (by first | assumption | omega | ((try simp only [List.length_append, List.length_replicate, List.length_cons, List.length_nil]); omega)) (by first | assumption | omega | ((try simp only [List.length_append, List.length_replicate, List.length_cons, List.length_nil]); omega)) (by first | assumption | omega | ((try simp only [List.length_append, List.length_replicate, List.length_cons, List.length_nil]); omega)) ?_); intro _ _ _ _ _; (try dsimp only))
    | ((refine slice_ns (s := ⟨_, _, _, _, _⟩) F' N' (by first | with_reducible exact ofS_slash | with_reducible exact ofS_A | with_reducible exact ofS_nil | with_reducible exact ofS_dot | with_reducible exact ofS_hex | with_reducible exact ofS_b64 | with_reducible exact mkS_rfl _) (by first | assumption | omega | ((try simp only [List.length_append, List.length_replicate, List.length_cons, List.length_nil]); omega)) (by first | assumption | omega | ((try simp only [List.length_append, List.length_replicate, List.length_cons, List.length_nil]); omega)) ?_); intro _ _ _ _ _; (try dsimp only))
    | ((refine slice_sn (s := ⟨_, _, _, _, _⟩) F' N' (by first | with_reducible exact ofS_slash | with_reducible exact ofS_A | with_reducible exact ofS_nil | with_reducible exact ofS_dot | with_reducible exact ofS_hex | with_reducible exact ofS_b64 | with_reducible exact mkS_rfl _) (by first | assumption | omega | ((try simp only [List.length_append, List.length_replicate, List.length_cons, List.length_nil]); omega)) (by first | assumption | omega | ((try simp only [List.length_append, List.length_replicate, List.length_cons, List.length_nil]); omega)) ?_); intro _ _ _ _ _; (try dsimp only))))
  k_with "call ref" => ((k_here; (with_reducible show wpAny _ _ (call _ (_ :: (_ ++ []))) _ _ _); rw [List.append_nil]))
  k_with "StarOf ref" => ((k_here; k_dflt (refine' star_seq ?zqk1 ?zqk2 ?zqm ?zqc ?zqd ?zqT ?zqe ?zqz ?_; (case zqk1 => k_asm); (case zqk2 => k_asm); (case zqm => k_mem); (case zqc => exact rfl); (case zqd => exact rfl); (case zqT => first | exact .inl rfl | exact .inr rfl); (case zqe => exact rfl); (case zqz => assumption); k_whole); intro h' F' N'; (try k_sweep); try dsimp only [List.nil_append, List.cons_append]))
  k_with "subscriptTail" => ((k_here; (with_reducible show wpAny _ _ (subscriptTail _ _ (Value.str _ _) (Value.int _ _)) _ _ _); k_dflt (refine' tail_of_ItemOn (item_mk ?zqx ?zql ?zqa ?zqb ?_) ?zqhs ?zqht; (case zqx => first | with_reducible exact ofS_slash | with_reducible exact ofS_A | with_reducible exact ofS_nil | with_reducible exact ofS_dot | with_reducible exact ofS_hex | with_reducible exact ofS_b64 | with_reducible exact mkS_rfl _); (case zql => decide); (case zqa => exact fmod_lo (by decide)); (case zqb => exact fmod_hi (by decide) (by decide)); (case zqhs => with_unfolding_all rfl); (case zqht => intro _; with_unfolding_all rfl); intro t9 k9; (try dsimp only))))
  k_with "binaryOp FloorDiv int int" => ((k_here; (with_reducible show wpAny _ _ (binaryOp _ _ (Value.int (_ ^ _) _)) _ _ _); refine div_pow (by decide) (by decide) (by omega) ?_))
  k_with "compareOp NotEq str str" => ((k_here; k_dflt (refine' ne_mk ?zqx ?zqy ?_; (case zqx => first | with_reducible exact ofS_slash | with_reducible exact ofS_A | with_reducible exact ofS_nil | with_reducible exact ofS_dot | with_reducible exact ofS_hex | with_reducible exact ofS_b64 | with_reducible exact mkS_rfl _); (case zqy => first | with_reducible exact ofS_slash | with_reducible exact ofS_A | with_reducible exact ofS_nil | with_reducible exact ofS_dot | with_reducible exact ofS_hex | with_reducible exact ofS_b64 | with_reducible exact mkS_rfl _); k_whole)))
  k_with "binaryOp Pow int int" => ((k_here; refine pow_int_small (by omega) (by omega) (by decide) ?_))
  unfold Ct; intros; rename_i hpre hd hu hret
  refine wpAny_call ?_
  k_dflt cell_enter
  repeat' (first | (k_unfold; (try dsimp only)) | (walk1) | (dsimp only; walk1) | (leave1; walk_say "STEP leave1"; try dsimp only) | fail "no step")
  all_goals first | ((have hx9 : x = true := (by assumption)); subst hx9; exact hret 0 _ _ (by k_asm) (by first | k_asm | (refine' cb_drop ?cbN ?cbS; (case cbN => assumption); (case cbS => (intro p9 hp9; (repeat (first | exact hp9 | refine List.mem_cons_of_mem _ ?_))))))) | ((have hx9 : x = false := (by assumption)); subst hx9; exact hret 0 _ _ (by k_asm) (by first | k_asm | (refine' cb_drop ?cbN ?cbS; (case cbN => assumption); (case cbS => (intro p9 hp9; (repeat (first | exact hp9 | refine List.mem_cons_of_mem _ ?_))))))) | (exact hret 0 _ _ (by k_asm) (by first | k_asm | (refine' cb_drop ?cbN ?cbS; (case cbN => assumption); (case cbS => (intro p9 hp9; (repeat (first | exact hp9 | refine List.mem_cons_of_mem _ ?_)))))))
end Mine
namespace Mine
set_option maxHeartbeats 8000000 in
theorem c_fspath (x : Str) (t : Tok) : Ct 131 1 True [.str x t] (fun _ => .str x t) := by
  have : Fill PySem.Challenge.rw_rt0031_01 Mine.hd.heap_39 := by k_fill; trivial
  w_top off
  k_with_none
  k_with "call builtin:issubclass" => ((k_here; k_dflt (refine' issub_pair ?zqk1 ?_; (case zqk1 => exact kto_N (by k_asm) (by k_mem)); k_whole; intro _; (try dsimp only))))
  k_with "call type:type" => ((k_here; (with_reducible show wpAny _ _ (call _ [Value.bytes _ _]) _ _ _); k_dflt (refine call_type_of (Tx := "bytes") rfl (by decide +kernel) ?_)))
  k_with "eval ListComp" => ((k_here; (with_reducible show wpAny _ _ (eval (Expr.ListComp _ [Comprehension.mk _ _ [] _] _ _) _) _ _ _); k_dflt (refine lc_gen (F₀ := by k_asm) (by with_unfolding_all rfl) (by decide) (by rfl) (by decide) (by rfl) ?_)))
  k_with "eval ListComp" => ((k_here; (with_reducible show wpAny _ _ (eval (Expr.ListComp _ [Comprehension.mk _ _ [_] _] _ _) _) _ _ _); k_dflt (refine lc_genT (F₀ := by k_asm) (by with_unfolding_all rfl) (by decide) (by rfl) (by decide) (by rfl) ?_)))
  k_with "exec Assign cons ListComp" => ((k_here; k_dflt (refine lc_genA (F₀ := by k_asm) (by rfl) (by with_unfolding_all rfl) (by with_unfolding_all rfl) (by decide) (by rfl) (by decide) (by rfl) (by rfl) (by rfl) ?_)))
  k_with "CompEnd" => ((refine compEnd_at (by k_asm) (by k_asm) (by intro p9 hp9; (repeat (first | exact hp9 | refine List.mem_cons_of_mem _ ?_))) (by first | assumption | (simp only [LCg.Off3, and_true]; assumption) | lcg_off) (by first | exact trivial | assumption | exact Or.inr ⟨_, by k_mem, rfl, _, rfl⟩) ?_))
  k_with "call builtin:chr" => ((k_here; refine chr_byte ?_; intro t9; (try dsimp only)))
  k_with "call builtin:str.join" => ((k_here; (with_reducible show wpAny _ _ (call (Value.builtin "str.join") [Value.str _ _, Value.ref _]) _ _ _); k_dflt (refine' join_led ?zqN ?zqm ?zqi ?zqs ?zqw ?_; (case zqN => k_asm); (case zqm => k_mem); (case zqi => assumption); (case zqs => decide); (case zqw => first | assumption | omega); k_whole; intro t9 k9; (try dsimp only))))
  k_with "exec For Name Name cons nil" => ((k_here; (rename Fr _ _ _ _ => lF'); (with_unfolding_all refine' For_invVF lF' ?zqk1 ?zqk2 ?_; (case zqk1 => exact rfl); (case zqk2 => exact rfl); k_whole)))
  k_with "call builtin:str.join" => ((k_here; (with_reducible show wpAny _ _ (call (Value.builtin "str.join") [Value.str _ _, Value.ref _]) _ _ _); k_dflt (refine' join_chars_led ?zqN ?zqm ?zqi ?zqw ?zqx ?_; (case zqN => k_asm); (case zqm => k_mem); (case zqi => assumption); (case zqw => first | assumption | omega | ((try simp only [List.length_append, List.length_replicate, List.length_cons, List.length_nil]); omega)); (case zqx => first | with_reducible exact ofS_slash | with_reducible exact ofS_A | with_reducible exact ofS_nil | with_reducible exact ofS_dot | with_reducible exact ofS_hex | with_reducible exact ofS_b64 | with_reducible exact mkS_rfl _); k_whole; intro t9 k9; (try dsimp only))))
  k_with "call builtin:len" => ((k_here; (with_reducible show wpAny _ _ (call _ [Value.str _ _]) _ _ _); k_dflt (refine' len_mk ?zqx ?zql ?_; (case zqx => first | with_reducible exact ofS_slash | with_reducible exact ofS_A | with_reducible exact ofS_nil | with_reducible exact ofS_dot | with_reducible exact ofS_hex | with_reducible exact ofS_b64 | with_reducible exact mkS_rfl _); (case zql => first | assumption | omega | ((try simp only [List.length_append, List.length_replicate, List.length_cons, List.length_nil]); omega)); k_whole; intro t9 k9; (try dsimp only))))
  k_with "truthy str" => ((k_here; k_dflt (refine' truthy_mk ?zqx ?zql ?_; (case zqx => first | with_reducible exact ofS_slash | with_reducible exact ofS_A | with_reducible exact ofS_nil | with_reducible exact ofS_dot | with_reducible exact ofS_hex | with_reducible exact ofS_b64 | with_reducible exact mkS_rfl _); (case zql => first | assumption | omega | ((try simp only [List.length_append, List.length_replicate, List.length_cons, List.length_nil]); omega)); k_whole; intro k9; (try dsimp only))))
  k_with "binaryOp Add str str" => ((k_here; k_dflt (refine' add_mk ?zqx ?zqy ?zql ?_; (case zqx => first | with_reducible exact ofS_slash | with_reducible exact ofS_A | with_reducible exact ofS_nil | with_reducible exact ofS_dot | with_reducible exact ofS_hex | with_reducible exact ofS_b64 | with_reducible exact mkS_rfl _); (case zqy => first | with_reducible exact ofS_slash | with_reducible exact ofS_A | with_reducible exact ofS_nil | with_reducible exact ofS_dot | with_reducible exact ofS_hex | with_reducible exact ofS_b64 | with_reducible exact mkS_rfl _); (case zql => first | assumption | omega | ((try simp only [List.length_append, List.length_replicate, List.length_cons, List.length_nil]); omega)); k_whole; intro t9 k9; (try dsimp only))))
  k_with "inplaceOp Add str str" => ((k_here; k_dflt (refine' iadd_mk ?zqx ?zqy ?zql ?_; (case zqx => first | with_reducible exact ofS_slash | with_reducible exact ofS_A | with_reducible exact ofS_nil | with_reducible exact ofS_dot | with_reducible exact ofS_hex | with_reducible exact ofS_b64 | with_reducible exact mkS_rfl _); (case zqy => first | with_reducible exact ofS_slash | with_reducible exact ofS_A | with_reducible exact ofS_nil | with_reducible exact ofS_dot | with_reducible exact ofS_hex | with_reducible exact ofS_b64 | with_reducible exact mkS_rfl _); (case zql => first | assumption | omega | ((try simp only [List.length_append, List.length_replicate, List.length_cons, List.length_nil]); omega)); k_whole; intro t9 k9; (try dsimp only))))
  k_with "binaryOp Mult str int" => ((k_here; k_dflt (refine' mul_mk ?zqx ?zqa ?zqb ?_; (case zqx => first | with_reducible exact ofS_slash | with_reducible exact ofS_A | with_reducible exact ofS_nil | with_reducible exact ofS_dot | with_reducible exact ofS_hex | with_reducible exact ofS_b64 | with_reducible exact mkS_rfl _); (case zqa => first | assumption | omega | ((try simp only [List.length_append, List.length_replicate, List.length_cons, List.length_nil]); omega)); (case zqb => first | assumption | omega | ((try simp only [List.length_append, List.length_replicate, List.length_cons, List.length_nil]); omega)); k_whole; intro t9 k9; (try dsimp only))))
  k_with "compareOp Eq str str" => ((k_here; k_dflt (refine' eq_mk ?zqx ?zqy ?_; (case zqx => first | with_reducible exact ofS_slash | with_reducible exact ofS_A | with_reducible exact ofS_nil | with_reducible exact ofS_dot | with_reducible exact ofS_hex | with_reducible exact ofS_b64 | with_reducible exact mkS_rfl _); (case zqy => first | with_reducible exact ofS_slash | with_reducible exact ofS_A | with_reducible exact ofS_nil | with_reducible exact ofS_dot | with_reducible exact ofS_hex | with_reducible exact ofS_b64 | with_reducible exact mkS_rfl _); k_whole)))
  k_with "subscriptTail Name Slice str ref" => ((k_here; (with_reducible rename Fr _ _ _ _ => F'); (with_reducible rename News _ _ _ _ => N'); first
    | ((refine slice_ss (s := ⟨_, _, _, _, _⟩) F' N' (by first | with_reducible exact ofS_slash | with_reducible exact ofS_A | with_reducible exact ofS_nil | with_reducible exact ofS_dot | with_reducible exact ofS_hex | with_reducible exact ofS_b64 | with_reducible exact mkS_rfl _) (by first | assumption | omega | ((try simp only [List.length_append, List.length_replicate, List.length_cons, List.length_nil]); omega)) (by first | assumption | omega | ((try simp only [List.length_append, List.length_replicate, List.length_cons, List.length_nil]); omega)) (by first | assumption | omega | ((try simp only [List.length_append, List.length_replicate, List.length_cons, List.length_nil]); omega)) ?_); intro _ _ _ _ _; (try dsimp only))
    | ((refine slice_ns (s := ⟨_, _, _, _, _⟩) F' N' (by first | with_reducible exact ofS_slash | with_reducible exact ofS_A | with_reducible exact ofS_nil | with_reducible exact ofS_dot | with_reducible exact ofS_hex | with_reducible exact ofS_b64 | with_reducible exact mkS_rfl _) (by first | assumption | omega | ((try simp only [List.length_append, List.length_replicate, List.length_cons, List.length_nil]); omega)) (by first | assumption | omega | ((try simp only [List.length_append, List.length_replicate, List.length_cons, List.length_nil]); omega)) ?_); intro _ _ _ _ _; (try dsimp only))
    | ((refine slice_sn (s := ⟨_, _, _, _, _⟩) F' N' (by first | with_reducible exact ofS_slash | with_reducible exact ofS_A | with_reducible exact ofS_nil | with_reducible exact ofS_dot | with_reducible exact ofS_hex | with_reducible exact ofS_b64 | with_reducible exact mkS_rfl _) (by first | assumption | omega | ((try simp only [List.length_append, List.length_replicate, List.length_cons, List.length_nil]); omega)) (by first | assumption | omega | ((try simp only [List.length_append, List.length_replicate, List.length_cons, List.length_nil]); omega)) ?_); intro _ _ _ _ _; (try dsimp only))))
  k_with "call ref" => ((k_here; (with_reducible show wpAny _ _ (call _ (_ :: (_ ++ []))) _ _ _); rw [List.append_nil]))
  k_with "StarOf ref" => ((k_here; k_dflt (refine' star_seq ?zqk1 ?zqk2 ?zqm ?zqc ?zqd ?zqT ?zqe ?zqz ?_; (case zqk1 => k_asm); (case zqk2 => k_asm); (case zqm => k_mem); (case zqc => exact rfl); (case zqd => exact rfl); (case zqT => first | exact .inl rfl | exact .inr rfl); (case zqe => exact rfl); (case zqz => assumption); k_whole); intro h' F' N'; (try k_sweep); try dsimp only [List.nil_append, List.cons_append]))
  k_with "subscriptTail" => ((k_here; (with_reducible show wpAny _ _ (subscriptTail _ _ (Value.str _ _) (Value.int _ _)) _ _ _); k_dflt (refine' tail_of_ItemOn (item_mk ?zqx ?zql ?zqa ?zqb ?_) ?zqhs ?zqht; (case zqx => first | with_reducible exact ofS_slash | with_reducible exact ofS_A | with_reducible exact ofS_nil | with_reducible exact ofS_dot | with_reducible exact ofS_hex | with_reducible exact ofS_b64 | with_reducible exact mkS_rfl _); (case zql => decide); (case zqa => exact fmod_lo (by decide)); (case zqb => exact fmod_hi (by decide) (by decide)); (case zqhs => with_unfolding_all rfl); (case zqht => intro _; with_unfolding_all rfl); intro t9 k9; (try dsimp only))))
  k_with "binaryOp FloorDiv int int" => ((k_here; (with_reducible show wpAny _ _ (binaryOp _ _ (Value.int (_ ^ _) _)) _ _ _); refine div_pow (by decide) (by decide) (by omega) ?_))
  k_with "compareOp NotEq str str" => ((k_here; k_dflt (refine' ne_mk ?zqx ?zqy ?_; (case zqx => first | with_reducible exact ofS_slash | with_reducible exact ofS_A | with_reducible exact ofS_nil | with_reducible exact ofS_dot | with_reducible exact ofS_hex | with_reducible exact ofS_b64 | with_reducible exact mkS_rfl _); (case zqy => first | with_reducible exact ofS_slash | with_reducible exact ofS_A | with_reducible exact ofS_nil | with_reducible exact ofS_dot | with_reducible exact ofS_hex | with_reducible exact ofS_b64 | with_reducible exact mkS_rfl _); k_whole)))
  k_with "binaryOp Pow int int" => ((k_here; refine pow_int_small (by omega) (by omega) (by decide) ?_))
  unfold Ct; intros; rename_i hpre hd hu hret
  refine wpAny_call ?_
  k_dflt cell_enter
  repeat' (first | (k_unfold; (try dsimp only)) | (walk1) | (dsimp only; walk1) | (leave1; walk_say "STEP leave1"; try dsimp only) | fail "no step")
  all_goals exact hret 0 _ _ (by k_asm) (by first | k_asm | (refine' cb_drop ?cbN ?cbS; (case cbN => assumption); (case cbS => (intro p9 hp9; (repeat (first | exact hp9 | refine List.mem_cons_of_mem _ ?_))))))
end Mine
namespace Mine
set_option maxHeartbeats 8000000 in
theorem c_buffer (x : Array UInt8) (t : Tok) : Ct 35 1 True [.bytes x t] (fun _ => .bytes x t) := by
  have : Fill PySem.Challenge.rw_rt0031_01 Mine.hd.heap_39 := by k_fill; trivial
  w_top off
  k_with_none
  k_with "call builtin:issubclass" => ((k_here; k_dflt (refine' issub_pair ?zqk1 ?_; (case zqk1 => exact kto_N (by k_asm) (by k_mem)); k_whole; intro _; (try dsimp only))))
  k_with "call type:type" => ((k_here; (with_reducible show wpAny _ _ (call _ [Value.bytes _ _]) _ _ _); k_dflt (refine call_type_of (Tx := "bytes") rfl (by decide +kernel) ?_)))
  k_with "eval ListComp" => ((k_here; (with_reducible show wpAny _ _ (eval (Expr.ListComp _ [Comprehension.mk _ _ [] _] _ _) _) _ _ _); k_dflt (refine lc_gen (F₀ := by k_asm) (by with_unfolding_all rfl) (by decide) (by rfl) (by decide) (by rfl) ?_)))
  k_with "eval ListComp" => ((k_here; (with_reducible show wpAny _ _ (eval (Expr.ListComp _ [Comprehension.mk _ _ [_] _] _ _) _) _ _ _); k_dflt (refine lc_genT (F₀ := by k_asm) (by with_unfolding_all rfl) (by decide) (by rfl) (by decide) (by rfl) ?_)))
  k_with "exec Assign cons ListComp" => ((k_here; k_dflt (refine lc_genA (F₀ := by k_asm) (by rfl) (by with_unfolding_all rfl) (by with_unfolding_all rfl) (by decide) (by rfl) (by decide) (by rfl) (by rfl) (by rfl) ?_)))
  k_with "CompEnd" => ((refine compEnd_at (by k_asm) (by k_asm) (by intro p9 hp9; (repeat (first | exact hp9 | refine List.mem_cons_of_mem _ ?_))) (by first | assumption | (simp only [LCg.Off3, and_true]; assumption) | lcg_off) (by first | exact trivial | assumption | exact Or.inr ⟨_, by k_mem, rfl, _, rfl⟩) ?_))
  k_with "call builtin:chr" => ((k_here; refine chr_byte ?_; intro t9; (try dsimp only)))
  k_with "call builtin:str.join" => ((k_here; (with_reducible show wpAny _ _ (call (Value.builtin "str.join") [Value.str _ _, Value.ref _]) _ _ _); k_dflt (refine' join_led ?zqN ?zqm ?zqi ?zqs ?zqw ?_; (case zqN => k_asm); (case zqm => k_mem); (case zqi => assumption); (case zqs => decide); (case zqw => first | assumption | omega); k_whole; intro t9 k9; (try dsimp only))))
  k_with "exec For Name Name cons nil" => ((k_here; (rename Fr _ _ _ _ => lF'); (with_unfolding_all refine' For_invVF lF' ?zqk1 ?zqk2 ?_; (case zqk1 => exact rfl); (case zqk2 => exact rfl); k_whole)))
  k_with "call builtin:str.join" => ((k_here; (with_reducible show wpAny _ _ (call (Value.builtin "str.join") [Value.str _ _, Value.ref _]) _ _ _); k_dflt (refine' join_chars_led ?zqN ?zqm ?zqi ?zqw ?zqx ?_; (case zqN => k_asm); (case zqm => k_mem); (case zqi => assumption); (case zqw => first | assumption | omega | ((try simp only [List.length_append, List.length_replicate, List.length_cons, List.length_nil]); omega)); (case zqx => first | with_reducible exact ofS_slash | with_reducible exact ofS_A | with_reducible exact ofS_nil | with_reducible exact ofS_dot | with_reducible exact ofS_hex | with_reducible exact ofS_b64 | with_reducible exact mkS_rfl _); k_whole; intro t9 k9; (try dsimp only))))
  k_with "call builtin:len" => ((k_here; (with_reducible show wpAny _ _ (call _ [Value.str _ _]) _ _ _); k_dflt (refine' len_mk ?zqx ?zql ?_; (case zqx => first | with_reducible exact ofS_slash | with_reducible exact ofS_A | with_reducible exact ofS_nil | with_reducible exact ofS_dot | with_reducible exact ofS_hex | with_reducible exact ofS_b64 | with_reducible exact mkS_rfl _); (case zql => first | assumption | omega | ((try simp only [List.length_append, List.length_replicate, List.length_cons, List.length_nil]); omega)); k_whole; intro t9 k9; (try dsimp only))))
  k_with "truthy str" => ((k_here; k_dflt (refine' truthy_mk ?zqx ?zql ?_; (case zqx => first | with_reducible exact ofS_slash | with_reducible exact ofS_A | with_reducible exact ofS_nil | with_reducible exact ofS_dot | with_reducible exact ofS_hex | with_reducible exact ofS_b64 | with_reducible exact mkS_rfl _); (case zql => first | assumption | omega | ((try simp only [List.length_append, List.length_replicate, List.length_cons, List.length_nil]); omega)); k_whole; intro k9; (try dsimp only))))
  k_with "binaryOp Add str str" => ((k_here; k_dflt (refine' add_mk ?zqx ?zqy ?zql ?_; (case zqx => first | with_reducible exact ofS_slash | with_reducible exact ofS_A | with_reducible exact ofS_nil | with_reducible exact ofS_dot | with_reducible exact ofS_hex | with_reducible exact ofS_b64 | with_reducible exact mkS_rfl _); (case zqy => first | with_reducible exact ofS_slash | with_reducible exact ofS_A | with_reducible exact ofS_nil | with_reducible exact ofS_dot | with_reducible exact ofS_hex | with_reducible exact ofS_b64 | with_reducible exact mkS_rfl _); (case zql => first | assumption | omega | ((try simp only [List.length_append, List.length_replicate, List.length_cons, List.length_nil]); omega)); k_whole; intro t9 k9; (try dsimp only))))
  k_with "inplaceOp Add str str" => ((k_here; k_dflt (refine' iadd_mk ?zqx ?zqy ?zql ?_; (case zqx => first | with_reducible exact ofS_slash | with_reducible exact ofS_A | with_reducible exact ofS_nil | with_reducible exact ofS_dot | with_reducible exact ofS_hex | with_reducible exact ofS_b64 | with_reducible exact mkS_rfl _); (case zqy => first | with_reducible exact ofS_slash | with_reducible exact ofS_A | with_reducible exact ofS_nil | with_reducible exact ofS_dot | with_reducible exact ofS_hex | with_reducible exact ofS_b64 | with_reducible exact mkS_rfl _); (case zql => first | assumption | omega | ((try simp only [List.length_append, List.length_replicate, List.length_cons, List.length_nil]); omega)); k_whole; intro t9 k9; (try dsimp only))))
  k_with "binaryOp Mult str int" => ((k_here; k_dflt (refine' mul_mk ?zqx ?zqa ?zqb ?_; (case zqx => first | with_reducible exact ofS_slash | with_reducible exact ofS_A | with_reducible exact ofS_nil | with_reducible exact ofS_dot | with_reducible exact ofS_hex | with_reducible exact ofS_b64 | with_reducible exact mkS_rfl _); (case zqa => first | assumption | omega | ((try simp only [List.length_append, List.length_replicate, List.length_cons, List.length_nil]); omega)); (case zqb => first | assumption | omega | ((try simp only [List.length_append, List.length_replicate, List.length_cons, List.length_nil]); omega)); k_whole; intro t9 k9; (try dsimp only))))
  k_with "compareOp Eq str str" => ((k_here; k_dflt (refine' eq_mk ?zqx ?zqy ?_; (case zqx => first | with_reducible exact ofS_slash | with_reducible exact ofS_A | with_reducible exact ofS_nil | with_reducible exact ofS_dot | with_reducible exact ofS_hex | with_reducible exact ofS_b64 | with_reducible exact mkS_rfl _); (case zqy => first | with_reducible exact ofS_slash | with_reducible exact ofS_A | with_reducible exact ofS_nil | with_reducible exact ofS_dot | with_reducible exact ofS_hex | with_reducible exact ofS_b64 | with_reducible exact mkS_rfl _); k_whole)))
  k_with "subscriptTail Name Slice str ref" => ((k_here; (with_reducible rename Fr _ _ _ _ => F'); (with_reducible rename News _ _ _ _ => N'); first
    | ((refine slice_ss (s := ⟨_, _, _, _, _⟩) F' N' (by first | with_reducible exact ofS_slash | with_reducible exact ofS_A | with_reducible exact ofS_nil | with_reducible exact ofS_dot | with_reducible exact ofS_hex | with_reducible exact ofS_b64 | with_reducible exact mkS_rfl _) (by first | assumption | omega | ((try simp only [List.length_append, List.length_replicate, List.length_cons, List.length_nil]); omega)) (by first | assumption | omega | ((try simp only [List.length_append, List.length_replicate, List.length_cons, List.length_nil]); omega)) (by first | assumption | omega | ((try simp only [List.length_append, List.length_replicate, List.length_cons, List.length_nil]); omega)) ?_); intro _ _ _ _ _; (try dsimp only))
    | ((refine slice_ns (s := ⟨_, _, _, _, _⟩) F' N' (by first | with_reducible exact ofS_slash | with_reducible exact ofS_A | with_reducible exact ofS_nil | with_reducible exact ofS_dot | with_reducible exact ofS_hex | with_reducible exact ofS_b64 | with_reducible exact mkS_rfl _) (by first | assumption | omega | ((try simp only [List.length_append, List.length_replicate, List.length_cons, List.length_nil]); omega)) (by first | assumption | omega | ((try simp only [List.length_append, List.length_replicate, List.length_cons, List.length_nil]); omega)) ?_); intro _ _ _ _ _; (try dsimp only))
    | ((refine slice_sn (s := ⟨_, _, _, _, _⟩) F' N' (by first | with_reducible exact ofS_slash | with_reducible exact ofS_A | with_reducible exact ofS_nil | with_reducible exact ofS_dot | with_reducible exact ofS_hex | with_reducible exact ofS_b64 | with_reducible exact mkS_rfl _) (by first | assumption | omega | ((try simp only [List.length_append, List.length_replicate, List.length_cons, List.length_nil]); omega)) (by first | assumption | omega | ((try simp only [List.length_append, List.length_replicate, List.length_cons, List.length_nil]); omega)) ?_); intro _ _ _ _ _; (try dsimp only))))
  k_with "call ref" => ((k_here; (with_reducible show wpAny _ _ (call _ (_ :: (_ ++ []))) _ _ _); rw [List.append_nil]))
  k_with "StarOf ref" => ((k_here; k_dflt (refine' star_seq ?zqk1 ?zqk2 ?zqm ?zqc ?zqd ?zqT ?zqe ?zqz ?_; (case zqk1 => k_asm); (case zqk2 => k_asm); (case zqm => k_mem); (case zqc => exact rfl); (case zqd => exact rfl); (case zqT => first | exact .inl rfl | exact .inr rfl); (case zqe => exact rfl); (case zqz => assumption); k_whole); intro h' F' N'; (try k_sweep); try dsimp only [List.nil_append, List.cons_append]))
  k_with "subscriptTail" => ((k_here; (with_reducible show wpAny _ _ (subscriptTail _ _ (Value.str _ _) (Value.int _ _)) _ _ _); k_dflt (refine' tail_of_ItemOn (item_mk ?zqx ?zql ?zqa ?zqb ?_) ?zqhs ?zqht; (case zqx => first | with_reducible exact ofS_slash | with_reducible exact ofS_A | with_reducible exact ofS_nil | with_reducible exact ofS_dot | with_reducible exact ofS_hex | with_reducible exact ofS_b64 | with_reducible exact mkS_rfl _); (case zql => decide); (case zqa => exact fmod_lo (by decide)); (case zqb => exact fmod_hi (by decide) (by decide)); (case zqhs => with_unfolding_all rfl); (case zqht => intro _; with_unfolding_all rfl); intro t9 k9; (try dsimp only))))
  k_with "binaryOp FloorDiv int int" => ((k_here; (with_reducible show wpAny _ _ (binaryOp _ _ (Value.int (_ ^ _) _)) _ _ _); refine div_pow (by decide) (by decide) (by omega) ?_))
  k_with "compareOp NotEq str str" => ((k_here; k_dflt (refine' ne_mk ?zqx ?zqy ?_; (case zqx => first | with_reducible exact ofS_slash | with_reducible exact ofS_A | with_reducible exact ofS_nil | with_reducible exact ofS_dot | with_reducible exact ofS_hex | with_reducible exact ofS_b64 | with_reducible exact mkS_rfl _); (case zqy => first | with_reducible exact ofS_slash | with_reducible exact ofS_A | with_reducible exact ofS_nil | with_reducible exact ofS_dot | with_reducible exact ofS_hex | with_reducible exact ofS_b64 | with_reducible exact mkS_rfl _); k_whole)))
  k_with "binaryOp Pow int int" => ((k_here; refine pow_int_small (by omega) (by omega) (by decide) ?_))
  unfold Ct; intros; rename_i hpre hd hu hret
  refine wpAny_call ?_
  k_dflt cell_enter
  repeat' (first | (k_unfold; (try dsimp only)) | (walk1) | (dsimp only; walk1) | (leave1; walk_say "STEP leave1"; try dsimp only) | fail "no step")
  all_goals exact hret 0 _ _ (by k_asm) (by first | k_asm | (refine' cb_drop ?cbN ?cbS; (case cbN => assumption); (case cbS => (intro p9 hp9; (repeat (first | exact hp9 | refine List.mem_cons_of_mem _ ?_))))))
end Mine
namespace Mine
set_option maxHeartbeats 8000000 in
theorem c_int2ap (n : Int) (t : Tok) : Ct 28 1 (0 ≤ n ∧ n < 2 ^ 48) [.int n t] (fun t => .bytes (apB n.toNat) t) := by
  have : Fill PySem.Challenge.rw_rt0031_01 Mine.hd.heap_39 := by k_fill; trivial
  w_top off
  k_with_none
  k_with "call builtin:issubclass" => ((k_here; k_dflt (refine' issub_pair ?zqk1 ?_; (case zqk1 => exact kto_N (by k_asm) (by k_mem)); k_whole; intro _; (try dsimp only))))
  k_with "call type:type" => ((k_here; (with_reducible show wpAny _ _ (call _ [Value.bytes _ _]) _ _ _); k_dflt (refine call_type_of (Tx := "bytes") rfl (by decide +kernel) ?_)))
  k_with "eval ListComp" => ((k_here; (with_reducible show wpAny _ _ (eval (Expr.ListComp _ [Comprehension.mk _ _ [] _] _ _) _) _ _ _); k_dflt (refine lc_gen (F₀ := by k_asm) (by with_unfolding_all rfl) (by decide) (by rfl) (by decide) (by rfl) ?_)))
  k_with "eval ListComp" => ((k_here; (with_reducible show wpAny _ _ (eval (Expr.ListComp _ [Comprehension.mk _ _ [_] _] _ _) _) _ _ _); k_dflt (refine lc_genT (F₀ := by k_asm) (by with_unfolding_all rfl) (by decide) (by rfl) (by decide) (by rfl) ?_)))
  k_with "exec Assign cons ListComp" => ((k_here; k_dflt (refine lc_genA (F₀ := by k_asm) (by rfl) (by with_unfolding_all rfl) (by with_unfolding_all rfl) (by decide) (by rfl) (by decide) (by rfl) (by rfl) (by rfl) ?_)))
  k_with "CompEnd" => ((refine compEnd_at (by k_asm) (by k_asm) (by intro p9 hp9; (repeat (first | exact hp9 | refine List.mem_cons_of_mem _ ?_))) (by first | assumption | (simp only [LCg.Off3, and_true]; assumption) | lcg_off) (by first | exact trivial | assumption | exact Or.inr ⟨_, by k_mem, rfl, _, rfl⟩) ?_))
  k_with "call builtin:chr" => ((k_here; refine chr_byte ?_; intro t9; (try dsimp only)))
  k_with "call builtin:str.join" => ((k_here; (with_reducible show wpAny _ _ (call (Value.builtin "str.join") [Value.str _ _, Value.ref _]) _ _ _); k_dflt (refine' join_led ?zqN ?zqm ?zqi ?zqs ?zqw ?_; (case zqN => k_asm); (case zqm => k_mem); (case zqi => assumption); (case zqs => decide); (case zqw => first | assumption | omega); k_whole; intro t9 k9; (try dsimp only))))
  k_with "exec For Name Name cons nil" => ((k_here; (rename Fr _ _ _ _ => lF'); (with_unfolding_all refine' For_invVF lF' ?zqk1 ?zqk2 ?_; (case zqk1 => exact rfl); (case zqk2 => exact rfl); k_whole)))
  k_with "call builtin:str.join" => ((k_here; (with_reducible show wpAny _ _ (call (Value.builtin "str.join") [Value.str _ _, Value.ref _]) _ _ _); k_dflt (refine' join_chars_led ?zqN ?zqm ?zqi ?zqw ?zqx ?_; (case zqN => k_asm); (case zqm => k_mem); (case zqi => assumption); (case zqw => first | assumption | omega | ((try simp only [List.length_append, List.length_replicate, List.length_cons, List.length_nil]); omega)); (case zqx => first | with_reducible exact ofS_slash | with_reducible exact ofS_A | with_reducible exact ofS_nil | with_reducible exact ofS_dot | with_reducible exact ofS_hex | with_reducible exact ofS_b64 | with_reducible exact mkS_rfl _); k_whole; intro t9 k9; (try dsimp only))))
  k_with "call builtin:len" => ((k_here; (with_reducible show wpAny _ _ (call _ [Value.str _ _]) _ _ _); k_dflt (refine' len_mk ?zqx ?zql ?_; (case zqx => first | with_reducible exact ofS_slash | with_reducible exact ofS_A | with_reducible exact ofS_nil | with_reducible exact ofS_dot | with_reducible exact ofS_hex | with_reducible exact ofS_b64 | with_reducible exact mkS_rfl _); (case zql => first | assumption | omega | ((try simp only [List.length_append, List.length_replicate, List.length_cons, List.length_nil]); omega)); k_whole; intro t9 k9; (try dsimp only))))
  k_with "truthy str" => ((k_here; k_dflt (refine' truthy_mk ?zqx ?zql ?_; (case zqx => first | with_reducible exact ofS_slash | with_reducible exact ofS_A | with_reducible exact ofS_nil | with_reducible exact ofS_dot | with_reducible exact ofS_hex | with_reducible exact ofS_b64 | with_reducible exact mkS_rfl _); (case zql => first | assumption | omega | ((try simp only [List.length_append, List.length_replicate, List.length_cons, List.length_nil]); omega)); k_whole; intro k9; (try dsimp only))))
  k_with "binaryOp Add str str" => ((k_here; k_dflt (refine' add_mk ?zqx ?zqy ?zql ?_; (case zqx => first | with_reducible exact ofS_slash | with_reducible exact ofS_A | with_reducible exact ofS_nil | with_reducible exact ofS_dot | with_reducible exact ofS_hex | with_reducible exact ofS_b64 | with_reducible exact mkS_rfl _); (case zqy => first | with_reducible exact ofS_slash | with_reducible exact ofS_A | with_reducible exact ofS_nil | with_reducible exact ofS_dot | with_reducible exact ofS_hex | with_reducible exact ofS_b64 | with_reducible exact mkS_rfl _); (case zql => first | assumption | omega | ((try simp only [List.length_append, List.length_replicate, List.length_cons, List.length_nil]); omega)); k_whole; intro t9 k9; (try dsimp only))))
  k_with "inplaceOp Add str str" => ((k_here; k_dflt (refine' iadd_mk ?zqx ?zqy ?zql ?_; (case zqx => first | with_reducible exact ofS_slash | with_reducible exact ofS_A | with_reducible exact ofS_nil | with_reducible exact ofS_dot | with_reducible exact ofS_hex | with_reducible exact ofS_b64 | with_reducible exact mkS_rfl _); (case zqy => first | with_reducible exact ofS_slash | with_reducible exact ofS_A | with_reducible exact ofS_nil | with_reducible exact ofS_dot | with_reducible exact ofS_hex | with_reducible exact ofS_b64 | with_reducible exact mkS_rfl _); (case zql => first | assumption | omega | ((try simp only [List.length_append, List.length_replicate, List.length_cons, List.length_nil]); omega)); k_whole; intro t9 k9; (try dsimp only))))
  k_with "binaryOp Mult str int" => ((k_here; k_dflt (refine' mul_mk ?zqx ?zqa ?zqb ?_; (case zqx => first | with_reducible exact ofS_slash | with_reducible exact ofS_A | with_reducible exact ofS_nil | with_reducible exact ofS_dot | with_reducible exact ofS_hex | with_reducible exact ofS_b64 | with_reducible exact mkS_rfl _); (case zqa => first | assumption | omega | ((try simp only [List.length_append, List.length_replicate, List.length_cons, List.length_nil]); omega)); (case zqb => first | assumption | omega | ((try simp only [List.length_append, List.length_replicate, List.length_cons, List.length_nil]); omega)); k_whole; intro t9 k9; (try dsimp only))))
  k_with "compareOp Eq str str" => ((k_here; k_dflt (refine' eq_mk ?zqx ?zqy ?_; (case zqx => first | with_reducible exact ofS_slash | with_reducible exact ofS_A | with_reducible exact ofS_nil | with_reducible exact ofS_dot | with_reducible exact ofS_hex | with_reducible exact ofS_b64 | with_reducible exact mkS_rfl _); (case zqy => first | with_reducible exact ofS_slash | with_reducible exact ofS_A | with_reducible exact ofS_nil | with_reducible exact ofS_dot | with_reducible exact ofS_hex | with_reducible exact ofS_b64 | with_reducible exact mkS_rfl _); k_whole)))
  k_with "subscriptTail Name Slice str ref" => ((k_here; (with_reducible rename Fr _ _ _ _ => F'); (with_reducible rename News _ _ _ _ => N'); first
    | ((refine slice_ss (s := ⟨_, _, _, _, _⟩) F' N' (by first | with_reducible exact ofS_slash | with_reducible exact ofS_A | with_reducible exact ofS_nil | with_reducible exact ofS_dot | with_reducible exact ofS_hex | with_reducible exact ofS_b64 | with_reducible exact mkS_rfl _) (by first | assumption | omega | ((try simp only [List.length_append, List.length_replicate, List.length_cons, List.length_nil]); omega)) (by first | assumption | omega | ((try simp only [List.length_append, List.length_replicate, List.length_cons, List.length_nil]); omega)) (by first | assumption | omega | ((try simp only [List.length_append, List.length_replicate, List.length_cons, List.length_nil]); omega)) ?_); intro _ _ _ _ _; (try dsimp only))
    | ((refine slice_ns (s := ⟨_, _, _, _, _⟩) F' N' (by first | with_reducible exact ofS_slash | with_reducible exact ofS_A | with_reducible exact ofS_nil | with_reducible exact ofS_dot | with_reducible exact ofS_hex | with_reducible exact ofS_b64 | with_reducible exact mkS_rfl _) (by first | assumption | omega | ((try simp only [List.length_append, List.length_replicate, List.length_cons, List.length_nil]); omega)) (by first | assumption | omega | ((try simp only [List.length_append, List.length_replicate, List.length_cons, List.length_nil]); omega)) ?_); intro _ _ _ _ _; (try dsimp only))
    | ((refine slice_sn (s := ⟨_, _, _, _, _⟩) F' N' (by first | with_reducible exact ofS_slash | with_reducible exact ofS_A | with_reducible exact ofS_nil | with_reducible exact ofS_dot | with_reducible exact ofS_hex | with_reducible exact ofS_b64 | with_reducible exact mkS_rfl _) (by first | assumption | omega | ((try simp only [List.length_append, List.length_replicate, List.length_cons, List.length_nil]); omega)) (by first | assumption | omega | ((try simp only [List.length_append, List.length_replicate, List.length_cons, List.length_nil]); omega)) ?_); intro _ _ _ _ _; (try dsimp only))))
  k_with "call ref" => ((k_here; (with_reducible show wpAny _ _ (call _ (_ :: (_ ++ []))) _ _ _); rw [List.append_nil]))
  k_with "StarOf ref" => ((k_here; k_dflt (refine' star_seq ?zqk1 ?zqk2 ?zqm ?zqc ?zqd ?zqT ?zqe ?zqz ?_; (case zqk1 => k_asm); (case zqk2 => k_asm); (case zqm => k_mem); (case zqc => exact rfl); (case zqd => exact rfl); (case zqT => first | exact .inl rfl | exact .inr rfl); (case zqe => exact rfl); (case zqz => assumption); k_whole); intro h' F' N'; (try k_sweep); try dsimp only [List.nil_append, List.cons_append]))
  k_with "subscriptTail" => ((k_here; (with_reducible show wpAny _ _ (subscriptTail _ _ (Value.str _ _) (Value.int _ _)) _ _ _); k_dflt (refine' tail_of_ItemOn (item_mk ?zqx ?zql ?zqa ?zqb ?_) ?zqhs ?zqht; (case zqx => first | with_reducible exact ofS_slash | with_reducible exact ofS_A | with_reducible exact ofS_nil | with_reducible exact ofS_dot | with_reducible exact ofS_hex | with_reducible exact ofS_b64 | with_reducible exact mkS_rfl _); (case zql => decide); (case zqa => exact fmod_lo (by decide)); (case zqb => exact fmod_hi (by decide) (by decide)); (case zqhs => with_unfolding_all rfl); (case zqht => intro _; with_unfolding_all rfl); intro t9 k9; (try dsimp only))))
  k_with "binaryOp FloorDiv int int" => ((k_here; (with_reducible show wpAny _ _ (binaryOp _ _ (Value.int (_ ^ _) _)) _ _ _); refine div_pow (by decide) (by decide) (by omega) ?_))
  k_with "compareOp NotEq str str" => ((k_here; k_dflt (refine' ne_mk ?zqx ?zqy ?_; (case zqx => first | with_reducible exact ofS_slash | with_reducible exact ofS_A | with_reducible exact ofS_nil | with_reducible exact ofS_dot | with_reducible exact ofS_hex | with_reducible exact ofS_b64 | with_reducible exact mkS_rfl _); (case zqy => first | with_reducible exact ofS_slash | with_reducible exact ofS_A | with_reducible exact ofS_nil | with_reducible exact ofS_dot | with_reducible exact ofS_hex | with_reducible exact ofS_b64 | with_reducible exact mkS_rfl _); k_whole)))
  k_with "binaryOp Pow int int" => ((k_here; refine pow_int_small (by omega) (by omega) (by decide) ?_))
  k_with "subscriptTail" => ((k_here; (with_reducible show wpAny _ _ (subscriptTail _ (Expr.Slice _ _ none _) (Value.bytes _ _) (Value.ref _)) _ _ _); (with_reducible rename Fr _ _ _ _ => F'); (with_reducible rename News _ _ _ _ => N'); (refine KBc.slice_K (s := ⟨_, _, _, _, _⟩) F' N' rfl (by constructor) (by constructor) (by decide) ?_); intro _ _ _ _ _ _))
  k_with "binaryOp Add bytes bytes" => ((k_here; (refine KBy.add_bytes (Nat.le_trans (Nat.add_le_add (KBc.size_picked_le _ _ _) (by assumption)) (by decide)) ?_); intro _ _))
  unfold Ct; intros; rename_i hpre hd hu hret
  refine wpAny_call ?_
  k_dflt cell_enter
  repeat' (first | (k_unfold; (try dsimp only)) | ((fail_if_success (with_reducible show wpAny _ _ (exec (Stmt.While _ _ _ _) _) _ _ _)); (fail_if_success (with_reducible show WhileStep _ _ _ _ _ _ _)); walk1) | ((fail_if_success (with_reducible show wpAny _ _ (exec (Stmt.While _ _ _ _) _) _ _ _)); (fail_if_success (with_reducible show WhileStep _ _ _ _ _ _ _)); dsimp only; walk1) | (leave1; walk_say "STEP leave1"; try dsimp only) | fail "no step")
  obtain ⟨a0, rfl⟩ : ∃ a0 : Nat, n = (a0 : Int) := ⟨n.toNat, by omega⟩
  have ha0 : a0 < 2 ^ 48 := by omega
  have e0 : (if (a0 : Int) < 0 then -(a0 : Int) else (a0 : Int)) = (a0 : Int) := by rw [if_neg (by omega)]
  rename Fr _ _ _ _ => F9
  rename News _ _ _ _ => N9
  k_dflt (refine while_ap (a₀ := a0) (by first | exact e0 | rfl | omega) F9 N9 (by rfl) (by rfl) ?_)
  clear F9 N9
  intro k b t1 t2 z h₁ tk₁ hk hb F9 N9
  have hb9 : b.size ≤ 100 := ap_size ha0 hb
  repeat' (first | (k_unfold; (try dsimp only)) | ((fail_if_success (with_reducible show wpAny _ _ (exec (Stmt.While _ _ _ _) _) _ _ _)); (fail_if_success (with_reducible show WhileStep _ _ _ _ _ _ _)); walk1) | ((fail_if_success (with_reducible show wpAny _ _ (exec (Stmt.While _ _ _ _) _) _ _ _)); (fail_if_success (with_reducible show WhileStep _ _ _ _ _ _ _)); dsimp only; walk1) | (leave1; walk_say "STEP leave1"; try dsimp only) | fail "no step")
  · have hk0 : k ≠ 0 := by rintro rfl; simp_all
    refine ap_end (k' := k / 16) (by k_asm) (by first | k_asm | (refine' cb_drop ?cbN ?cbS; (case cbN => assumption); (case cbS => (intro p9 hp9; (repeat (first | exact hp9 | refine List.mem_cons_of_mem _ ?_)))))) (ap_div k) (by omega) hk (ap_step hk0 hb) (by rfl) (by rfl) (by rfl) ?_
    intro y h1 h2 h3
    simp only [if_neg h1, if_neg h2, if_neg h3]
  · have hk0 : k = 0 := by omega
    subst hk0
    have := ap_done hb
    subst this
    exact hret _ _ _ (by k_asm) (by first | k_asm | (refine' cb_drop ?cbN ?cbS; (case cbN => assumption); (case cbS => (intro p9 hp9; (repeat (first | exact hp9 | refine List.mem_cons_of_mem _ ?_))))))
end Mine
namespace Mine
set_option maxHeartbeats 8000000 in
theorem c_letters (n c : Int) (t t' : Tok) : Ct 176 2 (0 ≤ n ∧ n < 2 ^ 48 ∧ n < 16 ^ c.toNat ∧ 0 ≤ c ∧ c ≤ 12) [.int n t, .int c t'] (fun t => .str (mkS (hexD n.toNat c.toNat)) t) := by
  have : Fill PySem.Challenge.rw_rt0031_01 Mine.hd.heap_39 := by k_fill; trivial
  w_top off
  k_with_none
  k_with "call ref" => ((k_here; k_dflt (refine' Ct.use (c_int2ap _ _) ?zqk1 ?zqk2 ?zqk3 ?zqk4 ?zqk5 ?zqkK ?zqkp ?zqkd ?zqku ?_; (case zqk1 => k_asm); (case zqk2 => k_asm); (case zqk3 => k_asm); (case zqk4 => k_asm); (case zqk5 => k_asm); (case zqkK => first | exact rfl | assumption); (case zqkp => first | exact True.intro | assumption | omega | (refine ⟨?_, ?_⟩ <;> omega) | fail "ct: pre"); (case zqkd => ktr_room); (case zqku => ktr_units); k_whole; intro t9 h9 tk9 F9 N9; (try dsimp only); (try k_fold))))
  k_with "call builtin:issubclass" => ((k_here; k_dflt (refine' issub_pair ?zqk1 ?_; (case zqk1 => exact kto_N (by k_asm) (by k_mem)); k_whole; intro _; (try dsimp only))))
  k_with "call type:type" => ((k_here; (with_reducible show wpAny _ _ (call _ [Value.bytes _ _]) _ _ _); k_dflt (refine call_type_of (Tx := "bytes") rfl (by decide +kernel) ?_)))
  k_with "eval ListComp" => ((k_here; (with_reducible show wpAny _ _ (eval (Expr.ListComp _ [Comprehension.mk _ _ [] _] _ _) _) _ _ _); k_dflt (refine lc_gen (F₀ := by k_asm) (by with_unfolding_all rfl) (by decide) (by rfl) (by decide) (by rfl) ?_)))
  k_with "eval ListComp" => ((k_here; (with_reducible show wpAny _ _ (eval (Expr.ListComp _ [Comprehension.mk _ _ [_] _] _ _) _) _ _ _); k_dflt (refine lc_genT (F₀ := by k_asm) (by with_unfolding_all rfl) (by decide) (by rfl) (by decide) (by rfl) ?_)))
  k_with "exec Assign cons ListComp" => ((k_here; k_dflt (refine lc_genA (F₀ := by k_asm) (by rfl) (by with_unfolding_all rfl) (by with_unfolding_all rfl) (by decide) (by rfl) (by decide) (by rfl) (by rfl) (by rfl) ?_)))
  k_with "CompEnd" => ((refine compEnd_at (by k_asm) (by k_asm) (by intro p9 hp9; (repeat (first | exact hp9 | refine List.mem_cons_of_mem _ ?_))) (by first | assumption | (simp only [LCg.Off3, and_true]; assumption) | lcg_off) (by first | exact trivial | assumption | exact Or.inr ⟨_, by k_mem, rfl, _, rfl⟩) ?_))
  k_with "call builtin:chr" => ((k_here; refine chr_byte ?_; intro t9; (try dsimp only)))
  k_with "call builtin:str.join" => ((k_here; (with_reducible show wpAny _ _ (call (Value.builtin "str.join") [Value.str _ _, Value.ref _]) _ _ _); k_dflt (refine' join_led ?zqN ?zqm ?zqi ?zqs ?zqw ?_; (case zqN => k_asm); (case zqm => k_mem); (case zqi => assumption); (case zqs => decide); (case zqw => first | assumption | omega); k_whole; intro t9 k9; (try dsimp only))))
  k_with "exec For Name Name cons nil" => ((k_here; (rename Fr _ _ _ _ => lF'); (with_unfolding_all refine' For_invVF lF' ?zqk1 ?zqk2 ?_; (case zqk1 => exact rfl); (case zqk2 => exact rfl); k_whole)))
  k_with "call builtin:str.join" => ((k_here; (with_reducible show wpAny _ _ (call (Value.builtin "str.join") [Value.str _ _, Value.ref _]) _ _ _); k_dflt (refine' join_chars_led ?zqN ?zqm ?zqi ?zqw ?zqx ?_; (case zqN => k_asm); (case zqm => k_mem); (case zqi => assumption); (case zqw => first | assumption | omega | ((try simp only [List.length_append, List.length_replicate, List.length_cons, List.length_nil]); omega)); (case zqx => first | with_reducible exact ofS_slash | with_reducible exact ofS_A | with_reducible exact ofS_nil | with_reducible exact ofS_dot | with_reducible exact ofS_hex | with_reducible exact ofS_b64 | with_reducible exact mkS_rfl _); k_whole; intro t9 k9; (try dsimp only))))
  k_with "call builtin:len" => ((k_here; (with_reducible show wpAny _ _ (call _ [Value.str _ _]) _ _ _); k_dflt (refine' len_mk ?zqx ?zql ?_; (case zqx => first | with_reducible exact ofS_slash | with_reducible exact ofS_A | with_reducible exact ofS_nil | with_reducible exact ofS_dot | with_reducible exact ofS_hex | with_reducible exact ofS_b64 | with_reducible exact mkS_rfl _); (case zql => first | assumption | omega | ((try simp only [List.length_append, List.length_replicate, List.length_cons, List.length_nil]); omega)); k_whole; intro t9 k9; (try dsimp only))))
  k_with "truthy str" => ((k_here; k_dflt (refine' truthy_mk ?zqx ?zql ?_; (case zqx => first | with_reducible exact ofS_slash | with_reducible exact ofS_A | with_reducible exact ofS_nil | with_reducible exact ofS_dot | with_reducible exact ofS_hex | with_reducible exact ofS_b64 | with_reducible exact mkS_rfl _); (case zql => first | assumption | omega | ((try simp only [List.length_append, List.length_replicate, List.length_cons, List.length_nil]); omega)); k_whole; intro k9; (try dsimp only))))
  k_with "binaryOp Add str str" => ((k_here; k_dflt (refine' add_mk ?zqx ?zqy ?zql ?_; (case zqx => first | with_reducible exact ofS_slash | with_reducible exact ofS_A | with_reducible exact ofS_nil | with_reducible exact ofS_dot | with_reducible exact ofS_hex | with_reducible exact ofS_b64 | with_reducible exact mkS_rfl _); (case zqy => first | with_reducible exact ofS_slash | with_reducible exact ofS_A | with_reducible exact ofS_nil | with_reducible exact ofS_dot | with_reducible exact ofS_hex | with_reducible exact ofS_b64 | with_reducible exact mkS_rfl _); (case zql => first | assumption | omega | ((try simp only [List.length_append, List.length_replicate, List.length_cons, List.length_nil]); omega)); k_whole; intro t9 k9; (try dsimp only))))
  k_with "inplaceOp Add str str" => ((k_here; k_dflt (refine' iadd_mk ?zqx ?zqy ?zql ?_; (case zqx => first | with_reducible exact ofS_slash | with_reducible exact ofS_A | with_reducible exact ofS_nil | with_reducible exact ofS_dot | with_reducible exact ofS_hex | with_reducible exact ofS_b64 | with_reducible exact mkS_rfl _); (case zqy => first | with_reducible exact ofS_slash | with_reducible exact ofS_A | with_reducible exact ofS_nil | with_reducible exact ofS_dot | with_reducible exact ofS_hex | with_reducible exact ofS_b64 | with_reducible exact mkS_rfl _); (case zql => first | assumption | omega | ((try simp only [List.length_append, List.length_replicate, List.length_cons, List.length_nil]); omega)); k_whole; intro t9 k9; (try dsimp only))))
  k_with "binaryOp Mult str int" => ((k_here; k_dflt (refine' mul_mk ?zqx ?zqa ?zqb ?_; (case zqx => first | with_reducible exact ofS_slash | with_reducible exact ofS_A | with_reducible exact ofS_nil | with_reducible exact ofS_dot | with_reducible exact ofS_hex | with_reducible exact ofS_b64 | with_reducible exact mkS_rfl _); (case zqa => first | assumption | omega | ((try simp only [List.length_append, List.length_replicate, List.length_cons, List.length_nil]); omega)); (case zqb => first | assumption | omega | ((try simp only [List.length_append, List.length_replicate, List.length_cons, List.length_nil]); omega)); k_whole; intro t9 k9; (try dsimp only))))
  k_with "compareOp Eq str str" => ((k_here; k_dflt (refine' eq_mk ?zqx ?zqy ?_; (case zqx => first | with_reducible exact ofS_slash | with_reducible exact ofS_A | with_reducible exact ofS_nil | with_reducible exact ofS_dot | with_reducible exact ofS_hex | with_reducible exact ofS_b64 | with_reducible exact mkS_rfl _); (case zqy => first | with_reducible exact ofS_slash | with_reducible exact ofS_A | with_reducible exact ofS_nil | with_reducible exact ofS_dot | with_reducible exact ofS_hex | with_reducible exact ofS_b64 | with_reducible exact mkS_rfl _); k_whole)))
  k_with "subscriptTail Name Slice str ref" => ((k_here; (with_reducible rename Fr _ _ _ _ => F'); (with_reducible rename News _ _ _ _ => N'); first
    | ((refine slice_ss (s := ⟨_, _, _, _, _⟩) F' N' (by first | with_reducible exact ofS_slash | with_reducible exact ofS_A | with_reducible exact ofS_nil | with_reducible exact ofS_dot | with_reducible exact ofS_hex | with_reducible exact ofS_b64 | with_reducible exact mkS_rfl _) (by first | assumption | omega | ((try simp only [List.length_append, List.length_replicate, List.length_cons, List.length_nil]); omega)) (by first | assumption | omega | ((try simp only [List.length_append, List.length_replicate, List.length_cons, List.length_nil]); omega)) (by first | assumption | omega | ((try simp only [List.length_append, List.length_replicate, List.length_cons, List.length_nil]); omega)) ?_); intro _ _ _ _ _; (try dsimp only))
    | ((refine slice_ns (s := ⟨_, _, _, _, _⟩) F' N' (by first | with_reducible exact ofS_slash | with_reducible exact ofS_A | with_reducible exact ofS_nil | with_reducible exact ofS_dot | with_reducible exact ofS_hex | with_reducible exact ofS_b64 | with_reducible exact mkS_rfl _) (by first | assumption | omega | ((try simp only [List.length_append, List.length_replicate, List.length_cons, List.length_nil]); omega)) (by first | assumption | omega | ((try simp only [List.length_append, List.length_replicate, List.length_cons, List.length_nil]); omega)) ?_); intro _ _ _ _ _; (try dsimp only))
    | ((refine slice_sn (s := ⟨_, _, _, _, _⟩) F' N' (by first | with_reducible exact ofS_slash | with_reducible exact ofS_A | with_reducible exact ofS_nil | with_reducible exact ofS_dot | with_reducible exact ofS_hex | with_reducible exact ofS_b64 | with_reducible exact mkS_rfl _) (by first | assumption | omega | ((try simp only [List.length_append, List.length_replicate, List.length_cons, List.length_nil]); omega)) (by first | assumption | omega | ((try simp only [List.length_append, List.length_replicate, List.length_cons, List.length_nil]); omega)) ?_); intro _ _ _ _ _; (try dsimp only))))
  k_with "call ref" => ((k_here; (with_reducible show wpAny _ _ (call _ (_ :: (_ ++ []))) _ _ _); rw [List.append_nil]))
  k_with "StarOf ref" => ((k_here; k_dflt (refine' star_seq ?zqk1 ?zqk2 ?zqm ?zqc ?zqd ?zqT ?zqe ?zqz ?_; (case zqk1 => k_asm); (case zqk2 => k_asm); (case zqm => k_mem); (case zqc => exact rfl); (case zqd => exact rfl); (case zqT => first | exact .inl rfl | exact .inr rfl); (case zqe => exact rfl); (case zqz => assumption); k_whole); intro h' F' N'; (try k_sweep); try dsimp only [List.nil_append, List.cons_append]))
  k_with "subscriptTail" => ((k_here; (with_reducible show wpAny _ _ (subscriptTail _ _ (Value.str _ _) (Value.int _ _)) _ _ _); k_dflt (refine' tail_of_ItemOn (item_mk ?zqx ?zql ?zqa ?zqb ?_) ?zqhs ?zqht; (case zqx => first | with_reducible exact ofS_slash | with_reducible exact ofS_A | with_reducible exact ofS_nil | with_reducible exact ofS_dot | with_reducible exact ofS_hex | with_reducible exact ofS_b64 | with_reducible exact mkS_rfl _); (case zql => decide); (case zqa => exact fmod_lo (by decide)); (case zqb => exact fmod_hi (by decide) (by decide)); (case zqhs => with_unfolding_all rfl); (case zqht => intro _; with_unfolding_all rfl); intro t9 k9; (try dsimp only))))
  k_with "binaryOp FloorDiv int int" => ((k_here; (with_reducible show wpAny _ _ (binaryOp _ _ (Value.int (_ ^ _) _)) _ _ _); refine div_pow (by decide) (by decide) (by omega) ?_))
  k_with "compareOp NotEq str str" => ((k_here; k_dflt (refine' ne_mk ?zqx ?zqy ?_; (case zqx => first | with_reducible exact ofS_slash | with_reducible exact ofS_A | with_reducible exact ofS_nil | with_reducible exact ofS_dot | with_reducible exact ofS_hex | with_reducible exact ofS_b64 | with_reducible exact mkS_rfl _); (case zqy => first | with_reducible exact ofS_slash | with_reducible exact ofS_A | with_reducible exact ofS_nil | with_reducible exact ofS_dot | with_reducible exact ofS_hex | with_reducible exact ofS_b64 | with_reducible exact mkS_rfl _); k_whole)))
  k_with "binaryOp Pow int int" => ((k_here; refine pow_int_small (by omega) (by omega) (by decide) ?_))
  unfold Ct; intros; rename_i hpre hd hu hret
  refine wpAny_call ?_
  k_dflt cell_enter
  repeat' (first | (k_unfold; (try dsimp only)) | ((fail_if_success (with_reducible show wpAny _ _ (pyIter _) _ _ _)); walk1) | ((fail_if_success (with_reducible show wpAny _ _ (pyIter _) _ _ _)); dsimp only; walk1) | (leave1; walk_say "STEP leave1"; try dsimp only) | fail "no step")

  have hl : (apD n.toNat).length ≤ 12 := apD_len 12 _ (by omega)
  have hb : (apB n.toNat).size = (chars (apD n.toNat)).length := by simp [apB, chars]
  have hs9 : (apB n.toNat).size ≤ sizeLine := by rw [hb, sizeLine_eq]; simp only [chars, List.length_map]; omega
  refine src_bytes rfl hs9 (by k_asm) (by k_asm) ?_
  intro s₂ hs; obtain ⟨g9, rfl⟩ := hs
  refine rest_strsL (chars (apD n.toNat)) hb ?_ ?_
  · intro i v I oI C oC D m₂ ys h tk E' hi hv hC hx F N off ne
    obtain ⟨c9, u9, hc9, rfl⟩ := hv
    repeat' (first | (k_unfold; (try dsimp only)) | ((fail_if_success (with_reducible show wpAny _ _ (pyIter _) _ _ _)); walk1) | ((fail_if_success (with_reducible show wpAny _ _ (pyIter _) _ _ _)); dsimp only; walk1) | (leave1; walk_say "STEP leave1"; try dsimp only) | fail "no step")
    simp [chars, apB_get hc9]
  · intro ys hys
    repeat' (first | (k_unfold; (try dsimp only)) | ((fail_if_success (with_reducible show wpAny _ _ (pyIter _) _ _ _)); walk1) | ((fail_if_success (with_reducible show wpAny _ _ (pyIter _) _ _ _)); dsimp only; walk1) | (leave1; walk_say "STEP leave1"; try dsimp only) | fail "no step")
    have e : mkS (List.replicate (c - ((apD n.toNat).length : Int)).toNat 65 ++ apD n.toNat) = mkS (hexD n.toNat c.toNat) := by
      have h16 : ((16 ^ c.toNat : Nat) : Int) = (16 : Int) ^ c.toNat := by simp
      rw [← hex_ap c.toNat n.toNat (by omega)]
      congr 3
      omega
    rw [e]
    exact hret _ _ _ (by k_asm) (by first | k_asm | (refine' cb_drop ?cbN ?cbS; (case cbN => assumption); (case cbS => (intro p9 hp9; (repeat (first | exact hp9 | refine List.mem_cons_of_mem _ ?_))))))
end Mine
namespace Mine
set_option maxHeartbeats 8000000 in
theorem c_join (ls : List (List Nat)) (ys : List Value) (t : Tok) (hys : StrsAre ys (ls.map mkS)) (hyl : ys.length ≤ 4) : Ct 152 3 (∀ c ∈ ls, c.length = 3 ∧ 47 ∉ c) (.str (Str.ofString "/") t :: ys) (fun t => .str (mkS (joinL ls)) t) := by
  have : Fill PySem.Challenge.rw_rt0031_01 Mine.hd.heap_39 := by k_fill; trivial
  w_top off
  k_with_none
  k_with "call ref" => ((k_here; k_dflt (refine' Ct.use (c_fspath _ _) ?zqk1 ?zqk2 ?zqk3 ?zqk4 ?zqk5 ?zqkK ?zqkp ?zqkd ?zqku ?_; (case zqk1 => k_asm); (case zqk2 => k_asm); (case zqk3 => k_asm); (case zqk4 => k_asm); (case zqk5 => k_asm); (case zqkK => first | exact rfl | assumption); (case zqkp => first | exact True.intro | assumption | omega | (refine ⟨?_, ?_⟩ <;> omega) | fail "ct: pre"); (case zqkd => ktr_room); (case zqku => ktr_units); k_whole; intro t9 h9 tk9 F9 N9; (try dsimp only); (try k_fold))))
  k_with "call ref" => ((k_here; k_dflt (refine' Ct.use (c_get_sep _ _) ?zqk1 ?zqk2 ?zqk3 ?zqk4 ?zqk5 ?zqkK ?zqkp ?zqkd ?zqku ?_; (case zqk1 => k_asm); (case zqk2 => k_asm); (case zqk3 => k_asm); (case zqk4 => k_asm); (case zqk5 => k_asm); (case zqkK => first | exact rfl | assumption); (case zqkp => first | exact True.intro | assumption | omega | (refine ⟨?_, ?_⟩ <;> omega) | fail "ct: pre"); (case zqkd => ktr_room); (case zqku => ktr_units); k_whole; intro t9 h9 tk9 F9 N9; (try dsimp only); (try k_fold))))
  k_with "call builtin:issubclass" => ((k_here; k_dflt (refine' issub_pair ?zqk1 ?_; (case zqk1 => exact kto_N (by k_asm) (by k_mem)); k_whole; intro _; (try dsimp only))))
  k_with "call type:type" => ((k_here; (with_reducible show wpAny _ _ (call _ [Value.bytes _ _]) _ _ _); k_dflt (refine call_type_of (Tx := "bytes") rfl (by decide +kernel) ?_)))
  k_with "eval ListComp" => ((k_here; (with_reducible show wpAny _ _ (eval (Expr.ListComp _ [Comprehension.mk _ _ [] _] _ _) _) _ _ _); k_dflt (refine lc_gen (F₀ := by k_asm) (by with_unfolding_all rfl) (by decide) (by rfl) (by decide) (by rfl) ?_)))
  k_with "eval ListComp" => ((k_here; (with_reducible show wpAny _ _ (eval (Expr.ListComp _ [Comprehension.mk _ _ [_] _] _ _) _) _ _ _); k_dflt (refine lc_genT (F₀ := by k_asm) (by with_unfolding_all rfl) (by decide) (by rfl) (by decide) (by rfl) ?_)))
  k_with "exec Assign cons ListComp" => ((k_here; k_dflt (refine lc_genA (F₀ := by k_asm) (by rfl) (by with_unfolding_all rfl) (by with_unfolding_all rfl) (by decide) (by rfl) (by decide) (by rfl) (by rfl) (by rfl) ?_)))
  k_with "CompEnd" => ((refine compEnd_at (by k_asm) (by k_asm) (by intro p9 hp9; (repeat (first | exact hp9 | refine List.mem_cons_of_mem _ ?_))) (by first | assumption | (simp only [LCg.Off3, and_true]; assumption) | lcg_off) (by first | exact trivial | assumption | exact Or.inr ⟨_, by k_mem, rfl, _, rfl⟩) ?_))
  k_with "call builtin:chr" => ((k_here; refine chr_byte ?_; intro t9; (try dsimp only)))
  k_with "call builtin:str.join" => ((k_here; (with_reducible show wpAny _ _ (call (Value.builtin "str.join") [Value.str _ _, Value.ref _]) _ _ _); k_dflt (refine' join_led ?zqN ?zqm ?zqi ?zqs ?zqw ?_; (case zqN => k_asm); (case zqm => k_mem); (case zqi => assumption); (case zqs => decide); (case zqw => first | assumption | omega); k_whole; intro t9 k9; (try dsimp only))))
  k_with "exec For Name Name cons nil" => ((k_here; (rename Fr _ _ _ _ => lF'); (with_unfolding_all refine' For_invVF lF' ?zqk1 ?zqk2 ?_; (case zqk1 => exact rfl); (case zqk2 => exact rfl); k_whole)))
  k_with "call builtin:str.join" => ((k_here; (with_reducible show wpAny _ _ (call (Value.builtin "str.join") [Value.str _ _, Value.ref _]) _ _ _); k_dflt (refine' join_chars_led ?zqN ?zqm ?zqi ?zqw ?zqx ?_; (case zqN => k_asm); (case zqm => k_mem); (case zqi => assumption); (case zqw => first | assumption | omega | ((try simp only [List.length_append, List.length_replicate, List.length_cons, List.length_nil]); omega)); (case zqx => first | with_reducible exact ofS_slash | with_reducible exact ofS_A | with_reducible exact ofS_nil | with_reducible exact ofS_dot | with_reducible exact ofS_hex | with_reducible exact ofS_b64 | with_reducible exact mkS_rfl _); k_whole; intro t9 k9; (try dsimp only))))
  k_with "call builtin:len" => ((k_here; (with_reducible show wpAny _ _ (call _ [Value.str _ _]) _ _ _); k_dflt (refine' len_mk ?zqx ?zql ?_; (case zqx => first | with_reducible exact ofS_slash | with_reducible exact ofS_A | with_reducible exact ofS_nil | with_reducible exact ofS_dot | with_reducible exact ofS_hex | with_reducible exact ofS_b64 | with_reducible exact mkS_rfl _); (case zql => first | assumption | omega | ((try simp only [List.length_append, List.length_replicate, List.length_cons, List.length_nil]); omega)); k_whole; intro t9 k9; (try dsimp only))))
  k_with "truthy str" => ((k_here; k_dflt (refine' truthy_mk ?zqx ?zql ?_; (case zqx => first | with_reducible exact ofS_slash | with_reducible exact ofS_A | with_reducible exact ofS_nil | with_reducible exact ofS_dot | with_reducible exact ofS_hex | with_reducible exact ofS_b64 | with_reducible exact mkS_rfl _); (case zql => first | assumption | omega | ((try simp only [List.length_append, List.length_replicate, List.length_cons, List.length_nil]); omega)); k_whole; intro k9; (try dsimp only))))
  k_with "binaryOp Add str str" => ((k_here; k_dflt (refine' add_mk ?zqx ?zqy ?zql ?_; (case zqx => first | with_reducible exact ofS_slash | with_reducible exact ofS_A | with_reducible exact ofS_nil | with_reducible exact ofS_dot | with_reducible exact ofS_hex | with_reducible exact ofS_b64 | with_reducible exact mkS_rfl _); (case zqy => first | with_reducible exact ofS_slash | with_reducible exact ofS_A | with_reducible exact ofS_nil | with_reducible exact ofS_dot | with_reducible exact ofS_hex | with_reducible exact ofS_b64 | with_reducible exact mkS_rfl _); (case zql => first | assumption | omega | ((try simp only [List.length_append, List.length_replicate, List.length_cons, List.length_nil]); omega)); k_whole; intro t9 k9; (try dsimp only))))
  k_with "inplaceOp Add str str" => ((k_here; k_dflt (refine' iadd_mk ?zqx ?zqy ?zql ?_; (case zqx => first | with_reducible exact ofS_slash | with_reducible exact ofS_A | with_reducible exact ofS_nil | with_reducible exact ofS_dot | with_reducible exact ofS_hex | with_reducible exact ofS_b64 | with_reducible exact mkS_rfl _); (case zqy => first | with_reducible exact ofS_slash | with_reducible exact ofS_A | with_reducible exact ofS_nil | with_reducible exact ofS_dot | with_reducible exact ofS_hex | with_reducible exact ofS_b64 | with_reducible exact mkS_rfl _); (case zql => first | assumption | omega | ((try simp only [List.length_append, List.length_replicate, List.length_cons, List.length_nil]); omega)); k_whole; intro t9 k9; (try dsimp only))))
  k_with "binaryOp Mult str int" => ((k_here; k_dflt (refine' mul_mk ?zqx ?zqa ?zqb ?_; (case zqx => first | with_reducible exact ofS_slash | with_reducible exact ofS_A | with_reducible exact ofS_nil | with_reducible exact ofS_dot | with_reducible exact ofS_hex | with_reducible exact ofS_b64 | with_reducible exact mkS_rfl _); (case zqa => first | assumption | omega | ((try simp only [List.length_append, List.length_replicate, List.length_cons, List.length_nil]); omega)); (case zqb => first | assumption | omega | ((try simp only [List.length_append, List.length_replicate, List.length_cons, List.length_nil]); omega)); k_whole; intro t9 k9; (try dsimp only))))
  k_with "compareOp Eq str str" => ((k_here; k_dflt (refine' eq_mk ?zqx ?zqy ?_; (case zqx => first | with_reducible exact ofS_slash | with_reducible exact ofS_A | with_reducible exact ofS_nil | with_reducible exact ofS_dot | with_reducible exact ofS_hex | with_reducible exact ofS_b64 | with_reducible exact mkS_rfl _); (case zqy => first | with_reducible exact ofS_slash | with_reducible exact ofS_A | with_reducible exact ofS_nil | with_reducible exact ofS_dot | with_reducible exact ofS_hex | with_reducible exact ofS_b64 | with_reducible exact mkS_rfl _); k_whole)))
  k_with "subscriptTail Name Slice str ref" => ((k_here; (with_reducible rename Fr _ _ _ _ => F'); (with_reducible rename News _ _ _ _ => N'); first
    | ((refine slice_ss (s := ⟨_, _, _, _, _⟩) F' N' (by first | with_reducible exact ofS_slash | with_reducible exact ofS_A | with_reducible exact ofS_nil | with_reducible exact ofS_dot | with_reducible exact ofS_hex | with_reducible exact ofS_b64 | with_reducible exact mkS_rfl _) (by first | assumption | omega | ((try simp only [List.length_append, List.length_replicate, List.length_cons, List.length_nil]); omega)) (by first | assumption | omega | ((try simp only [List.length_append, List.length_replicate, List.length_cons, List.length_nil]); omega)) (by first | assumption | omega | ((try simp only [List.length_append, List.length_replicate, List.length_cons, List.length_nil]); omega)) ?_); intro _ _ _ _ _; (try dsimp only))
    | ((refine slice_ns (s := ⟨_, _, _, _, _⟩) F' N' (by first | with_reducible exact ofS_slash | with_reducible exact ofS_A | with_reducible exact ofS_nil | with_reducible exact ofS_dot | with_reducible exact ofS_hex | with_reducible exact ofS_b64 | with_reducible exact mkS_rfl _) (by first | assumption | omega | ((try simp only [List.length_append, List.length_replicate, List.length_cons, List.length_nil]); omega)) (by first | assumption | omega | ((try simp only [List.length_append, List.length_replicate, List.length_cons, List.length_nil]); omega)) ?_); intro _ _ _ _ _; (try dsimp only))
    | ((refine slice_sn (s := ⟨_, _, _, _, _⟩) F' N' (by first | with_reducible exact ofS_slash | with_reducible exact ofS_A | with_reducible exact ofS_nil | with_reducible exact ofS_dot | with_reducible exact ofS_hex | with_reducible exact ofS_b64 | with_reducible exact mkS_rfl _) (by first | assumption | omega | ((try simp only [List.length_append, List.length_replicate, List.length_cons, List.length_nil]); omega)) (by first | assumption | omega | ((try simp only [List.length_append, List.length_replicate, List.length_cons, List.length_nil]); omega)) ?_); intro _ _ _ _ _; (try dsimp only))))
  k_with "call ref" => ((k_here; (with_reducible show wpAny _ _ (call _ (_ :: (_ ++ []))) _ _ _); rw [List.append_nil]))
  k_with "StarOf ref" => ((k_here; k_dflt (refine' star_seq ?zqk1 ?zqk2 ?zqm ?zqc ?zqd ?zqT ?zqe ?zqz ?_; (case zqk1 => k_asm); (case zqk2 => k_asm); (case zqm => k_mem); (case zqc => exact rfl); (case zqd => exact rfl); (case zqT => first | exact .inl rfl | exact .inr rfl); (case zqe => exact rfl); (case zqz => assumption); k_whole); intro h' F' N'; (try k_sweep); try dsimp only [List.nil_append, List.cons_append]))
  k_with "subscriptTail" => ((k_here; (with_reducible show wpAny _ _ (subscriptTail _ _ (Value.str _ _) (Value.int _ _)) _ _ _); k_dflt (refine' tail_of_ItemOn (item_mk ?zqx ?zql ?zqa ?zqb ?_) ?zqhs ?zqht; (case zqx => first | with_reducible exact ofS_slash | with_reducible exact ofS_A | with_reducible exact ofS_nil | with_reducible exact ofS_dot | with_reducible exact ofS_hex | with_reducible exact ofS_b64 | with_reducible exact mkS_rfl _); (case zql => decide); (case zqa => exact fmod_lo (by decide)); (case zqb => exact fmod_hi (by decide) (by decide)); (case zqhs => with_unfolding_all rfl); (case zqht => intro _; with_unfolding_all rfl); intro t9 k9; (try dsimp only))))
  k_with "binaryOp FloorDiv int int" => ((k_here; (with_reducible show wpAny _ _ (binaryOp _ _ (Value.int (_ ^ _) _)) _ _ _); refine div_pow (by decide) (by decide) (by omega) ?_))
  k_with "compareOp NotEq str str" => ((k_here; k_dflt (refine' ne_mk ?zqx ?zqy ?_; (case zqx => first | with_reducible exact ofS_slash | with_reducible exact ofS_A | with_reducible exact ofS_nil | with_reducible exact ofS_dot | with_reducible exact ofS_hex | with_reducible exact ofS_b64 | with_reducible exact mkS_rfl _); (case zqy => first | with_reducible exact ofS_slash | with_reducible exact ofS_A | with_reducible exact ofS_nil | with_reducible exact ofS_dot | with_reducible exact ofS_hex | with_reducible exact ofS_b64 | with_reducible exact mkS_rfl _); k_whole)))
  k_with "binaryOp Pow int int" => ((k_here; refine pow_int_small (by omega) (by omega) (by decide) ?_))
  unfold Ct; intros; rename_i hpre hd hu hret
  refine wpAny_call ?_
  k_dflt cell_enter
  repeat' (first | (k_unfold; (try dsimp only)) | ((fail_if_success (with_reducible show wpAny _ _ (pyIter _) _ _ _)); (fail_if_success (with_reducible show UnrPost _ _ _ _ _ _ _ _ _)); (fail_if_success (with_reducible show UnrEnd _ _ _ _ _ _ _)); walk1) | ((fail_if_success (with_reducible show wpAny _ _ (pyIter _) _ _ _)); (fail_if_success (with_reducible show UnrPost _ _ _ _ _ _ _ _ _)); (fail_if_success (with_reducible show UnrEnd _ _ _ _ _ _ _)); dsimp only; walk1) | (leave1; walk_say "STEP leave1"; try dsimp only) | fail "no step")
  rename Fr _ _ _ _ => F9
  rename News _ _ _ _ => N9
  have hsl : (Value.str (Str.ofString "/") t) = .str (mkS [47]) t := by rw [ofS_slash]
  k_dflt (refine loop_join (ls := ls) (t := t) rfl F9 N9 rfl rfl (by k_mem) (congrArg some hsl) hys ?_ ?_)
  · intro I i c t1 t2 z oI h tk hi off F9' N9'
    have hc := hpre c (List.mem_of_getElem? hi)
    clear F9 N9
    have hsw := sw_slash hc.2
    have hl4 : ls.length ≤ 4 := by have := strsAre_len hys; rw [List.length_map] at this; omega
    have hll : (joinL (ls.take i)).length ≤ 100 := joinL_len hl4 hpre
    have hc3 := hc.1
    have hne := joinL_ne (ls.take i)
    have hew := ew_slash (joinL (ls.take i))
    repeat' (first | (k_unfold; (try dsimp only)) | ((fail_if_success (with_reducible show wpAny _ _ (pyIter _) _ _ _)); (fail_if_success (with_reducible show UnrPost _ _ _ _ _ _ _ _ _)); (fail_if_success (with_reducible show UnrEnd _ _ _ _ _ _ _)); walk1) | ((fail_if_success (with_reducible show wpAny _ _ (pyIter _) _ _ _)); (fail_if_success (with_reducible show UnrPost _ _ _ _ _ _ _ _ _)); (fail_if_success (with_reducible show UnrEnd _ _ _ _ _ _ _)); dsimp only; walk1) | (leave1; walk_say "STEP leave1"; try dsimp only) | fail "no step")
    · rename Txt.endswith _ _ = _ => he
      rw [hew] at he
      refine join_end (by k_asm) (by k_asm) (fun p hp => hp) off (by k_mem) (by rfl) (by rw [joinL_succ hi, if_pos he]) (by rfl) ?_
      intro y h1 h2
      simp only [if_neg h1, if_neg h2]
    · rename Txt.endswith _ _ = _ => he
      rw [hew] at he
      refine join_end (by k_asm) (by k_asm) (fun p hp => hp) off (by k_mem) (by rfl) (by rw [joinL_succ hi, if_neg (by simp [he])]) (by rfl) ?_
      intro y h1 h2
      simp only [if_neg h1, if_neg h2]
  · intro z t2 h tk F9' N9'
    clear F9 N9
    repeat' (first | (k_unfold; (try dsimp only)) | ((fail_if_success (with_reducible show wpAny _ _ (pyIter _) _ _ _)); (fail_if_success (with_reducible show UnrPost _ _ _ _ _ _ _ _ _)); (fail_if_success (with_reducible show UnrEnd _ _ _ _ _ _ _)); walk1) | ((fail_if_success (with_reducible show wpAny _ _ (pyIter _) _ _ _)); (fail_if_success (with_reducible show UnrPost _ _ _ _ _ _ _ _ _)); (fail_if_success (with_reducible show UnrEnd _ _ _ _ _ _ _)); dsimp only; walk1) | (leave1; walk_say "STEP leave1"; try dsimp only) | fail "no step")
    exact hret _ _ _ (by k_asm) (by first | k_asm | (refine' cb_drop ?cbN ?cbS; (case cbN => assumption); (case cbS => (intro p9 hp9; (repeat (first | exact hp9 | refine List.mem_cons_of_mem _ ?_))))))
end Mine
namespace Mine
theorem rs3 {f : Int} (h0 : 0 ≤ f) (h4 : f ≤ 4) : Builtin.Range.rangeSize 0 (3 * f) 3 = ((f.toNat : Nat) : Int) := by
  have : f = 0 ∨ f = 1 ∨ f = 2 ∨ f = 3 ∨ f = 4 := by omega
  rcases this with rfl | rfl | rfl | rfl | rfl <;> decide
theorem sm3 {f : Int} (h0 : 0 ≤ f) (h4 : f ≤ 4) : Builtin.Range.small 0 (3 * f) 3 = true := by
  have : f = 0 ∨ f = 1 ∨ f = 2 ∨ f = 3 ∨ f = 4 := by omega
  rcases this with rfl | rfl | rfl | rfl | rfl <;> decide
theorem pow3 {n f : Int} (h1 : 0 ≤ f) (h4 : f ≤ 4) (h : n < 4096 ^ f.toNat) : n < 16 ^ (3 * f).toNat := by
  have : f = 0 ∨ f = 1 ∨ f = 2 ∨ f = 3 ∨ f = 4 := by omega
  rcases this with rfl | rfl | rfl | rfl | rfl <;> exact h
set_option maxHeartbeats 8000000 in
theorem c_path (n f : Int) (t t' : Tok) : Ct 181 5 (0 ≤ n ∧ n < 2 ^ 48 ∧ 1 ≤ f ∧ f ≤ 4 ∧ n < 4096 ^ f.toNat) [.int n t, .int f t'] (fun t => .str (mkS (pathL n.toNat f.toNat)) t) := by
  have : Fill PySem.Challenge.rw_rt0031_01 Mine.hd.heap_39 := by k_fill; trivial
  w_top off
  k_with_none
  k_with "call ref" => ((k_here; k_dflt (refine' Ct.use (c_letters _ _ _ _) ?zqk1 ?zqk2 ?zqk3 ?zqk4 ?zqk5 ?zqkK ?zqkp ?zqkd ?zqku ?_; (case zqk1 => k_asm); (case zqk2 => k_asm); (case zqk3 => k_asm); (case zqk4 => k_asm); (case zqk5 => k_asm); (case zqkK => first | exact rfl | assumption); (case zqkp => first | exact True.intro | assumption | omega | (refine ⟨?_, ?_⟩ <;> omega) | fail "ct: pre"); (case zqkd => ktr_room); (case zqku => ktr_units); k_whole; intro t9 h9 tk9 F9 N9; (try dsimp only); (try k_fold))))
  k_with "call ref" => ((k_here; k_dflt (refine' Ct.use (c_join _ _ _ ?zqhys ?zqhyl) ?zqk1 ?zqk2 ?zqk3 ?zqk4 ?zqk5 ?zqkK ?zqkp ?zqkd ?zqku ?_; (case zqk1 => k_asm); (case zqk2 => k_asm); (case zqk3 => k_asm); (case zqk4 => k_asm); (case zqk5 => k_asm); (case zqkK => first | exact rfl | assumption); (case zqhys => assumption); (case zqhyl => assumption); (case zqkp => first | exact True.intro | assumption | omega | (refine ⟨?_, ?_⟩ <;> omega) | fail "ct: pre"); (case zqkd => ktr_room); (case zqku => ktr_units); k_whole; intro t9 h9 tk9 F9 N9; (try dsimp only); (try k_fold))))
  k_with "call builtin:issubclass" => ((k_here; k_dflt (refine' issub_pair ?zqk1 ?_; (case zqk1 => exact kto_N (by k_asm) (by k_mem)); k_whole; intro _; (try dsimp only))))
  k_with "call type:type" => ((k_here; (with_reducible show wpAny _ _ (call _ [Value.bytes _ _]) _ _ _); k_dflt (refine call_type_of (Tx := "bytes") rfl (by decide +kernel) ?_)))
  k_with "eval ListComp" => ((k_here; (with_reducible show wpAny _ _ (eval (Expr.ListComp _ [Comprehension.mk _ _ [] _] _ _) _) _ _ _); k_dflt (refine lc_gen (F₀ := by k_asm) (by with_unfolding_all rfl) (by decide) (by rfl) (by decide) (by rfl) ?_)))
  k_with "eval ListComp" => ((k_here; (with_reducible show wpAny _ _ (eval (Expr.ListComp _ [Comprehension.mk _ _ [_] _] _ _) _) _ _ _); k_dflt (refine lc_genT (F₀ := by k_asm) (by with_unfolding_all rfl) (by decide) (by rfl) (by decide) (by rfl) ?_)))
  k_with "exec Assign cons ListComp" => ((k_here; k_dflt (refine lc_genA (F₀ := by k_asm) (by rfl) (by with_unfolding_all rfl) (by with_unfolding_all rfl) (by decide) (by rfl) (by decide) (by rfl) (by rfl) (by rfl) ?_)))
  k_with "CompEnd" => ((refine compEnd_at (by k_asm) (by k_asm) (by intro p9 hp9; (repeat (first | exact hp9 | refine List.mem_cons_of_mem _ ?_))) (by first | assumption | (simp only [LCg.Off3, and_true]; assumption) | lcg_off) (by first | exact trivial | assumption | exact Or.inr ⟨_, by k_mem, rfl, _, rfl⟩) ?_))
  k_with "call builtin:chr" => ((k_here; refine chr_byte ?_; intro t9; (try dsimp only)))
  k_with "call builtin:str.join" => ((k_here; (with_reducible show wpAny _ _ (call (Value.builtin "str.join") [Value.str _ _, Value.ref _]) _ _ _); k_dflt (refine' join_led ?zqN ?zqm ?zqi ?zqs ?zqw ?_; (case zqN => k_asm); (case zqm => k_mem); (case zqi => assumption); (case zqs => decide); (case zqw => first | assumption | omega); k_whole; intro t9 k9; (try dsimp only))))
  k_with "exec For Name Name cons nil" => ((k_here; (rename Fr _ _ _ _ => lF'); (with_unfolding_all refine' For_invVF lF' ?zqk1 ?zqk2 ?_; (case zqk1 => exact rfl); (case zqk2 => exact rfl); k_whole)))
  k_with "call builtin:str.join" => ((k_here; (with_reducible show wpAny _ _ (call (Value.builtin "str.join") [Value.str _ _, Value.ref _]) _ _ _); k_dflt (refine' join_chars_led ?zqN ?zqm ?zqi ?zqw ?zqx ?_; (case zqN => k_asm); (case zqm => k_mem); (case zqi => assumption); (case zqw => first | assumption | omega | ((try simp only [List.length_append, List.length_replicate, List.length_cons, List.length_nil]); omega)); (case zqx => first | with_reducible exact ofS_slash | with_reducible exact ofS_A | with_reducible exact ofS_nil | with_reducible exact ofS_dot | with_reducible exact ofS_hex | with_reducible exact ofS_b64 | with_reducible exact mkS_rfl _); k_whole; intro t9 k9; (try dsimp only))))
  k_with "call builtin:len" => ((k_here; (with_reducible show wpAny _ _ (call _ [Value.str _ _]) _ _ _); k_dflt (refine' len_mk ?zqx ?zql ?_; (case zqx => first | with_reducible exact ofS_slash | with_reducible exact ofS_A | with_reducible exact ofS_nil | with_reducible exact ofS_dot | with_reducible exact ofS_hex | with_reducible exact ofS_b64 | with_reducible exact mkS_rfl _); (case zql => first | assumption | omega | ((try simp only [List.length_append, List.length_replicate, List.length_cons, List.length_nil]); omega)); k_whole; intro t9 k9; (try dsimp only))))
  k_with "truthy str" => ((k_here; k_dflt (refine' truthy_mk ?zqx ?zql ?_; (case zqx => first | with_reducible exact ofS_slash | with_reducible exact ofS_A | with_reducible exact ofS_nil | with_reducible exact ofS_dot | with_reducible exact ofS_hex | with_reducible exact ofS_b64 | with_reducible exact mkS_rfl _); (case zql => first | assumption | omega | ((try simp only [List.length_append, List.length_replicate, List.length_cons, List.length_nil]); omega)); k_whole; intro k9; (try dsimp only))))
  k_with "binaryOp Add str str" => ((k_here; k_dflt (refine' add_mk ?zqx ?zqy ?zql ?_; (case zqx => first | with_reducible exact ofS_slash | with_reducible exact ofS_A | with_reducible exact ofS_nil | with_reducible exact ofS_dot | with_reducible exact ofS_hex | with_reducible exact ofS_b64 | with_reducible exact mkS_rfl _); (case zqy => first | with_reducible exact ofS_slash | with_reducible exact ofS_A | with_reducible exact ofS_nil | with_reducible exact ofS_dot | with_reducible exact ofS_hex | with_reducible exact ofS_b64 | with_reducible exact mkS_rfl _); (case zql => first | assumption | omega | ((try simp only [List.length_append, List.length_replicate, List.length_cons, List.length_nil]); omega)); k_whole; intro t9 k9; (try dsimp only))))
  k_with "inplaceOp Add str str" => ((k_here; k_dflt (refine' iadd_mk ?zqx ?zqy ?zql ?_; (case zqx => first | with_reducible exact ofS_slash | with_reducible exact ofS_A | with_reducible exact ofS_nil | with_reducible exact ofS_dot | with_reducible exact ofS_hex | with_reducible exact ofS_b64 | with_reducible exact mkS_rfl _); (case zqy => first | with_reducible exact ofS_slash | with_reducible exact ofS_A | with_reducible exact ofS_nil | with_reducible exact ofS_dot | with_reducible exact ofS_hex | with_reducible exact ofS_b64 | with_reducible exact mkS_rfl _); (case zql => first | assumption | omega | ((try simp only [List.length_append, List.length_replicate, List.length_cons, List.length_nil]); omega)); k_whole; intro t9 k9; (try dsimp only))))
  k_with "binaryOp Mult str int" => ((k_here; k_dflt (refine' mul_mk ?zqx ?zqa ?zqb ?_; (case zqx => first | with_reducible exact ofS_slash | with_reducible exact ofS_A | with_reducible exact ofS_nil | with_reducible exact ofS_dot | with_reducible exact ofS_hex | with_reducible exact ofS_b64 | with_reducible exact mkS_rfl _); (case zqa => first | assumption | omega | ((try simp only [List.length_append, List.length_replicate, List.length_cons, List.length_nil]); omega)); (case zqb => first | assumption | omega | ((try simp only [List.length_append, List.length_replicate, List.length_cons, List.length_nil]); omega)); k_whole; intro t9 k9; (try dsimp only))))
  k_with "compareOp Eq str str" => ((k_here; k_dflt (refine' eq_mk ?zqx ?zqy ?_; (case zqx => first | with_reducible exact ofS_slash | with_reducible exact ofS_A | with_reducible exact ofS_nil | with_reducible exact ofS_dot | with_reducible exact ofS_hex | with_reducible exact ofS_b64 | with_reducible exact mkS_rfl _); (case zqy => first | with_reducible exact ofS_slash | with_reducible exact ofS_A | with_reducible exact ofS_nil | with_reducible exact ofS_dot | with_reducible exact ofS_hex | with_reducible exact ofS_b64 | with_reducible exact mkS_rfl _); k_whole)))
  k_with "subscriptTail Name Slice str ref" => ((k_here; (with_reducible rename Fr _ _ _ _ => F'); (with_reducible rename News _ _ _ _ => N'); first
    | ((refine slice_ss (s := ⟨_, _, _, _, _⟩) F' N' (by first | with_reducible exact ofS_slash | with_reducible exact ofS_A | with_reducible exact ofS_nil | with_reducible exact ofS_dot | with_reducible exact ofS_hex | with_reducible exact ofS_b64 | with_reducible exact mkS_rfl _) (by first | assumption | omega | ((try simp only [List.length_append, List.length_replicate, List.length_cons, List.length_nil]); omega)) (by first | assumption | omega | ((try simp only [List.length_append, List.length_replicate, List.length_cons, List.length_nil]); omega)) (by first | assumption | omega | ((try simp only [List.length_append, List.length_replicate, List.length_cons, List.length_nil]); omega)) ?_); intro _ _ _ _ _; (try dsimp only))
    | ((refine slice_ns (s := ⟨_, _, _, _, _⟩) F' N' (by first | with_reducible exact ofS_slash | with_reducible exact ofS_A | with_reducible exact ofS_nil | with_reducible exact ofS_dot | with_reducible exact ofS_hex | with_reducible exact ofS_b64 | with_reducible exact mkS_rfl _) (by first | assumption | omega | ((try simp only [List.length_append, List.length_replicate, List.length_cons, List.length_nil]); omega)) (by first | assumption | omega | ((try simp only [List.length_append, List.length_replicate, List.length_cons, List.length_nil]); omega)) ?_); intro _ _ _ _ _; (try dsimp only))
    | ((refine slice_sn (s := ⟨_, _, _, _, _⟩) F' N' (by first | with_reducible exact ofS_slash | with_reducible exact ofS_A | with_reducible exact ofS_nil | with_reducible exact ofS_dot | with_reducible exact ofS_hex | with_reducible exact ofS_b64 | with_reducible exact mkS_rfl _) (by first | assumption | omega | ((try simp only [List.length_append, List.length_replicate, List.length_cons, List.length_nil]); omega)) (by first | assumption | omega | ((try simp only [List.length_append, List.length_replicate, List.length_cons, List.length_nil]); omega)) ?_); intro _ _ _ _ _; (try dsimp only))))
  k_with "call ref" => ((k_here; (with_reducible show wpAny _ _ (call _ (_ :: (_ ++ []))) _ _ _); rw [List.append_nil]))
  k_with "StarOf ref" => ((k_here; k_dflt (refine' star_seq ?zqk1 ?zqk2 ?zqm ?zqc ?zqd ?zqT ?zqe ?zqz ?_; (case zqk1 => k_asm); (case zqk2 => k_asm); (case zqm => k_mem); (case zqc => exact rfl); (case zqd => exact rfl); (case zqT => first | exact .inl rfl | exact .inr rfl); (case zqe => exact rfl); (case zqz => assumption); k_whole); intro h' F' N'; (try k_sweep); try dsimp only [List.nil_append, List.cons_append]))
  k_with "subscriptTail" => ((k_here; (with_reducible show wpAny _ _ (subscriptTail _ _ (Value.str _ _) (Value.int _ _)) _ _ _); k_dflt (refine' tail_of_ItemOn (item_mk ?zqx ?zql ?zqa ?zqb ?_) ?zqhs ?zqht; (case zqx => first | with_reducible exact ofS_slash | with_reducible exact ofS_A | with_reducible exact ofS_nil | with_reducible exact ofS_dot | with_reducible exact ofS_hex | with_reducible exact ofS_b64 | with_reducible exact mkS_rfl _); (case zql => decide); (case zqa => exact fmod_lo (by decide)); (case zqb => exact fmod_hi (by decide) (by decide)); (case zqhs => with_unfolding_all rfl); (case zqht => intro _; with_unfolding_all rfl); intro t9 k9; (try dsimp only))))
  k_with "binaryOp FloorDiv int int" => ((k_here; (with_reducible show wpAny _ _ (binaryOp _ _ (Value.int (_ ^ _) _)) _ _ _); refine div_pow (by decide) (by decide) (by omega) ?_))
  k_with "compareOp NotEq str str" => ((k_here; k_dflt (refine' ne_mk ?zqx ?zqy ?_; (case zqx => first | with_reducible exact ofS_slash | with_reducible exact ofS_A | with_reducible exact ofS_nil | with_reducible exact ofS_dot | with_reducible exact ofS_hex | with_reducible exact ofS_b64 | with_reducible exact mkS_rfl _); (case zqy => first | with_reducible exact ofS_slash | with_reducible exact ofS_A | with_reducible exact ofS_nil | with_reducible exact ofS_dot | with_reducible exact ofS_hex | with_reducible exact ofS_b64 | with_reducible exact mkS_rfl _); k_whole)))
  k_with "binaryOp Pow int int" => ((k_here; refine pow_int_small (by omega) (by omega) (by decide) ?_))
  unfold Ct; intros; rename_i hpre hd hu hret
  refine wpAny_call ?_
  obtain ⟨hn0, hn1, hf1, hf4, hnf⟩ := hpre
  have hpL : 0 ≤ n ∧ n < 2 ^ 48 ∧ n < 16 ^ (3 * f).toNat ∧ 0 ≤ 3 * f ∧ 3 * f ≤ 12 := ⟨hn0, hn1, pow3 (by omega) hf4 hnf, by omega, by omega⟩
  k_dflt cell_enter
  repeat' (first | (k_unfold; (try dsimp only)) | ((fail_if_success (with_reducible show wpAny _ _ (pyIter _) _ _ _)); walk1) | ((fail_if_success (with_reducible show wpAny _ _ (pyIter _) _ _ _)); dsimp only; walk1) | (leave1; walk_say "STEP leave1"; try dsimp only) | fail "no step")
  rename IsRange _ _ _ _ _ _ _ _ => hr9
  refine src_range (n := f.toNat) rfl hr9 (sm3 (by omega) hf4) (rs3 (by omega) hf4) (by rw [sizeLine_eq]; omega) (by k_asm) (by k_asm) ?_
  intro s₂ hs; obtain ⟨g9, rfl⟩ := hs
  have hll : (hexD n.toNat (3 * f).toNat).length ≤ 1000 := by simp only [hexD, List.length_map, List.length_range]; omega
  refine rest_strsL ((flds n.toNat f.toNat).map mkS) (by simp [flds]) ?_ ?_
  · intro i v I oI C oC D m₂ ys h tk E' hi hv hC hx F N off ne
    obtain ⟨t9, rfl⟩ := hv
    repeat' (first | (k_unfold; (try dsimp only)) | ((fail_if_success (with_reducible show wpAny _ _ (pyIter _) _ _ _)); walk1) | ((fail_if_success (with_reducible show wpAny _ _ (pyIter _) _ _ _)); dsimp only; walk1) | (leave1; walk_say "STEP leave1"; try dsimp only) | fail "no step")
    have e1 : (0 + (i : Int) * 3).toNat = 3 * i := by omega
    have e2 : (0 + (i : Int) * 3 + 3).toNat - 3 * i = 3 := by omega
    have e3 : (3 * f).toNat = 3 * f.toNat := by omega
    rw [e1, e2, e3, cut_fld _ _ _ (by omega) hi, List.getElem?_map]
    simp [flds, hi]
  · intro ys hys
    have hyl : ys.length ≤ 4 := by rw [strsAre_len hys]; simp [flds]; omega
    have hyz : ys.toArray.size ≤ sizeLine := by rw [sizeLine_eq, List.size_toArray]; omega
    have hok := flds_ok n.toNat f.toNat
    have hj : joinL (flds n.toNat f.toNat) = pathL n.toNat f.toNat := by
      unfold pathL
      rw [if_neg (by omega), joinL_eq hok]
      intro e
      have := congrArg List.length e
      simp [flds] at this
      omega
    repeat' (first | (k_unfold; (try dsimp only)) | ((fail_if_success (with_reducible show wpAny _ _ (pyIter _) _ _ _)); walk1) | ((fail_if_success (with_reducible show wpAny _ _ (pyIter _) _ _ _)); dsimp only; walk1) | (leave1; walk_say "STEP leave1"; try dsimp only) | fail "no step")
    rw [hj]
    exact hret _ _ _ (by k_asm) (by first | k_asm | (refine' cb_drop ?cbN ?cbS; (case cbN => assumption); (case cbS => (intro p9 hp9; (repeat (first | exact hp9 | refine List.mem_cons_of_mem _ ?_))))))
end Mine
namespace Mine
set_option maxHeartbeats 8000000 in
theorem c_plain (n f : Int) (t t' : Tok) : Ct 191 1 (0 ≤ n ∧ n < 2 ^ 48 ∧ 0 ≤ f ∧ f ≤ 4) [.int n t, .int f t'] (fun t => .str (mkS (pathL n.toNat f.toNat)) t) := by
  have : Fill PySem.Challenge.rw_rt0031_01 Mine.hd.heap_39 := by k_fill; trivial
  w_top off
  k_with_none
  k_with "call builtin:issubclass" => ((k_here; k_dflt (refine' issub_pair ?zqk1 ?_; (case zqk1 => exact kto_N (by k_asm) (by k_mem)); k_whole; intro _; (try dsimp only))))
  k_with "call type:type" => ((k_here; (with_reducible show wpAny _ _ (call _ [Value.bytes _ _]) _ _ _); k_dflt (refine call_type_of (Tx := "bytes") rfl (by decide +kernel) ?_)))
  k_with "eval ListComp" => ((k_here; (with_reducible show wpAny _ _ (eval (Expr.ListComp _ [Comprehension.mk _ _ [] _] _ _) _) _ _ _); k_dflt (refine lc_gen (F₀ := by k_asm) (by with_unfolding_all rfl) (by decide) (by rfl) (by decide) (by rfl) ?_)))
  k_with "eval ListComp" => ((k_here; (with_reducible show wpAny _ _ (eval (Expr.ListComp _ [Comprehension.mk _ _ [_] _] _ _) _) _ _ _); k_dflt (refine lc_genT (F₀ := by k_asm) (by with_unfolding_all rfl) (by decide) (by rfl) (by decide) (by rfl) ?_)))
  k_with "exec Assign cons ListComp" => ((k_here; k_dflt (refine lc_genA (F₀ := by k_asm) (by rfl) (by with_unfolding_all rfl) (by with_unfolding_all rfl) (by decide) (by rfl) (by decide) (by rfl) (by rfl) (by rfl) ?_)))
  k_with "CompEnd" => ((refine compEnd_at (by k_asm) (by k_asm) (by intro p9 hp9; (repeat (first | exact hp9 | refine List.mem_cons_of_mem _ ?_))) (by first | assumption | (simp only [LCg.Off3, and_true]; assumption) | lcg_off) (by first | exact trivial | assumption | exact Or.inr ⟨_, by k_mem, rfl, _, rfl⟩) ?_))
  k_with "call builtin:chr" => ((k_here; refine chr_byte ?_; intro t9; (try dsimp only)))
  k_with "call builtin:str.join" => ((k_here; (with_reducible show wpAny _ _ (call (Value.builtin "str.join") [Value.str _ _, Value.ref _]) _ _ _); k_dflt (refine' join_led ?zqN ?zqm ?zqi ?zqs ?zqw ?_; (case zqN => k_asm); (case zqm => k_mem); (case zqi => assumption); (case zqs => decide); (case zqw => first | assumption | omega); k_whole; intro t9 k9; (try dsimp only))))
  k_with "exec For Name Name cons nil" => ((k_here; (rename Fr _ _ _ _ => lF'); (with_unfolding_all refine' For_invVF lF' ?zqk1 ?zqk2 ?_; (case zqk1 => exact rfl); (case zqk2 => exact rfl); k_whole)))
  k_with "call builtin:str.join" => ((k_here; (with_reducible show wpAny _ _ (call (Value.builtin "str.join") [Value.str _ _, Value.ref _]) _ _ _); k_dflt (refine' join_chars_led ?zqN ?zqm ?zqi ?zqw ?zqx ?_; (case zqN => k_asm); (case zqm => k_mem); (case zqi => assumption); (case zqw => first | assumption | omega | ((try simp only [List.length_append, List.length_replicate, List.length_cons, List.length_nil]); omega)); (case zqx => first | with_reducible exact ofS_slash | with_reducible exact ofS_A | with_reducible exact ofS_nil | with_reducible exact ofS_dot | with_reducible exact ofS_hex | with_reducible exact ofS_b64 | with_reducible exact mkS_rfl _); k_whole; intro t9 k9; (try dsimp only))))
  k_with "call builtin:len" => ((k_here; (with_reducible show wpAny _ _ (call _ [Value.str _ _]) _ _ _); k_dflt (refine' len_mk ?zqx ?zql ?_; (case zqx => first | with_reducible exact ofS_slash | with_reducible exact ofS_A | with_reducible exact ofS_nil | with_reducible exact ofS_dot | with_reducible exact ofS_hex | with_reducible exact ofS_b64 | with_reducible exact mkS_rfl _); (case zql => first | assumption | omega | ((try simp only [List.length_append, List.length_replicate, List.length_cons, List.length_nil]); omega)); k_whole; intro t9 k9; (try dsimp only))))
  k_with "truthy str" => ((k_here; k_dflt (refine' truthy_mk ?zqx ?zql ?_; (case zqx => first | with_reducible exact ofS_slash | with_reducible exact ofS_A | with_reducible exact ofS_nil | with_reducible exact ofS_dot | with_reducible exact ofS_hex | with_reducible exact ofS_b64 | with_reducible exact mkS_rfl _); (case zql => first | assumption | omega | ((try simp only [List.length_append, List.length_replicate, List.length_cons, List.length_nil]); omega)); k_whole; intro k9; (try dsimp only))))
  k_with "binaryOp Add str str" => ((k_here; k_dflt (refine' add_mk ?zqx ?zqy ?zql ?_; (case zqx => first | with_reducible exact ofS_slash | with_reducible exact ofS_A | with_reducible exact ofS_nil | with_reducible exact ofS_dot | with_reducible exact ofS_hex | with_reducible exact ofS_b64 | with_reducible exact mkS_rfl _); (case zqy => first | with_reducible exact ofS_slash | with_reducible exact ofS_A | with_reducible exact ofS_nil | with_reducible exact ofS_dot | with_reducible exact ofS_hex | with_reducible exact ofS_b64 | with_reducible exact mkS_rfl _); (case zql => first | assumption | omega | ((try simp only [List.length_append, List.length_replicate, List.length_cons, List.length_nil]); omega)); k_whole; intro t9 k9; (try dsimp only))))
  k_with "inplaceOp Add str str" => ((k_here; k_dflt (refine' iadd_mk ?zqx ?zqy ?zql ?_; (case zqx => first | with_reducible exact ofS_slash | with_reducible exact ofS_A | with_reducible exact ofS_nil | with_reducible exact ofS_dot | with_reducible exact ofS_hex | with_reducible exact ofS_b64 | with_reducible exact mkS_rfl _); (case zqy => first | with_reducible exact ofS_slash | with_reducible exact ofS_A | with_reducible exact ofS_nil | with_reducible exact ofS_dot | with_reducible exact ofS_hex | with_reducible exact ofS_b64 | with_reducible exact mkS_rfl _); (case zql => first | assumption | omega | ((try simp only [List.length_append, List.length_replicate, List.length_cons, List.length_nil]); omega)); k_whole; intro t9 k9; (try dsimp only))))
  k_with "binaryOp Mult str int" => ((k_here; k_dflt (refine' mul_mk ?zqx ?zqa ?zqb ?_; (case zqx => first | with_reducible exact ofS_slash | with_reducible exact ofS_A | with_reducible exact ofS_nil | with_reducible exact ofS_dot | with_reducible exact ofS_hex | with_reducible exact ofS_b64 | with_reducible exact mkS_rfl _); (case zqa => first | assumption | omega | ((try simp only [List.length_append, List.length_replicate, List.length_cons, List.length_nil]); omega)); (case zqb => first | assumption | omega | ((try simp only [List.length_append, List.length_replicate, List.length_cons, List.length_nil]); omega)); k_whole; intro t9 k9; (try dsimp only))))
  k_with "compareOp Eq str str" => ((k_here; k_dflt (refine' eq_mk ?zqx ?zqy ?_; (case zqx => first | with_reducible exact ofS_slash | with_reducible exact ofS_A | with_reducible exact ofS_nil | with_reducible exact ofS_dot | with_reducible exact ofS_hex | with_reducible exact ofS_b64 | with_reducible exact mkS_rfl _); (case zqy => first | with_reducible exact ofS_slash | with_reducible exact ofS_A | with_reducible exact ofS_nil | with_reducible exact ofS_dot | with_reducible exact ofS_hex | with_reducible exact ofS_b64 | with_reducible exact mkS_rfl _); k_whole)))
  k_with "subscriptTail Name Slice str ref" => ((k_here; (with_reducible rename Fr _ _ _ _ => F'); (with_reducible rename News _ _ _ _ => N'); first
    | ((refine slice_ss (s := ⟨_, _, _, _, _⟩) F' N' (by first | with_reducible exact ofS_slash | with_reducible exact ofS_A | with_reducible exact ofS_nil | with_reducible exact ofS_dot | with_reducible exact ofS_hex | with_reducible exact ofS_b64 | with_reducible exact mkS_rfl _) (by first | assumption | omega | ((try simp only [List.length_append, List.length_replicate, List.length_cons, List.length_nil]); omega)) (by first | assumption | omega | ((try simp only [List.length_append, List.length_replicate, List.length_cons, List.length_nil]); omega)) (by first | assumption | omega | ((try simp only [List.length_append, List.length_replicate, List.length_cons, List.length_nil]); omega)) ?_); intro _ _ _ _ _; (try dsimp only))
    | ((refine slice_ns (s := ⟨_, _, _, _, _⟩) F' N' (by first | with_reducible exact ofS_slash | with_reducible exact ofS_A | with_reducible exact ofS_nil | with_reducible exact ofS_dot | with_reducible exact ofS_hex | with_reducible exact ofS_b64 | with_reducible exact mkS_rfl _) (by first | assumption | omega | ((try simp only [List.length_append, List.length_replicate, List.length_cons, List.length_nil]); omega)) (by first | assumption | omega | ((try simp only [List.length_append, List.length_replicate, List.length_cons, List.length_nil]); omega)) ?_); intro _ _ _ _ _; (try dsimp only))
    | ((refine slice_sn (s := ⟨_, _, _, _, _⟩) F' N' (by first | with_reducible exact ofS_slash | with_reducible exact ofS_A | with_reducible exact ofS_nil | with_reducible exact ofS_dot | with_reducible exact ofS_hex | with_reducible exact ofS_b64 | with_reducible exact mkS_rfl _) (by first | assumption | omega | ((try simp only [List.length_append, List.length_replicate, List.length_cons, List.length_nil]); omega)) (by first | assumption | omega | ((try simp only [List.length_append, List.length_replicate, List.length_cons, List.length_nil]); omega)) ?_); intro _ _ _ _ _; (try dsimp only))))
  k_with "call ref" => ((k_here; (with_reducible show wpAny _ _ (call _ (_ :: (_ ++ []))) _ _ _); rw [List.append_nil]))
  k_with "StarOf ref" => ((k_here; k_dflt (refine' star_seq ?zqk1 ?zqk2 ?zqm ?zqc ?zqd ?zqT ?zqe ?zqz ?_; (case zqk1 => k_asm); (case zqk2 => k_asm); (case zqm => k_mem); (case zqc => exact rfl); (case zqd => exact rfl); (case zqT => first | exact .inl rfl | exact .inr rfl); (case zqe => exact rfl); (case zqz => assumption); k_whole); intro h' F' N'; (try k_sweep); try dsimp only [List.nil_append, List.cons_append]))
  k_with "subscriptTail" => ((k_here; (with_reducible show wpAny _ _ (subscriptTail _ _ (Value.str _ _) (Value.int _ _)) _ _ _); k_dflt (refine' tail_of_ItemOn (item_mk ?zqx ?zql ?zqa ?zqb ?_) ?zqhs ?zqht; (case zqx => first | with_reducible exact ofS_slash | with_reducible exact ofS_A | with_reducible exact ofS_nil | with_reducible exact ofS_dot | with_reducible exact ofS_hex | with_reducible exact ofS_b64 | with_reducible exact mkS_rfl _); (case zql => decide); (case zqa => exact fmod_lo (by decide)); (case zqb => exact fmod_hi (by decide) (by decide)); (case zqhs => with_unfolding_all rfl); (case zqht => intro _; with_unfolding_all rfl); intro t9 k9; (try dsimp only))))
  k_with "binaryOp FloorDiv int int" => ((k_here; (with_reducible show wpAny _ _ (binaryOp _ _ (Value.int (_ ^ _) _)) _ _ _); refine div_pow (by decide) (by decide) (by omega) ?_))
  k_with "compareOp NotEq str str" => ((k_here; k_dflt (refine' ne_mk ?zqx ?zqy ?_; (case zqx => first | with_reducible exact ofS_slash | with_reducible exact ofS_A | with_reducible exact ofS_nil | with_reducible exact ofS_dot | with_reducible exact ofS_hex | with_reducible exact ofS_b64 | with_reducible exact mkS_rfl _); (case zqy => first | with_reducible exact ofS_slash | with_reducible exact ofS_A | with_reducible exact ofS_nil | with_reducible exact ofS_dot | with_reducible exact ofS_hex | with_reducible exact ofS_b64 | with_reducible exact mkS_rfl _); k_whole)))
  k_with "binaryOp Pow int int" => ((k_here; refine pow_int_small (by omega) (by omega) (by decide) ?_))
  k_with "call builtin:str.join" => ((k_here; (with_reducible show wpAny _ _ (call (Value.builtin "str.join") [Value.str _ _, Value.ref _]) _ _ _); k_dflt (refine' join_slash_led ?zqN ?zqm ?zqi ?zqw ?zql ?zqx ?_; (case zqN => k_asm); (case zqm => k_mem); (case zqi => assumption); (case zqw => exact flds_ok _ _); (case zql => rw [flds_len]; omega); (case zqx => with_reducible exact ofS_slash); k_whole; intro t9 k9; (try dsimp only))))
  unfold Ct; intros; rename_i hpre hd hu hret
  refine wpAny_call ?_
  obtain ⟨hn0, hn1, hf0, hf4⟩ := hpre
  k_dflt cell_enter
  repeat' (first | (k_unfold; (try dsimp only)) | ((fail_if_success (with_reducible show wpAny _ _ (pyIter _) _ _ _)); walk1) | ((fail_if_success (with_reducible show wpAny _ _ (pyIter _) _ _ _)); dsimp only; walk1) | (leave1; walk_say "STEP leave1"; try dsimp only) | fail "no step")
  rename IsRange _ _ _ _ _ _ _ _ => hr9
  refine src_range (n := (3 * f).toNat) rfl hr9 (sm1 (by omega) (by omega)) (rs1 (by omega)) (by rw [sizeLine_eq]; omega) (by k_asm) (by k_asm) ?_
  intro s₂ hs; obtain ⟨g9, rfl⟩ := hs
  have hll : (hexD n.toNat (3 * f).toNat).length ≤ 1000 := by simp only [hexD, List.length_map, List.length_range]; omega
  refine rest_strsL (chars (hexD n.toNat (3 * f).toNat)) (by simp [chars, hexD]) ?_ ?_
  · intro i v I oI C oC D m₂ ys h tk E' hi hv hC hx F N off ne
    obtain ⟨t9, rfl⟩ := hv
    repeat' (first | (k_unfold; (try dsimp only)) | ((fail_if_success (with_reducible show wpAny _ _ (pyIter _) _ _ _)); walk1) | ((fail_if_success (with_reducible show wpAny _ _ (pyIter _) _ _ _)); dsimp only; walk1) | (leave1; walk_say "STEP leave1"; try dsimp only) | fail "no step")
    obtain ⟨N, rfl⟩ : ∃ N : Nat, n = (N : Int) := ⟨n.toNat, by omega⟩
    rw [hex_item, Int.toNat_natCast]
    have hi2 : i < (3 * f).toNat := hi
    rw [chars_get (hexD_get hi2), show (3 * f - 1 - (0 + (i : Int) * 1)).toNat = (3 * f).toNat - 1 - i by omega]
  · intro ys hys
    repeat' (first | (k_unfold; (try dsimp only)) | ((fail_if_success (with_reducible show wpAny _ _ (pyIter _) _ _ _)); walk1) | ((fail_if_success (with_reducible show wpAny _ _ (pyIter _) _ _ _)); dsimp only; walk1) | (leave1; walk_say "STEP leave1"; try dsimp only) | fail "no step")
    rename IsRange _ _ _ _ _ _ _ _ => hr9
    refine src_range (n := f.toNat) rfl hr9 (sm3 (by omega) hf4) (rs3 (by omega) hf4) (by rw [sizeLine_eq]; omega) (by k_asm) (by k_asm) ?_
    intro s₂ hs; obtain ⟨g9, rfl⟩ := hs
    refine rest_strsL ((flds n.toNat f.toNat).map mkS) (by simp [flds]) ?_ ?_
    · intro i v I oI C oC D m₂ ys h tk E' hi hv hC hx F N off ne
      obtain ⟨t9, rfl⟩ := hv
      repeat' (first | (k_unfold; (try dsimp only)) | ((fail_if_success (with_reducible show wpAny _ _ (pyIter _) _ _ _)); walk1) | ((fail_if_success (with_reducible show wpAny _ _ (pyIter _) _ _ _)); dsimp only; walk1) | (leave1; walk_say "STEP leave1"; try dsimp only) | fail "no step")
      have e1 : (0 + (i : Int) * 3).toNat = 3 * i := by omega
      have e2 : (0 + (i : Int) * 3 + 3).toNat - 3 * i = 3 := by omega
      have e3 : (3 * f).toNat = 3 * f.toNat := by omega
      rw [e1, e2, e3, cut_fld _ _ _ (by omega) hi, List.getElem?_map]
      simp [flds, hi]
    · intro ys hys
      have hil := inter_len n.toNat f.toNat (by omega)
      repeat' (first | (k_unfold; (try dsimp only)) | ((fail_if_success (with_reducible show wpAny _ _ (pyIter _) _ _ _)); walk1) | ((fail_if_success (with_reducible show wpAny _ _ (pyIter _) _ _ _)); dsimp only; walk1) | (leave1; walk_say "STEP leave1"; try dsimp only) | fail "no step")
      rw [slash_inter]
      exact hret _ _ _ (by k_asm) (by first | k_asm | (refine' cb_drop ?cbN ?cbS; (case cbN => assumption); (case cbS => (intro p9 hp9; (repeat (first | exact hp9 | refine List.mem_cons_of_mem _ ?_))))))
end Mine
namespace Mine
set_option maxHeartbeats 8000000 in
theorem c_bits (n : Int) (t : Tok) : Ct 196 1 (0 ≤ n ∧ n < 2 ^ 48) [.int n t] (fun t => .str (mkS (bitsL n.toNat)) t) := by
  have : Fill PySem.Challenge.rw_rt0031_01 Mine.hd.heap_39 := by k_fill; trivial
  w_top off
  k_with_none
  k_with "call builtin:issubclass" => ((k_here; k_dflt (refine' issub_pair ?zqk1 ?_; (case zqk1 => exact kto_N (by k_asm) (by k_mem)); k_whole; intro _; (try dsimp only))))
  k_with "call type:type" => ((k_here; (with_reducible show wpAny _ _ (call _ [Value.bytes _ _]) _ _ _); k_dflt (refine call_type_of (Tx := "bytes") rfl (by decide +kernel) ?_)))
  k_with "eval ListComp" => ((k_here; (with_reducible show wpAny _ _ (eval (Expr.ListComp _ [Comprehension.mk _ _ [] _] _ _) _) _ _ _); k_dflt (refine lc_gen (F₀ := by k_asm) (by with_unfolding_all rfl) (by decide) (by rfl) (by decide) (by rfl) ?_)))
  k_with "eval ListComp" => ((k_here; (with_reducible show wpAny _ _ (eval (Expr.ListComp _ [Comprehension.mk _ _ [_] _] _ _) _) _ _ _); k_dflt (refine lc_genT (F₀ := by k_asm) (by with_unfolding_all rfl) (by decide) (by rfl) (by decide) (by rfl) ?_)))
  k_with "exec Assign cons ListComp" => ((k_here; k_dflt (refine lc_genA (F₀ := by k_asm) (by rfl) (by with_unfolding_all rfl) (by with_unfolding_all rfl) (by decide) (by rfl) (by decide) (by rfl) (by rfl) (by rfl) ?_)))
  k_with "CompEnd" => ((refine compEnd_at (by k_asm) (by k_asm) (by intro p9 hp9; (repeat (first | exact hp9 | refine List.mem_cons_of_mem _ ?_))) (by first | assumption | (simp only [LCg.Off3, and_true]; assumption) | lcg_off) (by first | exact trivial | assumption | exact Or.inr ⟨_, by k_mem, rfl, _, rfl⟩) ?_))
  k_with "call builtin:chr" => ((k_here; refine chr_byte ?_; intro t9; (try dsimp only)))
  k_with "call builtin:str.join" => ((k_here; (with_reducible show wpAny _ _ (call (Value.builtin "str.join") [Value.str _ _, Value.ref _]) _ _ _); k_dflt (refine' join_led ?zqN ?zqm ?zqi ?zqs ?zqw ?_; (case zqN => k_asm); (case zqm => k_mem); (case zqi => assumption); (case zqs => decide); (case zqw => first | assumption | omega); k_whole; intro t9 k9; (try dsimp only))))
  k_with "exec For Name Name cons nil" => ((k_here; (rename Fr _ _ _ _ => lF'); (with_unfolding_all refine' For_invVF lF' ?zqk1 ?zqk2 ?_; (case zqk1 => exact rfl); (case zqk2 => exact rfl); k_whole)))
  k_with "call builtin:str.join" => ((k_here; (with_reducible show wpAny _ _ (call (Value.builtin "str.join") [Value.str _ _, Value.ref _]) _ _ _); k_dflt (refine' join_chars_led ?zqN ?zqm ?zqi ?zqw ?zqx ?_; (case zqN => k_asm); (case zqm => k_mem); (case zqi => assumption); (case zqw => first | assumption | omega | ((try simp only [List.length_append, List.length_replicate, List.length_cons, List.length_nil]); omega)); (case zqx => first | with_reducible exact ofS_slash | with_reducible exact ofS_A | with_reducible exact ofS_nil | with_reducible exact ofS_dot | with_reducible exact ofS_hex | with_reducible exact ofS_b64 | with_reducible exact mkS_rfl _); k_whole; intro t9 k9; (try dsimp only))))
  k_with "call builtin:len" => ((k_here; (with_reducible show wpAny _ _ (call _ [Value.str _ _]) _ _ _); k_dflt (refine' len_mk ?zqx ?zql ?_; (case zqx => first | with_reducible exact ofS_slash | with_reducible exact ofS_A | with_reducible exact ofS_nil | with_reducible exact ofS_dot | with_reducible exact ofS_hex | with_reducible exact ofS_b64 | with_reducible exact mkS_rfl _); (case zql => first | assumption | omega | ((try simp only [List.length_append, List.length_replicate, List.length_cons, List.length_nil]); omega)); k_whole; intro t9 k9; (try dsimp only))))
  k_with "truthy str" => ((k_here; k_dflt (refine' truthy_mk ?zqx ?zql ?_; (case zqx => first | with_reducible exact ofS_slash | with_reducible exact ofS_A | with_reducible exact ofS_nil | with_reducible exact ofS_dot | with_reducible exact ofS_hex | with_reducible exact ofS_b64 | with_reducible exact mkS_rfl _); (case zql => first | assumption | omega | ((try simp only [List.length_append, List.length_replicate, List.length_cons, List.length_nil]); omega)); k_whole; intro k9; (try dsimp only))))
  k_with "binaryOp Add str str" => ((k_here; k_dflt (refine' add_mk ?zqx ?zqy ?zql ?_; (case zqx => first | with_reducible exact ofS_slash | with_reducible exact ofS_A | with_reducible exact ofS_nil | with_reducible exact ofS_dot | with_reducible exact ofS_hex | with_reducible exact ofS_b64 | with_reducible exact mkS_rfl _); (case zqy => first | with_reducible exact ofS_slash | with_reducible exact ofS_A | with_reducible exact ofS_nil | with_reducible exact ofS_dot | with_reducible exact ofS_hex | with_reducible exact ofS_b64 | with_reducible exact mkS_rfl _); (case zql => first | assumption | omega | ((try simp only [List.length_append, List.length_replicate, List.length_cons, List.length_nil]); omega)); k_whole; intro t9 k9; (try dsimp only))))
  k_with "inplaceOp Add str str" => ((k_here; k_dflt (refine' iadd_mk ?zqx ?zqy ?zql ?_; (case zqx => first | with_reducible exact ofS_slash | with_reducible exact ofS_A | with_reducible exact ofS_nil | with_reducible exact ofS_dot | with_reducible exact ofS_hex | with_reducible exact ofS_b64 | with_reducible exact mkS_rfl _); (case zqy => first | with_reducible exact ofS_slash | with_reducible exact ofS_A | with_reducible exact ofS_nil | with_reducible exact ofS_dot | with_reducible exact ofS_hex | with_reducible exact ofS_b64 | with_reducible exact mkS_rfl _); (case zql => first | assumption | omega | ((try simp only [List.length_append, List.length_replicate, List.length_cons, List.length_nil]); omega)); k_whole; intro t9 k9; (try dsimp only))))
  k_with "binaryOp Mult str int" => ((k_here; k_dflt (refine' mul_mk ?zqx ?zqa ?zqb ?_; (case zqx => first | with_reducible exact ofS_slash | with_reducible exact ofS_A | with_reducible exact ofS_nil | with_reducible exact ofS_dot | with_reducible exact ofS_hex | with_reducible exact ofS_b64 | with_reducible exact mkS_rfl _); (case zqa => first | assumption | omega | ((try simp only [List.length_append, List.length_replicate, List.length_cons, List.length_nil]); omega)); (case zqb => first | assumption | omega | ((try simp only [List.length_append, List.length_replicate, List.length_cons, List.length_nil]); omega)); k_whole; intro t9 k9; (try dsimp only))))
  k_with "compareOp Eq str str" => ((k_here; k_dflt (refine' eq_mk ?zqx ?zqy ?_; (case zqx => first | with_reducible exact ofS_slash | with_reducible exact ofS_A | with_reducible exact ofS_nil | with_reducible exact ofS_dot | with_reducible exact ofS_hex | with_reducible exact ofS_b64 | with_reducible exact mkS_rfl _); (case zqy => first | with_reducible exact ofS_slash | with_reducible exact ofS_A | with_reducible exact ofS_nil | with_reducible exact ofS_dot | with_reducible exact ofS_hex | with_reducible exact ofS_b64 | with_reducible exact mkS_rfl _); k_whole)))
  k_with "subscriptTail Name Slice str ref" => ((k_here; (with_reducible rename Fr _ _ _ _ => F'); (with_reducible rename News _ _ _ _ => N'); first
    | ((refine slice_ss (s := ⟨_, _, _, _, _⟩) F' N' (by first | with_reducible exact ofS_slash | with_reducible exact ofS_A | with_reducible exact ofS_nil | with_reducible exact ofS_dot | with_reducible exact ofS_hex | with_reducible exact ofS_b64 | with_reducible exact mkS_rfl _) (by first | assumption | omega | ((try simp only [List.length_append, List.length_replicate, List.length_cons, List.length_nil]); omega)) (by first | assumption | omega | ((try simp only [List.length_append, List.length_replicate, List.length_cons, List.length_nil]); omega)) (by first | assumption | omega | ((try simp only [List.length_append, List.length_replicate, List.length_cons, List.length_nil]); omega)) ?_); intro _ _ _ _ _; (try dsimp only))
    | ((refine slice_ns (s := ⟨_, _, _, _, _⟩) F' N' (by first | with_reducible exact ofS_slash | with_reducible exact ofS_A | with_reducible exact ofS_nil | with_reducible exact ofS_dot | with_reducible exact ofS_hex | with_reducible exact ofS_b64 | with_reducible exact mkS_rfl _) (by first | assumption | omega | ((try simp only [List.length_append, List.length_replicate, List.length_cons, List.length_nil]); omega)) (by first | assumption | omega | ((try simp only [List.length_append, List.length_replicate, List.length_cons, List.length_nil]); omega)) ?_); intro _ _ _ _ _; (try dsimp only))
    | ((refine slice_sn (s := ⟨_, _, _, _, _⟩) F' N' (by first | with_reducible exact ofS_slash | with_reducible exact ofS_A | with_reducible exact ofS_nil | with_reducible exact ofS_dot | with_reducible exact ofS_hex | with_reducible exact ofS_b64 | with_reducible exact mkS_rfl _) (by first | assumption | omega | ((try simp only [List.length_append, List.length_replicate, List.length_cons, List.length_nil]); omega)) (by first | assumption | omega | ((try simp only [List.length_append, List.length_replicate, List.length_cons, List.length_nil]); omega)) ?_); intro _ _ _ _ _; (try dsimp only))))
  k_with "call ref" => ((k_here; (with_reducible show wpAny _ _ (call _ (_ :: (_ ++ []))) _ _ _); rw [List.append_nil]))
  k_with "StarOf ref" => ((k_here; k_dflt (refine' star_seq ?zqk1 ?zqk2 ?zqm ?zqc ?zqd ?zqT ?zqe ?zqz ?_; (case zqk1 => k_asm); (case zqk2 => k_asm); (case zqm => k_mem); (case zqc => exact rfl); (case zqd => exact rfl); (case zqT => first | exact .inl rfl | exact .inr rfl); (case zqe => exact rfl); (case zqz => assumption); k_whole); intro h' F' N'; (try k_sweep); try dsimp only [List.nil_append, List.cons_append]))
  k_with "subscriptTail" => ((k_here; (with_reducible show wpAny _ _ (subscriptTail _ _ (Value.str _ _) (Value.int _ _)) _ _ _); k_dflt (refine' tail_of_ItemOn (item_mk ?zqx ?zql ?zqa ?zqb ?_) ?zqhs ?zqht; (case zqx => first | with_reducible exact ofS_slash | with_reducible exact ofS_A | with_reducible exact ofS_nil | with_reducible exact ofS_dot | with_reducible exact ofS_hex | with_reducible exact ofS_b64 | with_reducible exact mkS_rfl _); (case zql => decide); (case zqa => exact fmod_lo (by decide)); (case zqb => exact fmod_hi (by decide) (by decide)); (case zqhs => with_unfolding_all rfl); (case zqht => intro _; with_unfolding_all rfl); intro t9 k9; (try dsimp only))))
  k_with "binaryOp FloorDiv int int" => ((k_here; (with_reducible show wpAny _ _ (binaryOp _ _ (Value.int (_ ^ _) _)) _ _ _); refine div_pow (by decide) (by decide) (by omega) ?_))
  k_with "compareOp NotEq str str" => ((k_here; k_dflt (refine' ne_mk ?zqx ?zqy ?_; (case zqx => first | with_reducible exact ofS_slash | with_reducible exact ofS_A | with_reducible exact ofS_nil | with_reducible exact ofS_dot | with_reducible exact ofS_hex | with_reducible exact ofS_b64 | with_reducible exact mkS_rfl _); (case zqy => first | with_reducible exact ofS_slash | with_reducible exact ofS_A | with_reducible exact ofS_nil | with_reducible exact ofS_dot | with_reducible exact ofS_hex | with_reducible exact ofS_b64 | with_reducible exact mkS_rfl _); k_whole)))
  k_with "binaryOp Pow int int" => ((k_here; refine pow_int_small (by omega) (by omega) (by decide) ?_))
  unfold Ct; intros; rename_i hpre hd hu hret
  refine wpAny_call ?_
  k_dflt cell_enter
  repeat' (first | (k_unfold; (try dsimp only)) | ((fail_if_success (with_reducible show wpAny _ _ (pyIter _) _ _ _)); walk1) | ((fail_if_success (with_reducible show wpAny _ _ (pyIter _) _ _ _)); dsimp only; walk1) | (leave1; walk_say "STEP leave1"; try dsimp only) | fail "no step")
  rename IsRange _ _ _ _ _ _ _ _ => hr9
  refine src_range (n := 8) rfl hr9 (by decide) (by decide) (by rw [sizeLine_eq]; omega) (by k_asm) (by k_asm) ?_
  intro s₂ hs; obtain ⟨g9, rfl⟩ := hs
  have hll : (bitsL n.toNat).length ≤ 1000 := by simp only [bitsL, List.length_map, List.length_range]; omega
  refine rest_strsL (chars (bitsL n.toNat)) (by simp [chars, bitsL]) ?_ ?_
  · intro i v I oI C oC D m₂ ys h tk E' hi hv hC hx F N off ne
    obtain ⟨t9, rfl⟩ := hv
    repeat' (first | (k_unfold; (try dsimp only)) | ((fail_if_success (with_reducible show wpAny _ _ (pyIter _) _ _ _)); walk1) | ((fail_if_success (with_reducible show wpAny _ _ (pyIter _) _ _ _)); dsimp only; walk1) | (leave1; walk_say "STEP leave1"; try dsimp only) | fail "no step")
    obtain ⟨N, rfl⟩ : ∃ N : Nat, n = (N : Int) := ⟨n.toNat, by omega⟩
    have hi2 : i < 8 := hi
    rw [Int.toNat_natCast, chars_get (bitsL_get hi2), b64_item, ofS_b64, itemS (Int.natCast_nonneg _) (by have : N / 64 ^ (7 - (0 + (i : Int) * 1)).toNat % 64 < 64 := Nat.mod_lt _ (by decide); show _ < ((64 : Nat) : Int); omega), Int.toNat_natCast, show (7 - (0 + (i : Int) * 1)).toNat = 7 - i by omega]
  · intro ys hys
    repeat' (first | (k_unfold; (try dsimp only)) | ((fail_if_success (with_reducible show wpAny _ _ (pyIter _) _ _ _)); walk1) | ((fail_if_success (with_reducible show wpAny _ _ (pyIter _) _ _ _)); dsimp only; walk1) | (leave1; walk_say "STEP leave1"; try dsimp only) | fail "no step")
    exact hret _ _ _ (by k_asm) (by first | k_asm | (refine' cb_drop ?cbN ?cbS; (case cbN => assumption); (case cbS => (intro p9 hp9; (repeat (first | exact hp9 | refine List.mem_cons_of_mem _ ?_))))))
end Mine
namespace Mine
set_option maxHeartbeats 8000000 in
theorem c_base (a b : List Nat) (t : Tok) : Ct 159 3 (47 ∉ b ∧ a.length + b.length ≤ 90) [.str (mkS (a ++ 47 :: b)) t] (fun t => .str (mkS b) t) := by
  have : Fill PySem.Challenge.rw_rt0031_01 Mine.hd.heap_39 := by k_fill; trivial
  w_top off
  k_with_none
  k_with "call ref" => ((k_here; k_dflt (refine' Ct.use (c_fspath _ _) ?zqk1 ?zqk2 ?zqk3 ?zqk4 ?zqk5 ?zqkK ?zqkp ?zqkd ?zqku ?_; (case zqk1 => k_asm); (case zqk2 => k_asm); (case zqk3 => k_asm); (case zqk4 => k_asm); (case zqk5 => k_asm); (case zqkK => first | exact rfl | assumption); (case zqkp => first | exact True.intro | assumption | omega | (refine ⟨?_, ?_⟩ <;> omega) | fail "ct: pre"); (case zqkd => ktr_room); (case zqku => ktr_units); k_whole; intro t9 h9 tk9 F9 N9; (try dsimp only); (try k_fold))))
  k_with "call ref" => ((k_here; k_dflt (refine' Ct.use (c_get_sep _ _) ?zqk1 ?zqk2 ?zqk3 ?zqk4 ?zqk5 ?zqkK ?zqkp ?zqkd ?zqku ?_; (case zqk1 => k_asm); (case zqk2 => k_asm); (case zqk3 => k_asm); (case zqk4 => k_asm); (case zqk5 => k_asm); (case zqkK => first | exact rfl | assumption); (case zqkp => first | exact True.intro | assumption | omega | (refine ⟨?_, ?_⟩ <;> omega) | fail "ct: pre"); (case zqkd => ktr_room); (case zqku => ktr_units); k_whole; intro t9 h9 tk9 F9 N9; (try dsimp only); (try k_fold))))
  k_with "call builtin:issubclass" => ((k_here; k_dflt (refine' issub_pair ?zqk1 ?_; (case zqk1 => exact kto_N (by k_asm) (by k_mem)); k_whole; intro _; (try dsimp only))))
  k_with "call type:type" => ((k_here; (with_reducible show wpAny _ _ (call _ [Value.bytes _ _]) _ _ _); k_dflt (refine call_type_of (Tx := "bytes") rfl (by decide +kernel) ?_)))
  k_with "eval ListComp" => ((k_here; (with_reducible show wpAny _ _ (eval (Expr.ListComp _ [Comprehension.mk _ _ [] _] _ _) _) _ _ _); k_dflt (refine lc_gen (F₀ := by k_asm) (by with_unfolding_all rfl) (by decide) (by rfl) (by decide) (by rfl) ?_)))
  k_with "eval ListComp" => ((k_here; (with_reducible show wpAny _ _ (eval (Expr.ListComp _ [Comprehension.mk _ _ [_] _] _ _) _) _ _ _); k_dflt (refine lc_genT (F₀ := by k_asm) (by with_unfolding_all rfl) (by decide) (by rfl) (by decide) (by rfl) ?_)))
  k_with "exec Assign cons ListComp" => ((k_here; k_dflt (refine lc_genA (F₀ := by k_asm) (by rfl) (by with_unfolding_all rfl) (by with_unfolding_all rfl) (by decide) (by rfl) (by decide) (by rfl) (by rfl) (by rfl) ?_)))
  k_with "CompEnd" => ((refine compEnd_at (by k_asm) (by k_asm) (by intro p9 hp9; (repeat (first | exact hp9 | refine List.mem_cons_of_mem _ ?_))) (by first | assumption | (simp only [LCg.Off3, and_true]; assumption) | lcg_off) (by first | exact trivial | assumption | exact Or.inr ⟨_, by k_mem, rfl, _, rfl⟩) ?_))
  k_with "call builtin:chr" => ((k_here; refine chr_byte ?_; intro t9; (try dsimp only)))
  k_with "call builtin:str.join" => ((k_here; (with_reducible show wpAny _ _ (call (Value.builtin "str.join") [Value.str _ _, Value.ref _]) _ _ _); k_dflt (refine' join_led ?zqN ?zqm ?zqi ?zqs ?zqw ?_; (case zqN => k_asm); (case zqm => k_mem); (case zqi => assumption); (case zqs => decide); (case zqw => first | assumption | omega); k_whole; intro t9 k9; (try dsimp only))))
  k_with "exec For Name Name cons nil" => ((k_here; (rename Fr _ _ _ _ => lF'); (with_unfolding_all refine' For_invVF lF' ?zqk1 ?zqk2 ?_; (case zqk1 => exact rfl); (case zqk2 => exact rfl); k_whole)))
  k_with "call builtin:str.join" => ((k_here; (with_reducible show wpAny _ _ (call (Value.builtin "str.join") [Value.str _ _, Value.ref _]) _ _ _); k_dflt (refine' join_chars_led ?zqN ?zqm ?zqi ?zqw ?zqx ?_; (case zqN => k_asm); (case zqm => k_mem); (case zqi => assumption); (case zqw => first | assumption | omega | ((try simp only [List.length_append, List.length_replicate, List.length_cons, List.length_nil]); omega)); (case zqx => first | with_reducible exact ofS_slash | with_reducible exact ofS_A | with_reducible exact ofS_nil | with_reducible exact ofS_dot | with_reducible exact ofS_hex | with_reducible exact ofS_b64 | with_reducible exact mkS_rfl _); k_whole; intro t9 k9; (try dsimp only))))
  k_with "call builtin:len" => ((k_here; (with_reducible show wpAny _ _ (call _ [Value.str _ _]) _ _ _); k_dflt (refine' len_mk ?zqx ?zql ?_; (case zqx => first | with_reducible exact ofS_slash | with_reducible exact ofS_A | with_reducible exact ofS_nil | with_reducible exact ofS_dot | with_reducible exact ofS_hex | with_reducible exact ofS_b64 | with_reducible exact mkS_rfl _); (case zql => first | assumption | omega | ((try simp only [List.length_append, List.length_replicate, List.length_cons, List.length_nil]); omega)); k_whole; intro t9 k9; (try dsimp only))))
  k_with "truthy str" => ((k_here; k_dflt (refine' truthy_mk ?zqx ?zql ?_; (case zqx => first | with_reducible exact ofS_slash | with_reducible exact ofS_A | with_reducible exact ofS_nil | with_reducible exact ofS_dot | with_reducible exact ofS_hex | with_reducible exact ofS_b64 | with_reducible exact mkS_rfl _); (case zql => first | assumption | omega | ((try simp only [List.length_append, List.length_replicate, List.length_cons, List.length_nil]); omega)); k_whole; intro k9; (try dsimp only))))
  k_with "binaryOp Add str str" => ((k_here; k_dflt (refine' add_mk ?zqx ?zqy ?zql ?_; (case zqx => first | with_reducible exact ofS_slash | with_reducible exact ofS_A | with_reducible exact ofS_nil | with_reducible exact ofS_dot | with_reducible exact ofS_hex | with_reducible exact ofS_b64 | with_reducible exact mkS_rfl _); (case zqy => first | with_reducible exact ofS_slash | with_reducible exact ofS_A | with_reducible exact ofS_nil | with_reducible exact ofS_dot | with_reducible exact ofS_hex | with_reducible exact ofS_b64 | with_reducible exact mkS_rfl _); (case zql => first | assumption | omega | ((try simp only [List.length_append, List.length_replicate, List.length_cons, List.length_nil]); omega)); k_whole; intro t9 k9; (try dsimp only))))
  k_with "inplaceOp Add str str" => ((k_here; k_dflt (refine' iadd_mk ?zqx ?zqy ?zql ?_; (case zqx => first | with_reducible exact ofS_slash | with_reducible exact ofS_A | with_reducible exact ofS_nil | with_reducible exact ofS_dot | with_reducible exact ofS_hex | with_reducible exact ofS_b64 | with_reducible exact mkS_rfl _); (case zqy => first | with_reducible exact ofS_slash | with_reducible exact ofS_A | with_reducible exact ofS_nil | with_reducible exact ofS_dot | with_reducible exact ofS_hex | with_reducible exact ofS_b64 | with_reducible exact mkS_rfl _); (case zql => first | assumption | omega | ((try simp only [List.length_append, List.length_replicate, List.length_cons, List.length_nil]); omega)); k_whole; intro t9 k9; (try dsimp only))))
  k_with "binaryOp Mult str int" => ((k_here; k_dflt (refine' mul_mk ?zqx ?zqa ?zqb ?_; (case zqx => first | with_reducible exact ofS_slash | with_reducible exact ofS_A | with_reducible exact ofS_nil | with_reducible exact ofS_dot | with_reducible exact ofS_hex | with_reducible exact ofS_b64 | with_reducible exact mkS_rfl _); (case zqa => first | assumption | omega | ((try simp only [List.length_append, List.length_replicate, List.length_cons, List.length_nil]); omega)); (case zqb => first | assumption | omega | ((try simp only [List.length_append, List.length_replicate, List.length_cons, List.length_nil]); omega)); k_whole; intro t9 k9; (try dsimp only))))
  k_with "compareOp Eq str str" => ((k_here; k_dflt (refine' eq_mk ?zqx ?zqy ?_; (case zqx => first | with_reducible exact ofS_slash | with_reducible exact ofS_A | with_reducible exact ofS_nil | with_reducible exact ofS_dot | with_reducible exact ofS_hex | with_reducible exact ofS_b64 | with_reducible exact mkS_rfl _); (case zqy => first | with_reducible exact ofS_slash | with_reducible exact ofS_A | with_reducible exact ofS_nil | with_reducible exact ofS_dot | with_reducible exact ofS_hex | with_reducible exact ofS_b64 | with_reducible exact mkS_rfl _); k_whole)))
  k_with "subscriptTail Name Slice str ref" => ((k_here; (with_reducible rename Fr _ _ _ _ => F'); (with_reducible rename News _ _ _ _ => N'); first
    | ((refine slice_ss (s := ⟨_, _, _, _, _⟩) F' N' (by first | with_reducible exact ofS_slash | with_reducible exact ofS_A | with_reducible exact ofS_nil | with_reducible exact ofS_dot | with_reducible exact ofS_hex | with_reducible exact ofS_b64 | with_reducible exact mkS_rfl _) (by first | assumption | omega | ((try simp only [List.length_append, List.length_replicate, List.length_cons, List.length_nil]); omega)) (by first | assumption | omega | ((try simp only [List.length_append, List.length_replicate, List.length_cons, List.length_nil]); omega)) (by first | assumption | omega | ((try simp only [List.length_append, List.length_replicate, List.length_cons, List.length_nil]); omega)) ?_); intro _ _ _ _ _; (try dsimp only))
    | ((refine slice_ns (s := ⟨_, _, _, _, _⟩) F' N' (by first | with_reducible exact ofS_slash | with_reducible exact ofS_A | with_reducible exact ofS_nil | with_reducible exact ofS_dot | with_reducible exact ofS_hex | with_reducible exact ofS_b64 | with_reducible exact mkS_rfl _) (by first | assumption | omega | ((try simp only [List.length_append, List.length_replicate, List.length_cons, List.length_nil]); omega)) (by first | assumption | omega | ((try simp only [List.length_append, List.length_replicate, List.length_cons, List.length_nil]); omega)) ?_); intro _ _ _ _ _; (try dsimp only))
    | ((refine slice_sn (s := ⟨_, _, _, _, _⟩) F' N' (by first | with_reducible exact ofS_slash | with_reducible exact ofS_A | with_reducible exact ofS_nil | with_reducible exact ofS_dot | with_reducible exact ofS_hex | with_reducible exact ofS_b64 | with_reducible exact mkS_rfl _) (by first | assumption | omega | ((try simp only [List.length_append, List.length_replicate, List.length_cons, List.length_nil]); omega)) (by first | assumption | omega | ((try simp only [List.length_append, List.length_replicate, List.length_cons, List.length_nil]); omega)) ?_); intro _ _ _ _ _; (try dsimp only))))
  k_with "call ref" => ((k_here; (with_reducible show wpAny _ _ (call _ (_ :: (_ ++ []))) _ _ _); rw [List.append_nil]))
  k_with "StarOf ref" => ((k_here; k_dflt (refine' star_seq ?zqk1 ?zqk2 ?zqm ?zqc ?zqd ?zqT ?zqe ?zqz ?_; (case zqk1 => k_asm); (case zqk2 => k_asm); (case zqm => k_mem); (case zqc => exact rfl); (case zqd => exact rfl); (case zqT => first | exact .inl rfl | exact .inr rfl); (case zqe => exact rfl); (case zqz => assumption); k_whole); intro h' F' N'; (try k_sweep); try dsimp only [List.nil_append, List.cons_append]))
  k_with "subscriptTail" => ((k_here; (with_reducible show wpAny _ _ (subscriptTail _ _ (Value.str _ _) (Value.int _ _)) _ _ _); k_dflt (refine' tail_of_ItemOn (item_mk ?zqx ?zql ?zqa ?zqb ?_) ?zqhs ?zqht; (case zqx => first | with_reducible exact ofS_slash | with_reducible exact ofS_A | with_reducible exact ofS_nil | with_reducible exact ofS_dot | with_reducible exact ofS_hex | with_reducible exact ofS_b64 | with_reducible exact mkS_rfl _); (case zql => decide); (case zqa => exact fmod_lo (by decide)); (case zqb => exact fmod_hi (by decide) (by decide)); (case zqhs => with_unfolding_all rfl); (case zqht => intro _; with_unfolding_all rfl); intro t9 k9; (try dsimp only))))
  k_with "binaryOp FloorDiv int int" => ((k_here; (with_reducible show wpAny _ _ (binaryOp _ _ (Value.int (_ ^ _) _)) _ _ _); refine div_pow (by decide) (by decide) (by omega) ?_))
  k_with "compareOp NotEq str str" => ((k_here; k_dflt (refine' ne_mk ?zqx ?zqy ?_; (case zqx => first | with_reducible exact ofS_slash | with_reducible exact ofS_A | with_reducible exact ofS_nil | with_reducible exact ofS_dot | with_reducible exact ofS_hex | with_reducible exact ofS_b64 | with_reducible exact mkS_rfl _); (case zqy => first | with_reducible exact ofS_slash | with_reducible exact ofS_A | with_reducible exact ofS_nil | with_reducible exact ofS_dot | with_reducible exact ofS_hex | with_reducible exact ofS_b64 | with_reducible exact mkS_rfl _); k_whole)))
  k_with "binaryOp Pow int int" => ((k_here; refine pow_int_small (by omega) (by omega) (by decide) ?_))
  k_with "call builtin:str.rfind" => ((k_here; k_dflt (refine' rfind_mk ?zqx ?zqy ?zqh ?_; (case zqx => with_reducible exact mkS_rfl _); (case zqy => first | with_reducible exact ofS_slash | with_reducible exact mkS_rfl _); (case zqh => assumption); k_whole; intro t9 k9; (try dsimp only))))
  k_with "call builtin:str.rstrip" => ((k_here; k_dflt (refine' rstrip_mk ?zqx ?zqy ?zql ?zqh ?_; (case zqx => with_reducible exact mkS_rfl _); (case zqy => first | with_reducible exact ofS_slash | with_reducible exact mkS_rfl _); (case zql => omega); (case zqh => assumption); k_whole; intro t9 k9; (try dsimp only))))
  k_with "subscriptTail Name Slice str ref" => ((k_here; (with_reducible rename Fr _ _ _ _ => F'); (with_reducible rename News _ _ _ _ => N'); first
    | ((refine slice_head (s := ⟨_, _, _, _, _⟩) F' N' (by with_reducible exact mkS_rfl _) (by omega) ?_); intro _ _ _ _ _; (try dsimp only))
    | ((refine slice_last (s := ⟨_, _, _, _, _⟩) F' N' (by with_reducible exact mkS_rfl _) (by omega) ?_); intro _ _ _ _ _; (try dsimp only))))
  unfold Ct; intros; rename_i hpre hd hu hret
  refine wpAny_call ?_
  obtain ⟨hb, hl⟩ := hpre
  k_dflt cell_enter
  repeat' (first | (k_unfold; (try dsimp only)) | (walk1) | (dsimp only; walk1) | (leave1; walk_say "STEP leave1"; try dsimp only) | fail "no step")
  all_goals exact hret _ _ _ (by k_asm) (by first | k_asm | (refine' cb_drop ?cbN ?cbS; (case cbN => assumption); (case cbS => (intro p9 hp9; (repeat (first | exact hp9 | refine List.mem_cons_of_mem _ ?_))))))
end Mine
namespace Mine
set_option maxHeartbeats 8000000 in
theorem c_dir (a b : List Nat) (t : Tok) : Ct 166 3 (47 ∉ b ∧ a.length + b.length ≤ 90 ∧ LastOk a) [.str (mkS (a ++ 47 :: b)) t] (fun t => .str (mkS (dirL a)) t) := by
  have : Fill PySem.Challenge.rw_rt0031_01 Mine.hd.heap_39 := by k_fill; trivial
  w_top off
  k_with_none
  k_with "call ref" => ((k_here; k_dflt (refine' Ct.use (c_fspath _ _) ?zqk1 ?zqk2 ?zqk3 ?zqk4 ?zqk5 ?zqkK ?zqkp ?zqkd ?zqku ?_; (case zqk1 => k_asm); (case zqk2 => k_asm); (case zqk3 => k_asm); (case zqk4 => k_asm); (case zqk5 => k_asm); (case zqkK => first | exact rfl | assumption); (case zqkp => first | exact True.intro | assumption | omega | (refine ⟨?_, ?_⟩ <;> omega) | fail "ct: pre"); (case zqkd => ktr_room); (case zqku => ktr_units); k_whole; intro t9 h9 tk9 F9 N9; (try dsimp only); (try k_fold))))
  k_with "call ref" => ((k_here; k_dflt (refine' Ct.use (c_get_sep _ _) ?zqk1 ?zqk2 ?zqk3 ?zqk4 ?zqk5 ?zqkK ?zqkp ?zqkd ?zqku ?_; (case zqk1 => k_asm); (case zqk2 => k_asm); (case zqk3 => k_asm); (case zqk4 => k_asm); (case zqk5 => k_asm); (case zqkK => first | exact rfl | assumption); (case zqkp => first | exact True.intro | assumption | omega | (refine ⟨?_, ?_⟩ <;> omega) | fail "ct: pre"); (case zqkd => ktr_room); (case zqku => ktr_units); k_whole; intro t9 h9 tk9 F9 N9; (try dsimp only); (try k_fold))))
  k_with "call builtin:issubclass" => ((k_here; k_dflt (refine' issub_pair ?zqk1 ?_; (case zqk1 => exact kto_N (by k_asm) (by k_mem)); k_whole; intro _; (try dsimp only))))
  k_with "call type:type" => ((k_here; (with_reducible show wpAny _ _ (call _ [Value.bytes _ _]) _ _ _); k_dflt (refine call_type_of (Tx := "bytes") rfl (by decide +kernel) ?_)))
  k_with "eval ListComp" => ((k_here; (with_reducible show wpAny _ _ (eval (Expr.ListComp _ [Comprehension.mk _ _ [] _] _ _) _) _ _ _); k_dflt (refine lc_gen (F₀ := by k_asm) (by with_unfolding_all rfl) (by decide) (by rfl) (by decide) (by rfl) ?_)))
  k_with "eval ListComp" => ((k_here; (with_reducible show wpAny _ _ (eval (Expr.ListComp _ [Comprehension.mk _ _ [_] _] _ _) _) _ _ _); k_dflt (refine lc_genT (F₀ := by k_asm) (by with_unfolding_all rfl) (by decide) (by rfl) (by decide) (by rfl) ?_)))
  k_with "exec Assign cons ListComp" => ((k_here; k_dflt (refine lc_genA (F₀ := by k_asm) (by rfl) (by with_unfolding_all rfl) (by with_unfolding_all rfl) (by decide) (by rfl) (by decide) (by rfl) (by rfl) (by rfl) ?_)))
  k_with "CompEnd" => ((refine compEnd_at (by k_asm) (by k_asm) (by intro p9 hp9; (repeat (first | exact hp9 | refine List.mem_cons_of_mem _ ?_))) (by first | assumption | (simp only [LCg.Off3, and_true]; assumption) | lcg_off) (by first | exact trivial | assumption | exact Or.inr ⟨_, by k_mem, rfl, _, rfl⟩) ?_))
  k_with "call builtin:chr" => ((k_here; refine chr_byte ?_; intro t9; (try dsimp only)))
  k_with "call builtin:str.join" => ((k_here; (with_reducible show wpAny _ _ (call (Value.builtin "str.join") [Value.str _ _, Value.ref _]) _ _ _); k_dflt (refine' join_led ?zqN ?zqm ?zqi ?zqs ?zqw ?_; (case zqN => k_asm); (case zqm => k_mem); (case zqi => assumption); (case zqs => decide); (case zqw => first | assumption | omega); k_whole; intro t9 k9; (try dsimp only))))
  k_with "exec For Name Name cons nil" => ((k_here; (rename Fr _ _ _ _ => lF'); (with_unfolding_all refine' For_invVF lF' ?zqk1 ?zqk2 ?_; (case zqk1 => exact rfl); (case zqk2 => exact rfl); k_whole)))
  k_with "call builtin:str.join" => ((k_here; (with_reducible show wpAny _ _ (call (Value.builtin "str.join") [Value.str _ _, Value.ref _]) _ _ _); k_dflt (refine' join_chars_led ?zqN ?zqm ?zqi ?zqw ?zqx ?_; (case zqN => k_asm); (case zqm => k_mem); (case zqi => assumption); (case zqw => first | assumption | omega | ((try simp only [List.length_append, List.length_replicate, List.length_cons, List.length_nil]); omega)); (case zqx => first | with_reducible exact ofS_slash | with_reducible exact ofS_A | with_reducible exact ofS_nil | with_reducible exact ofS_dot | with_reducible exact ofS_hex | with_reducible exact ofS_b64 | with_reducible exact mkS_rfl _); k_whole; intro t9 k9; (try dsimp only))))
  k_with "call builtin:len" => ((k_here; (with_reducible show wpAny _ _ (call _ [Value.str _ _]) _ _ _); k_dflt (refine' len_mk ?zqx ?zql ?_; (case zqx => first | with_reducible exact ofS_slash | with_reducible exact ofS_A | with_reducible exact ofS_nil | with_reducible exact ofS_dot | with_reducible exact ofS_hex | with_reducible exact ofS_b64 | with_reducible exact mkS_rfl _); (case zql => first | assumption | omega | ((try simp only [List.length_append, List.length_replicate, List.length_cons, List.length_nil]); omega)); k_whole; intro t9 k9; (try dsimp only))))
  k_with "truthy str" => ((k_here; k_dflt (refine' truthy_mk ?zqx ?zql ?_; (case zqx => first | with_reducible exact ofS_slash | with_reducible exact ofS_A | with_reducible exact ofS_nil | with_reducible exact ofS_dot | with_reducible exact ofS_hex | with_reducible exact ofS_b64 | with_reducible exact mkS_rfl _); (case zql => first | assumption | omega | ((try simp only [List.length_append, List.length_replicate, List.length_cons, List.length_nil]); omega)); k_whole; intro k9; (try dsimp only))))
  k_with "binaryOp Add str str" => ((k_here; k_dflt (refine' add_mk ?zqx ?zqy ?zql ?_; (case zqx => first | with_reducible exact ofS_slash | with_reducible exact ofS_A | with_reducible exact ofS_nil | with_reducible exact ofS_dot | with_reducible exact ofS_hex | with_reducible exact ofS_b64 | with_reducible exact mkS_rfl _); (case zqy => first | with_reducible exact ofS_slash | with_reducible exact ofS_A | with_reducible exact ofS_nil | with_reducible exact ofS_dot | with_reducible exact ofS_hex | with_reducible exact ofS_b64 | with_reducible exact mkS_rfl _); (case zql => first | assumption | omega | ((try simp only [List.length_append, List.length_replicate, List.length_cons, List.length_nil]); omega)); k_whole; intro t9 k9; (try dsimp only))))
  k_with "inplaceOp Add str str" => ((k_here; k_dflt (refine' iadd_mk ?zqx ?zqy ?zql ?_; (case zqx => first | with_reducible exact ofS_slash | with_reducible exact ofS_A | with_reducible exact ofS_nil | with_reducible exact ofS_dot | with_reducible exact ofS_hex | with_reducible exact ofS_b64 | with_reducible exact mkS_rfl _); (case zqy => first | with_reducible exact ofS_slash | with_reducible exact ofS_A | with_reducible exact ofS_nil | with_reducible exact ofS_dot | with_reducible exact ofS_hex | with_reducible exact ofS_b64 | with_reducible exact mkS_rfl _); (case zql => first | assumption | omega | ((try simp only [List.length_append, List.length_replicate, List.length_cons, List.length_nil]); omega)); k_whole; intro t9 k9; (try dsimp only))))
  k_with "binaryOp Mult str int" => ((k_here; k_dflt (refine' mul_mk ?zqx ?zqa ?zqb ?_; (case zqx => first | with_reducible exact ofS_slash | with_reducible exact ofS_A | with_reducible exact ofS_nil | with_reducible exact ofS_dot | with_reducible exact ofS_hex | with_reducible exact ofS_b64 | with_reducible exact mkS_rfl _); (case zqa => first | assumption | omega | ((try simp only [List.length_append, List.length_replicate, List.length_cons, List.length_nil]); omega)); (case zqb => first | assumption | omega | ((try simp only [List.length_append, List.length_replicate, List.length_cons, List.length_nil]); omega)); k_whole; intro t9 k9; (try dsimp only))))
  k_with "compareOp Eq str str" => ((k_here; k_dflt (refine' eq_mk ?zqx ?zqy ?_; (case zqx => first | with_reducible exact ofS_slash | with_reducible exact ofS_A | with_reducible exact ofS_nil | with_reducible exact ofS_dot | with_reducible exact ofS_hex | with_reducible exact ofS_b64 | with_reducible exact mkS_rfl _); (case zqy => first | with_reducible exact ofS_slash | with_reducible exact ofS_A | with_reducible exact ofS_nil | with_reducible exact ofS_dot | with_reducible exact ofS_hex | with_reducible exact ofS_b64 | with_reducible exact mkS_rfl _); k_whole)))
  k_with "subscriptTail Name Slice str ref" => ((k_here; (with_reducible rename Fr _ _ _ _ => F'); (with_reducible rename News _ _ _ _ => N'); first
    | ((refine slice_ss (s := ⟨_, _, _, _, _⟩) F' N' (by first | with_reducible exact ofS_slash | with_reducible exact ofS_A | with_reducible exact ofS_nil | with_reducible exact ofS_dot | with_reducible exact ofS_hex | with_reducible exact ofS_b64 | with_reducible exact mkS_rfl _) (by first | assumption | omega | ((try simp only [List.length_append, List.length_replicate, List.length_cons, List.length_nil]); omega)) (by first | assumption | omega | ((try simp only [List.length_append, List.length_replicate, List.length_cons, List.length_nil]); omega)) (by first | assumption | omega | ((try simp only [List.length_append, List.length_replicate, List.length_cons, List.length_nil]); omega)) ?_); intro _ _ _ _ _; (try dsimp only))
    | ((refine slice_ns (s := ⟨_, _, _, _, _⟩) F' N' (by first | with_reducible exact ofS_slash | with_reducible exact ofS_A | with_reducible exact ofS_nil | with_reducible exact ofS_dot | with_reducible exact ofS_hex | with_reducible exact ofS_b64 | with_reducible exact mkS_rfl _) (by first | assumption | omega | ((try simp only [List.length_append, List.length_replicate, List.length_cons, List.length_nil]); omega)) (by first | assumption | omega | ((try simp only [List.length_append, List.length_replicate, List.length_cons, List.length_nil]); omega)) ?_); intro _ _ _ _ _; (try dsimp only))
    | ((refine slice_sn (s := ⟨_, _, _, _, _⟩) F' N' (by first | with_reducible exact ofS_slash | with_reducible exact ofS_A | with_reducible exact ofS_nil | with_reducible exact ofS_dot | with_reducible exact ofS_hex | with_reducible exact ofS_b64 | with_reducible exact mkS_rfl _) (by first | assumption | omega | ((try simp only [List.length_append, List.length_replicate, List.length_cons, List.length_nil]); omega)) (by first | assumption | omega | ((try simp only [List.length_append, List.length_replicate, List.length_cons, List.length_nil]); omega)) ?_); intro _ _ _ _ _; (try dsimp only))))
  k_with "call ref" => ((k_here; (with_reducible show wpAny _ _ (call _ (_ :: (_ ++ []))) _ _ _); rw [List.append_nil]))
  k_with "StarOf ref" => ((k_here; k_dflt (refine' star_seq ?zqk1 ?zqk2 ?zqm ?zqc ?zqd ?zqT ?zqe ?zqz ?_; (case zqk1 => k_asm); (case zqk2 => k_asm); (case zqm => k_mem); (case zqc => exact rfl); (case zqd => exact rfl); (case zqT => first | exact .inl rfl | exact .inr rfl); (case zqe => exact rfl); (case zqz => assumption); k_whole); intro h' F' N'; (try k_sweep); try dsimp only [List.nil_append, List.cons_append]))
  k_with "subscriptTail" => ((k_here; (with_reducible show wpAny _ _ (subscriptTail _ _ (Value.str _ _) (Value.int _ _)) _ _ _); k_dflt (refine' tail_of_ItemOn (item_mk ?zqx ?zql ?zqa ?zqb ?_) ?zqhs ?zqht; (case zqx => first | with_reducible exact ofS_slash | with_reducible exact ofS_A | with_reducible exact ofS_nil | with_reducible exact ofS_dot | with_reducible exact ofS_hex | with_reducible exact ofS_b64 | with_reducible exact mkS_rfl _); (case zql => decide); (case zqa => exact fmod_lo (by decide)); (case zqb => exact fmod_hi (by decide) (by decide)); (case zqhs => with_unfolding_all rfl); (case zqht => intro _; with_unfolding_all rfl); intro t9 k9; (try dsimp only))))
  k_with "binaryOp FloorDiv int int" => ((k_here; (with_reducible show wpAny _ _ (binaryOp _ _ (Value.int (_ ^ _) _)) _ _ _); refine div_pow (by decide) (by decide) (by omega) ?_))
  k_with "compareOp NotEq str str" => ((k_here; k_dflt (refine' ne_mk ?zqx ?zqy ?_; (case zqx => first | with_reducible exact ofS_slash | with_reducible exact ofS_A | with_reducible exact ofS_nil | with_reducible exact ofS_dot | with_reducible exact ofS_hex | with_reducible exact ofS_b64 | with_reducible exact mkS_rfl _); (case zqy => first | with_reducible exact ofS_slash | with_reducible exact ofS_A | with_reducible exact ofS_nil | with_reducible exact ofS_dot | with_reducible exact ofS_hex | with_reducible exact ofS_b64 | with_reducible exact mkS_rfl _); k_whole)))
  k_with "binaryOp Pow int int" => ((k_here; refine pow_int_small (by omega) (by omega) (by decide) ?_))
  k_with "call builtin:str.rfind" => ((k_here; k_dflt (refine' rfind_mk ?zqx ?zqy ?zqh ?_; (case zqx => with_reducible exact mkS_rfl _); (case zqy => first | with_reducible exact ofS_slash | with_reducible exact mkS_rfl _); (case zqh => assumption); k_whole; intro t9 k9; (try dsimp only))))
  k_with "call builtin:str.rstrip" => ((k_here; k_dflt (refine' rstrip_mk ?zqx ?zqy ?zql ?zqh ?_; (case zqx => with_reducible exact mkS_rfl _); (case zqy => first | with_reducible exact ofS_slash | with_reducible exact mkS_rfl _); (case zql => omega); (case zqh => assumption); k_whole; intro t9 k9; (try dsimp only))))
  k_with "subscriptTail Name Slice str ref" => ((k_here; (with_reducible rename Fr _ _ _ _ => F'); (with_reducible rename News _ _ _ _ => N'); first
    | ((refine slice_head (s := ⟨_, _, _, _, _⟩) F' N' (by with_reducible exact mkS_rfl _) (by omega) ?_); intro _ _ _ _ _; (try dsimp only))
    | ((refine slice_last (s := ⟨_, _, _, _, _⟩) F' N' (by with_reducible exact mkS_rfl _) (by omega) ?_); intro _ _ _ _ _; (try dsimp only))))
  unfold Ct; intros; rename_i hpre hd hu hret
  refine wpAny_call ?_
  obtain ⟨hb, hl, hok⟩ := hpre
  have hall : (a ++ [47]).length ≤ 1000 := by simp; omega
  k_dflt cell_enter
  repeat' (first | (k_unfold; (try dsimp only)) | (walk1) | (dsimp only; walk1) | (leave1; walk_say "STEP leave1"; try dsimp only) | fail "no step")
  · rename List.isEmpty _ = true => he
    simp at he
  · rename _ ++ [47] = List.replicate _ _ => he
    have hz := (dir_ne hok _ (by simp)).mp he
    subst hz
    have e : mkS (([] : List Nat) ++ [47]) = mkS (dirL []) := rfl
    rw [e]
    exact hret _ _ _ (by k_asm) (by first | k_asm | (refine' cb_drop ?cbN ?cbS; (case cbN => assumption); (case cbS => (intro p9 hp9; (repeat (first | exact hp9 | refine List.mem_cons_of_mem _ ?_))))))
  · rename ¬ (_ ++ [47] = List.replicate _ _) => he
    have hne : a ≠ [] := fun e => he ((dir_ne hok _ (by simp)).mpr e)
    have e : mkS a = mkS (dirL a) := by unfold dirL; rw [if_neg hne]
    rw [e]
    exact hret _ _ _ (by k_asm) (by first | k_asm | (refine' cb_drop ?cbN ?cbS; (case cbN => assumption); (case cbS => (intro p9 hp9; (repeat (first | exact hp9 | refine List.mem_cons_of_mem _ ?_))))))
end Mine
namespace Mine
local macro_rules | `(tactic| k_room) => `(tactic| ktr_room)
set_option maxHeartbeats 8000000 in
theorem c_b64 (x : Array UInt8) (t : Tok) : Ct 58 4 (x.size = 6) [.bytes x t] (fun t => .bytes (byteArr (signO x 6)) t) := by
  have : Fill PySem.Challenge.rw_rt0031_01 Mine.hd.heap_39 := by k_fill; trivial
  w_top off
  k_with_none
  k_with "call ref" => ((k_here; k_dflt (refine' Ct.use (c_buffer _ _) ?zqk1 ?zqk2 ?zqk3 ?zqk4 ?zqk5 ?zqkK ?zqkp ?zqkd ?zqku ?_; (case zqk1 => k_asm); (case zqk2 => k_asm); (case zqk3 => k_asm); (case zqk4 => k_asm); (case zqk5 => k_asm); (case zqkK => first | exact rfl | assumption); (case zqkp => first | exact True.intro | assumption | omega | (refine ⟨?_, ?_⟩ <;> omega) | fail "ct: pre"); (case zqkd => ktr_room); (case zqku => ktr_units); k_whole; intro t9 h9 tk9 F9 N9; (try dsimp only); (try k_fold))))
  k_with "call ref" => ((k_here; k_dflt (refine' Ct.use (c_truth _) ?zqk1 ?zqk2 ?zqk3 ?zqk4 ?zqk5 ?zqkK ?zqkp ?zqkd ?zqku ?_; (case zqk1 => k_asm); (case zqk2 => k_asm); (case zqk3 => k_asm); (case zqk4 => k_asm); (case zqk5 => k_asm); (case zqkK => first | exact rfl | assumption); (case zqkp => first | exact True.intro | assumption | omega | (refine ⟨?_, ?_⟩ <;> omega) | fail "ct: pre"); (case zqkd => ktr_room); (case zqku => ktr_units); k_whole; intro t9 h9 tk9 F9 N9; (try dsimp only); (try k_fold))))
  k_with "call builtin:issubclass" => ((k_here; k_dflt (refine' issub_pair ?zqk1 ?_; (case zqk1 => exact kto_N (by k_asm) (by k_mem)); k_whole; intro _; (try dsimp only))))
  k_with "call type:type" => ((k_here; (with_reducible show wpAny _ _ (call _ [Value.bytes _ _]) _ _ _); k_dflt (refine call_type_of (Tx := "bytes") rfl (by decide +kernel) ?_)))
  k_with "eval ListComp" => ((k_here; (with_reducible show wpAny _ _ (eval (Expr.ListComp _ [Comprehension.mk _ _ [] _] _ _) _) _ _ _); k_dflt (refine lc_gen (F₀ := by k_asm) (by with_unfolding_all rfl) (by decide) (by rfl) (by decide) (by rfl) ?_)))
  k_with "eval ListComp" => ((k_here; (with_reducible show wpAny _ _ (eval (Expr.ListComp _ [Comprehension.mk _ _ [_] _] _ _) _) _ _ _); k_dflt (refine lc_genT (F₀ := by k_asm) (by with_unfolding_all rfl) (by decide) (by rfl) (by decide) (by rfl) ?_)))
  k_with "exec Assign cons ListComp" => ((k_here; k_dflt (refine lc_genA (F₀ := by k_asm) (by rfl) (by with_unfolding_all rfl) (by with_unfolding_all rfl) (by decide) (by rfl) (by decide) (by rfl) (by rfl) (by rfl) ?_)))
  k_with "CompEnd" => ((refine compEnd_at (by k_asm) (by k_asm) (by intro p9 hp9; (repeat (first | exact hp9 | refine List.mem_cons_of_mem _ ?_))) (by first | assumption | (simp only [LCg.Off3, and_true]; assumption) | lcg_off) (by first | exact trivial | assumption | exact Or.inr ⟨_, by k_mem, rfl, _, rfl⟩) ?_))
  k_with "call builtin:chr" => ((k_here; refine chr_byte ?_; intro t9; (try dsimp only)))
  k_with "call builtin:str.join" => ((k_here; (with_reducible show wpAny _ _ (call (Value.builtin "str.join") [Value.str _ _, Value.ref _]) _ _ _); k_dflt (refine' join_led ?zqN ?zqm ?zqi ?zqs ?zqw ?_; (case zqN => k_asm); (case zqm => k_mem); (case zqi => assumption); (case zqs => decide); (case zqw => first | assumption | omega); k_whole; intro t9 k9; (try dsimp only))))
  k_with "exec For Name Name cons nil" => ((k_here; (rename Fr _ _ _ _ => lF'); (with_unfolding_all refine' For_invVF lF' ?zqk1 ?zqk2 ?_; (case zqk1 => exact rfl); (case zqk2 => exact rfl); k_whole)))
  k_with "call builtin:str.join" => ((k_here; (with_reducible show wpAny _ _ (call (Value.builtin "str.join") [Value.str _ _, Value.ref _]) _ _ _); k_dflt (refine' join_chars_led ?zqN ?zqm ?zqi ?zqw ?zqx ?_; (case zqN => k_asm); (case zqm => k_mem); (case zqi => assumption); (case zqw => first | assumption | omega | ((try simp only [List.length_append, List.length_replicate, List.length_cons, List.length_nil]); omega)); (case zqx => first | with_reducible exact ofS_slash | with_reducible exact ofS_A | with_reducible exact ofS_nil | with_reducible exact ofS_dot | with_reducible exact ofS_hex | with_reducible exact ofS_b64 | with_reducible exact mkS_rfl _); k_whole; intro t9 k9; (try dsimp only))))
  k_with "call builtin:len" => ((k_here; (with_reducible show wpAny _ _ (call _ [Value.str _ _]) _ _ _); k_dflt (refine' len_mk ?zqx ?zql ?_; (case zqx => first | with_reducible exact ofS_slash | with_reducible exact ofS_A | with_reducible exact ofS_nil | with_reducible exact ofS_dot | with_reducible exact ofS_hex | with_reducible exact ofS_b64 | with_reducible exact mkS_rfl _); (case zql => first | assumption | omega | ((try simp only [List.length_append, List.length_replicate, List.length_cons, List.length_nil]); omega)); k_whole; intro t9 k9; (try dsimp only))))
  k_with "truthy str" => ((k_here; k_dflt (refine' truthy_mk ?zqx ?zql ?_; (case zqx => first | with_reducible exact ofS_slash | with_reducible exact ofS_A | with_reducible exact ofS_nil | with_reducible exact ofS_dot | with_reducible exact ofS_hex | with_reducible exact ofS_b64 | with_reducible exact mkS_rfl _); (case zql => first | assumption | omega | ((try simp only [List.length_append, List.length_replicate, List.length_cons, List.length_nil]); omega)); k_whole; intro k9; (try dsimp only))))
  k_with "binaryOp Add str str" => ((k_here; k_dflt (refine' add_mk ?zqx ?zqy ?zql ?_; (case zqx => first | with_reducible exact ofS_slash | with_reducible exact ofS_A | with_reducible exact ofS_nil | with_reducible exact ofS_dot | with_reducible exact ofS_hex | with_reducible exact ofS_b64 | with_reducible exact mkS_rfl _); (case zqy => first | with_reducible exact ofS_slash | with_reducible exact ofS_A | with_reducible exact ofS_nil | with_reducible exact ofS_dot | with_reducible exact ofS_hex | with_reducible exact ofS_b64 | with_reducible exact mkS_rfl _); (case zql => first | assumption | omega | ((try simp only [List.length_append, List.length_replicate, List.length_cons, List.length_nil]); omega)); k_whole; intro t9 k9; (try dsimp only))))
  k_with "inplaceOp Add str str" => ((k_here; k_dflt (refine' iadd_mk ?zqx ?zqy ?zql ?_; (case zqx => first | with_reducible exact ofS_slash | with_reducible exact ofS_A | with_reducible exact ofS_nil | with_reducible exact ofS_dot | with_reducible exact ofS_hex | with_reducible exact ofS_b64 | with_reducible exact mkS_rfl _); (case zqy => first | with_reducible exact ofS_slash | with_reducible exact ofS_A | with_reducible exact ofS_nil | with_reducible exact ofS_dot | with_reducible exact ofS_hex | with_reducible exact ofS_b64 | with_reducible exact mkS_rfl _); (case zql => first | assumption | omega | ((try simp only [List.length_append, List.length_replicate, List.length_cons, List.length_nil]); omega)); k_whole; intro t9 k9; (try dsimp only))))
  k_with "binaryOp Mult str int" => ((k_here; k_dflt (refine' mul_mk ?zqx ?zqa ?zqb ?_; (case zqx => first | with_reducible exact ofS_slash | with_reducible exact ofS_A | with_reducible exact ofS_nil | with_reducible exact ofS_dot | with_reducible exact ofS_hex | with_reducible exact ofS_b64 | with_reducible exact mkS_rfl _); (case zqa => first | assumption | omega | ((try simp only [List.length_append, List.length_replicate, List.length_cons, List.length_nil]); omega)); (case zqb => first | assumption | omega | ((try simp only [List.length_append, List.length_replicate, List.length_cons, List.length_nil]); omega)); k_whole; intro t9 k9; (try dsimp only))))
  k_with "compareOp Eq str str" => ((k_here; k_dflt (refine' eq_mk ?zqx ?zqy ?_; (case zqx => first | with_reducible exact ofS_slash | with_reducible exact ofS_A | with_reducible exact ofS_nil | with_reducible exact ofS_dot | with_reducible exact ofS_hex | with_reducible exact ofS_b64 | with_reducible exact mkS_rfl _); (case zqy => first | with_reducible exact ofS_slash | with_reducible exact ofS_A | with_reducible exact ofS_nil | with_reducible exact ofS_dot | with_reducible exact ofS_hex | with_reducible exact ofS_b64 | with_reducible exact mkS_rfl _); k_whole)))
  k_with "subscriptTail Name Slice str ref" => ((k_here; (with_reducible rename Fr _ _ _ _ => F'); (with_reducible rename News _ _ _ _ => N'); first
    | ((refine slice_ss (s := ⟨_, _, _, _, _⟩) F' N' (by first | with_reducible exact ofS_slash | with_reducible exact ofS_A | with_reducible exact ofS_nil | with_reducible exact ofS_dot | with_reducible exact ofS_hex | with_reducible exact ofS_b64 | with_reducible exact mkS_rfl _) (by first | assumption | omega | ((try simp only [List.length_append, List.length_replicate, List.length_cons, List.length_nil]); omega)) (by first | assumption | omega | ((try simp only [List.length_append, List.length_replicate, List.length_cons, List.length_nil]); omega)) (by first | assumption | omega | ((try simp only [List.length_append, List.length_replicate, List.length_cons, List.length_nil]); omega)) ?_); intro _ _ _ _ _; (try dsimp only))
    | ((refine slice_ns (s := ⟨_, _, _, _, _⟩) F' N' (by first | with_reducible exact ofS_slash | with_reducible exact ofS_A | with_reducible exact ofS_nil | with_reducible exact ofS_dot | with_reducible exact ofS_hex | with_reducible exact ofS_b64 | with_reducible exact mkS_rfl _) (by first | assumption | omega | ((try simp only [List.length_append, List.length_replicate, List.length_cons, List.length_nil]); omega)) (by first | assumption | omega | ((try simp only [List.length_append, List.length_replicate, List.length_cons, List.length_nil]); omega)) ?_); intro _ _ _ _ _; (try dsimp only))
    | ((refine slice_sn (s := ⟨_, _, _, _, _⟩) F' N' (by first | with_reducible exact ofS_slash | with_reducible exact ofS_A | with_reducible exact ofS_nil | with_reducible exact ofS_dot | with_reducible exact ofS_hex | with_reducible exact ofS_b64 | with_reducible exact mkS_rfl _) (by first | assumption | omega | ((try simp only [List.length_append, List.length_replicate, List.length_cons, List.length_nil]); omega)) (by first | assumption | omega | ((try simp only [List.length_append, List.length_replicate, List.length_cons, List.length_nil]); omega)) ?_); intro _ _ _ _ _; (try dsimp only))))
  k_with "call ref" => ((k_here; (with_reducible show wpAny _ _ (call _ (_ :: (_ ++ []))) _ _ _); rw [List.append_nil]))
  k_with "StarOf ref" => ((k_here; k_dflt (refine' star_seq ?zqk1 ?zqk2 ?zqm ?zqc ?zqd ?zqT ?zqe ?zqz ?_; (case zqk1 => k_asm); (case zqk2 => k_asm); (case zqm => k_mem); (case zqc => exact rfl); (case zqd => exact rfl); (case zqT => first | exact .inl rfl | exact .inr rfl); (case zqe => exact rfl); (case zqz => assumption); k_whole); intro h' F' N'; (try k_sweep); try dsimp only [List.nil_append, List.cons_append]))
  k_with "subscriptTail" => ((k_here; (with_reducible show wpAny _ _ (subscriptTail _ _ (Value.str _ _) (Value.int _ _)) _ _ _); k_dflt (refine' tail_of_ItemOn (item_mk ?zqx ?zql ?zqa ?zqb ?_) ?zqhs ?zqht; (case zqx => first | with_reducible exact ofS_slash | with_reducible exact ofS_A | with_reducible exact ofS_nil | with_reducible exact ofS_dot | with_reducible exact ofS_hex | with_reducible exact ofS_b64 | with_reducible exact mkS_rfl _); (case zql => decide); (case zqa => exact fmod_lo (by decide)); (case zqb => exact fmod_hi (by decide) (by decide)); (case zqhs => with_unfolding_all rfl); (case zqht => intro _; with_unfolding_all rfl); intro t9 k9; (try dsimp only))))
  k_with "binaryOp FloorDiv int int" => ((k_here; (with_reducible show wpAny _ _ (binaryOp _ _ (Value.int (_ ^ _) _)) _ _ _); refine div_pow (by decide) (by decide) (by omega) ?_))
  k_with "compareOp NotEq str str" => ((k_here; k_dflt (refine' ne_mk ?zqx ?zqy ?_; (case zqx => first | with_reducible exact ofS_slash | with_reducible exact ofS_A | with_reducible exact ofS_nil | with_reducible exact ofS_dot | with_reducible exact ofS_hex | with_reducible exact ofS_b64 | with_reducible exact mkS_rfl _); (case zqy => first | with_reducible exact ofS_slash | with_reducible exact ofS_A | with_reducible exact ofS_nil | with_reducible exact ofS_dot | with_reducible exact ofS_hex | with_reducible exact ofS_b64 | with_reducible exact mkS_rfl _); k_whole)))
  k_with "binaryOp Pow int int" => ((k_here; refine pow_int_small (by omega) (by omega) (by decide) ?_))
  k_with "call type:bytes" => ((k_here; (with_reducible show wpAny _ _ (call (Value.type "bytes") [Value.ref _]) _ _ _); k_dflt (refine' KBa.make_K ?zqF ?zqN ?zqh ?zql ?zqi ?zqr ?zqn ?_; (case zqF => k_asm); (case zqN => k_asm); (case zqh => rfl); (case zql => exact News.isList (by k_asm) (by k_mem)); (case zqi => assumption); (case zqr => assumption); (case zqn => assumption); intro h9 t9 k9 F9 N9 _; (try dsimp only))))
  k_with "binaryOp BitOr int int" => ((k_here; refine or_mk (by omega) (by omega) ?_))
  k_with "binaryOp BitAnd int int" => ((k_here; first | with_reducible refine and16_mk ?_ | with_reducible refine and6_mk ?_))
  k_with "subscriptTail" => ((k_here; (with_reducible show wpAny _ _ (subscriptTail _ _ (Value.bytes _ _) (Value.int (_ % 64) _)) _ _ _); k_dflt (refine' item_b64 ?zqx ?_ ?zqhs ?zqht; (case zqx => decide +kernel); (case zqhs => with_unfolding_all rfl); (case zqht => intro _; with_unfolding_all rfl); intro t9 k9; (try dsimp only))))
  k_with "call builtin:list.append" => ((k_here; first
    | ((refine append_mk2 (by k_asm) (by k_asm) (by assumption) (by assumption) (by assumption) ?_); intro h9 F9 N9; (try k_sweep))
    | ((refine append_mk2 (by k_asm) (by k_asm) (by assumption) (by assumption) (by simp; omega) ?_); intro h9 F9 N9; (try k_sweep))))
  unfold Ct; intros; rename_i hpre hd hu hret
  refine wpAny_call ?_
  k_dflt cell_enter
  repeat' (first | (k_unfold; (try dsimp only)) | ((fail_if_success (with_reducible show wpAny _ _ (pyIter _) _ _ _)); (fail_if_success (with_reducible show UnrPost _ _ _ _ _ _ _ _ _)); (fail_if_success (with_reducible show UnrEnd _ _ _ _ _ _ _)); walk1) | ((fail_if_success (with_reducible show wpAny _ _ (pyIter _) _ _ _)); (fail_if_success (with_reducible show UnrPost _ _ _ _ _ _ _ _ _)); (fail_if_success (with_reducible show UnrEnd _ _ _ _ _ _ _)); dsimp only; walk1) | (leave1; walk_say "STEP leave1"; try dsimp only) | fail "no step")
  rename Fr _ _ _ _ => F9
  rename News _ _ _ _ => N9
  k_dflt (refine loop_b64 rfl F9 N9 hpre (by rfl) (by rfl) ?_ ?_)
  · intro I i ys tb t1 t2 z oI h tk hi hys off F9' N9'
    clear F9 N9
    have hb0 := oct_in x i
    have hl0 := lc_in x i
    have hlc := lc_step x i
    have hyl := b64_ys hys hi
    have hyl2 : ys.length ≤ 1000 := Nat.le_trans hyl (by decide)
    have offD := off_head off
    have offT := off_tail off
    have h3 := lb3 hi
    generalize hgb : (((x.getD i 0).toNat : Nat) : Int) = bb at hb0 hlc F9'
    generalize hgl : (lcI x i : Int) = ll at hl0 hlc F9'
    rcases h3 with hlb | hlb | hlb
    all_goals rw [hlb] at F9'
    · repeat' (first | (k_unfold; (try dsimp only)) | ((fail_if_success (with_reducible show wpAny _ _ (pyIter _) _ _ _)); (fail_if_success (with_reducible show UnrPost _ _ _ _ _ _ _ _ _)); (fail_if_success (with_reducible show UnrEnd _ _ _ _ _ _ _)); walk1) | ((fail_if_success (with_reducible show wpAny _ _ (pyIter _) _ _ _)); (fail_if_success (with_reducible show UnrPost _ _ _ _ _ _ _ _ _)); (fail_if_success (with_reducible show UnrEnd _ _ _ _ _ _ _)); dsimp only; walk1) | (leave1; walk_say "STEP leave1"; try dsimp only) | fail "no step")
      have hs := st_0 (lcI x (i + 1)) hi hlb
      refine b64_end (by k_asm) (by k_asm) (fun p hp => hp) offT (Ne.symm offD) (signO_1 hs.1 (by rw [hlc, sh_n _ 2 _ (by decide)] <;> rfl) (intsAre_snoc hys)) (by rfl) (by rw [hs.2]; rfl) (by rfl) hlc (by rfl) ?_
      intro y h1 h2 h3
      simp only [if_neg h1, if_neg h2, if_neg h3]
    · repeat' (first | (k_unfold; (try dsimp only)) | ((fail_if_success (with_reducible show wpAny _ _ (pyIter _) _ _ _)); (fail_if_success (with_reducible show UnrPost _ _ _ _ _ _ _ _ _)); (fail_if_success (with_reducible show UnrEnd _ _ _ _ _ _ _)); walk1) | ((fail_if_success (with_reducible show wpAny _ _ (pyIter _) _ _ _)); (fail_if_success (with_reducible show UnrPost _ _ _ _ _ _ _ _ _)); (fail_if_success (with_reducible show UnrEnd _ _ _ _ _ _ _)); dsimp only; walk1) | (leave1; walk_say "STEP leave1"; try dsimp only) | fail "no step")
      have hs := st_2 (lcI x (i + 1)) hi hlb
      refine b64_end (by k_asm) (by k_asm) (fun p hp => hp) offT (Ne.symm offD) (signO_1 hs.1 (by rw [hlc, sh_n _ 4 _ (by decide)] <;> rfl) (intsAre_snoc hys)) (by rfl) (by rw [hs.2]; rfl) (by rfl) hlc (by rfl) ?_
      intro y h1 h2 h3
      simp only [if_neg h1, if_neg h2, if_neg h3]
    · repeat' (first | (k_unfold; (try dsimp only)) | ((fail_if_success (with_reducible show wpAny _ _ (pyIter _) _ _ _)); (fail_if_success (with_reducible show UnrPost _ _ _ _ _ _ _ _ _)); (fail_if_success (with_reducible show UnrEnd _ _ _ _ _ _ _)); walk1) | ((fail_if_success (with_reducible show wpAny _ _ (pyIter _) _ _ _)); (fail_if_success (with_reducible show UnrPost _ _ _ _ _ _ _ _ _)); (fail_if_success (with_reducible show UnrEnd _ _ _ _ _ _ _)); dsimp only; walk1) | (leave1; walk_say "STEP leave1"; try dsimp only) | fail "no step")
      have hs := st_4 (lcI x (i + 1)) hi hlb
      refine b64_end (by k_asm) (by k_asm) (fun p hp => hp) offT (Ne.symm offD) (signO_2 hs.1 (by rw [hlc, sh_n _ 6 _ (by decide)] <;> rfl) (by rw [hlc, sh_n _ 0 _ (by decide)]; simp) (intsAre_snoc (intsAre_snoc hys))) (by rfl) (by rw [hs.2]; rfl) (by rfl) hlc (by rfl) ?_
      intro y h1 h2 h3
      simp only [if_neg h1, if_neg h2, if_neg h3]
  · intro ys z t1 t2 h tk hys F9' N9'
    clear F9 N9
    have hin := signO_in x 6
    have hsl : (signO x 6).length ≤ 16777216 := Nat.le_trans (signO_len x 6 (by decide)) (by decide)
    repeat' (first | (k_unfold; (try dsimp only)) | ((fail_if_success (with_reducible show wpAny _ _ (pyIter _) _ _ _)); (fail_if_success (with_reducible show UnrPost _ _ _ _ _ _ _ _ _)); (fail_if_success (with_reducible show UnrEnd _ _ _ _ _ _ _)); walk1) | ((fail_if_success (with_reducible show wpAny _ _ (pyIter _) _ _ _)); (fail_if_success (with_reducible show UnrPost _ _ _ _ _ _ _ _ _)); (fail_if_success (with_reducible show UnrEnd _ _ _ _ _ _ _)); dsimp only; walk1) | (leave1; walk_say "STEP leave1"; try dsimp only) | fail "no step")
    exact hret _ _ _ (by k_asm) (by first | k_asm | (refine' cb_drop ?cbN ?cbS; (case cbN => assumption); (case cbS => (intro p9 hp9; (repeat (first | exact hp9 | refine List.mem_cons_of_mem _ ?_))))))
end Mine
namespace Mine
set_option maxHeartbeats 8000000 in
theorem c_signs (n : Int) (t : Tok) : Ct 186 5 (0 ≤ n ∧ n < 2 ^ 48) [.int n t] (fun t => .str (mkS (bitsL n.toNat)) t) := by
  have : Fill PySem.Challenge.rw_rt0031_01 Mine.hd.heap_39 := by k_fill; trivial
  w_top off
  k_with_none
  k_with "call ref" => ((k_here; k_dflt (refine' Ct.use (c_b64 _ _) ?zqk1 ?zqk2 ?zqk3 ?zqk4 ?zqk5 ?zqkK ?zqkp ?zqkd ?zqku ?_; (case zqk1 => k_asm); (case zqk2 => k_asm); (case zqk3 => k_asm); (case zqk4 => k_asm); (case zqk5 => k_asm); (case zqkK => first | exact rfl | assumption); (case zqkp => first | exact True.intro | assumption | omega | (refine ⟨?_, ?_⟩ <;> omega) | fail "ct: pre"); (case zqkd => ktr_room); (case zqku => ktr_units); k_whole; intro t9 h9 tk9 F9 N9; (try dsimp only); (try k_fold))))
  k_with "call builtin:issubclass" => ((k_here; k_dflt (refine' issub_pair ?zqk1 ?_; (case zqk1 => exact kto_N (by k_asm) (by k_mem)); k_whole; intro _; (try dsimp only))))
  k_with "call type:type" => ((k_here; (with_reducible show wpAny _ _ (call _ [Value.bytes _ _]) _ _ _); k_dflt (refine call_type_of (Tx := "bytes") rfl (by decide +kernel) ?_)))
  k_with "eval ListComp" => ((k_here; (with_reducible show wpAny _ _ (eval (Expr.ListComp _ [Comprehension.mk _ _ [] _] _ _) _) _ _ _); k_dflt (refine lc_gen (F₀ := by k_asm) (by with_unfolding_all rfl) (by decide) (by rfl) (by decide) (by rfl) ?_)))
  k_with "eval ListComp" => ((k_here; (with_reducible show wpAny _ _ (eval (Expr.ListComp _ [Comprehension.mk _ _ [_] _] _ _) _) _ _ _); k_dflt (refine lc_genT (F₀ := by k_asm) (by with_unfolding_all rfl) (by decide) (by rfl) (by decide) (by rfl) ?_)))
  k_with "exec Assign cons ListComp" => ((k_here; k_dflt (refine lc_genA (F₀ := by k_asm) (by rfl) (by with_unfolding_all rfl) (by with_unfolding_all rfl) (by decide) (by rfl) (by decide) (by rfl) (by rfl) (by rfl) ?_)))
  k_with "CompEnd" => ((refine compEnd_at (by k_asm) (by k_asm) (by intro p9 hp9; (repeat (first | exact hp9 | refine List.mem_cons_of_mem _ ?_))) (by first | assumption | (simp only [LCg.Off3, and_true]; assumption) | lcg_off) (by first | exact trivial | assumption | exact Or.inr ⟨_, by k_mem, rfl, _, rfl⟩) ?_))
  k_with "call builtin:chr" => ((k_here; refine chr_byte ?_; intro t9; (try dsimp only)))
  k_with "call builtin:str.join" => ((k_here; (with_reducible show wpAny _ _ (call (Value.builtin "str.join") [Value.str _ _, Value.ref _]) _ _ _); k_dflt (refine' join_led ?zqN ?zqm ?zqi ?zqs ?zqw ?_; (case zqN => k_asm); (case zqm => k_mem); (case zqi => assumption); (case zqs => decide); (case zqw => first | assumption | omega); k_whole; intro t9 k9; (try dsimp only))))
  k_with "exec For Name Name cons nil" => ((k_here; (rename Fr _ _ _ _ => lF'); (with_unfolding_all refine' For_invVF lF' ?zqk1 ?zqk2 ?_; (case zqk1 => exact rfl); (case zqk2 => exact rfl); k_whole)))
  k_with "call builtin:str.join" => ((k_here; (with_reducible show wpAny _ _ (call (Value.builtin "str.join") [Value.str _ _, Value.ref _]) _ _ _); k_dflt (refine' join_chars_led ?zqN ?zqm ?zqi ?zqw ?zqx ?_; (case zqN => k_asm); (case zqm => k_mem); (case zqi => assumption); (case zqw => first | assumption | omega | ((try simp only [List.length_append, List.length_replicate, List.length_cons, List.length_nil]); omega)); (case zqx => first | with_reducible exact ofS_slash | with_reducible exact ofS_A | with_reducible exact ofS_nil | with_reducible exact ofS_dot | with_reducible exact ofS_hex | with_reducible exact ofS_b64 | with_reducible exact mkS_rfl _); k_whole; intro t9 k9; (try dsimp only))))
  k_with "call builtin:len" => ((k_here; (with_reducible show wpAny _ _ (call _ [Value.str _ _]) _ _ _); k_dflt (refine' len_mk ?zqx ?zql ?_; (case zqx => first | with_reducible exact ofS_slash | with_reducible exact ofS_A | with_reducible exact ofS_nil | with_reducible exact ofS_dot | with_reducible exact ofS_hex | with_reducible exact ofS_b64 | with_reducible exact mkS_rfl _); (case zql => first | assumption | omega | ((try simp only [List.length_append, List.length_replicate, List.length_cons, List.length_nil]); omega)); k_whole; intro t9 k9; (try dsimp only))))
  k_with "truthy str" => ((k_here; k_dflt (refine' truthy_mk ?zqx ?zql ?_; (case zqx => first | with_reducible exact ofS_slash | with_reducible exact ofS_A | with_reducible exact ofS_nil | with_reducible exact ofS_dot | with_reducible exact ofS_hex | with_reducible exact ofS_b64 | with_reducible exact mkS_rfl _); (case zql => first | assumption | omega | ((try simp only [List.length_append, List.length_replicate, List.length_cons, List.length_nil]); omega)); k_whole; intro k9; (try dsimp only))))
  k_with "binaryOp Add str str" => ((k_here; k_dflt (refine' add_mk ?zqx ?zqy ?zql ?_; (case zqx => first | with_reducible exact ofS_slash | with_reducible exact ofS_A | with_reducible exact ofS_nil | with_reducible exact ofS_dot | with_reducible exact ofS_hex | with_reducible exact ofS_b64 | with_reducible exact mkS_rfl _); (case zqy => first | with_reducible exact ofS_slash | with_reducible exact ofS_A | with_reducible exact ofS_nil | with_reducible exact ofS_dot | with_reducible exact ofS_hex | with_reducible exact ofS_b64 | with_reducible exact mkS_rfl _); (case zql => first | assumption | omega | ((try simp only [List.length_append, List.length_replicate, List.length_cons, List.length_nil]); omega)); k_whole; intro t9 k9; (try dsimp only))))
  k_with "inplaceOp Add str str" => ((k_here; k_dflt (refine' iadd_mk ?zqx ?zqy ?zql ?_; (case zqx => first | with_reducible exact ofS_slash | with_reducible exact ofS_A | with_reducible exact ofS_nil | with_reducible exact ofS_dot | with_reducible exact ofS_hex | with_reducible exact ofS_b64 | with_reducible exact mkS_rfl _); (case zqy => first | with_reducible exact ofS_slash | with_reducible exact ofS_A | with_reducible exact ofS_nil | with_reducible exact ofS_dot | with_reducible exact ofS_hex | with_reducible exact ofS_b64 | with_reducible exact mkS_rfl _); (case zql => first | assumption | omega | ((try simp only [List.length_append, List.length_replicate, List.length_cons, List.length_nil]); omega)); k_whole; intro t9 k9; (try dsimp only))))
  k_with "binaryOp Mult str int" => ((k_here; k_dflt (refine' mul_mk ?zqx ?zqa ?zqb ?_; (case zqx => first | with_reducible exact ofS_slash | with_reducible exact ofS_A | with_reducible exact ofS_nil | with_reducible exact ofS_dot | with_reducible exact ofS_hex | with_reducible exact ofS_b64 | with_reducible exact mkS_rfl _); (case zqa => first | assumption | omega | ((try simp only [List.length_append, List.length_replicate, List.length_cons, List.length_nil]); omega)); (case zqb => first | assumption | omega | ((try simp only [List.length_append, List.length_replicate, List.length_cons, List.length_nil]); omega)); k_whole; intro t9 k9; (try dsimp only))))
  k_with "compareOp Eq str str" => ((k_here; k_dflt (refine' eq_mk ?zqx ?zqy ?_; (case zqx => first | with_reducible exact ofS_slash | with_reducible exact ofS_A | with_reducible exact ofS_nil | with_reducible exact ofS_dot | with_reducible exact ofS_hex | with_reducible exact ofS_b64 | with_reducible exact mkS_rfl _); (case zqy => first | with_reducible exact ofS_slash | with_reducible exact ofS_A | with_reducible exact ofS_nil | with_reducible exact ofS_dot | with_reducible exact ofS_hex | with_reducible exact ofS_b64 | with_reducible exact mkS_rfl _); k_whole)))
  k_with "subscriptTail Name Slice str ref" => ((k_here; (with_reducible rename Fr _ _ _ _ => F'); (with_reducible rename News _ _ _ _ => N'); first
    | ((refine slice_ss (s := ⟨_, _, _, _, _⟩) F' N' (by first | with_reducible exact ofS_slash | with_reducible exact ofS_A | with_reducible exact ofS_nil | with_reducible exact ofS_dot | with_reducible exact ofS_hex | with_reducible exact ofS_b64 | with_reducible exact mkS_rfl _) (by first | assumption | omega | ((try simp only [List.length_append, List.length_replicate, List.length_cons, List.length_nil]); omega)) (by first | assumption | omega | ((try simp only [List.length_append, List.length_replicate, List.length_cons, List.length_nil]); omega)) (by first | assumption | omega | ((try simp only [List.length_append, List.length_replicate, List.length_cons, List.length_nil]); omega)) ?_); intro _ _ _ _ _; (try dsimp only))
    | ((refine slice_ns (s := ⟨_, _, _, _, _⟩) F' N' (by first | with_reducible exact ofS_slash | with_reducible exact ofS_A | with_reducible exact ofS_nil | with_reducible exact ofS_dot | with_reducible exact ofS_hex | with_reducible exact ofS_b64 | with_reducible exact mkS_rfl _) (by first | assumption | omega | ((try simp only [List.length_append, List.length_replicate, List.length_cons, List.length_nil]); omega)) (by first | assumption | omega | ((try simp only [List.length_append, List.length_replicate, List.length_cons, List.length_nil]); omega)) ?_); intro _ _ _ _ _; (try dsimp only))
    | ((refine slice_sn (s := ⟨_, _, _, _, _⟩) F' N' (by first | with_reducible exact ofS_slash | with_reducible exact ofS_A | with_reducible exact ofS_nil | with_reducible exact ofS_dot | with_reducible exact ofS_hex | with_reducible exact ofS_b64 | with_reducible exact mkS_rfl _) (by first | assumption | omega | ((try simp only [List.length_append, List.length_replicate, List.length_cons, List.length_nil]); omega)) (by first | assumption | omega | ((try simp only [List.length_append, List.length_replicate, List.length_cons, List.length_nil]); omega)) ?_); intro _ _ _ _ _; (try dsimp only))))
  k_with "call ref" => ((k_here; (with_reducible show wpAny _ _ (call _ (_ :: (_ ++ []))) _ _ _); rw [List.append_nil]))
  k_with "StarOf ref" => ((k_here; k_dflt (refine' star_seq ?zqk1 ?zqk2 ?zqm ?zqc ?zqd ?zqT ?zqe ?zqz ?_; (case zqk1 => k_asm); (case zqk2 => k_asm); (case zqm => k_mem); (case zqc => exact rfl); (case zqd => exact rfl); (case zqT => first | exact .inl rfl | exact .inr rfl); (case zqe => exact rfl); (case zqz => assumption); k_whole); intro h' F' N'; (try k_sweep); try dsimp only [List.nil_append, List.cons_append]))
  k_with "subscriptTail" => ((k_here; (with_reducible show wpAny _ _ (subscriptTail _ _ (Value.str _ _) (Value.int _ _)) _ _ _); k_dflt (refine' tail_of_ItemOn (item_mk ?zqx ?zql ?zqa ?zqb ?_) ?zqhs ?zqht; (case zqx => first | with_reducible exact ofS_slash | with_reducible exact ofS_A | with_reducible exact ofS_nil | with_reducible exact ofS_dot | with_reducible exact ofS_hex | with_reducible exact ofS_b64 | with_reducible exact mkS_rfl _); (case zql => decide); (case zqa => exact fmod_lo (by decide)); (case zqb => exact fmod_hi (by decide) (by decide)); (case zqhs => with_unfolding_all rfl); (case zqht => intro _; with_unfolding_all rfl); intro t9 k9; (try dsimp only))))
  k_with "binaryOp FloorDiv int int" => ((k_here; (with_reducible show wpAny _ _ (binaryOp _ _ (Value.int (_ ^ _) _)) _ _ _); refine div_pow (by decide) (by decide) (by omega) ?_))
  k_with "compareOp NotEq str str" => ((k_here; k_dflt (refine' ne_mk ?zqx ?zqy ?_; (case zqx => first | with_reducible exact ofS_slash | with_reducible exact ofS_A | with_reducible exact ofS_nil | with_reducible exact ofS_dot | with_reducible exact ofS_hex | with_reducible exact ofS_b64 | with_reducible exact mkS_rfl _); (case zqy => first | with_reducible exact ofS_slash | with_reducible exact ofS_A | with_reducible exact ofS_nil | with_reducible exact ofS_dot | with_reducible exact ofS_hex | with_reducible exact ofS_b64 | with_reducible exact mkS_rfl _); k_whole)))
  k_with "binaryOp Pow int int" => ((k_here; refine pow_int_small (by omega) (by omega) (by decide) ?_))
  k_with "call type:bytes" => ((k_here; (with_reducible show wpAny _ _ (call (Value.type "bytes") [Value.ref _]) _ _ _); k_dflt (refine' KBa.make_K ?zqF ?zqN ?zqh ?zql ?zqi ?zqr ?zqn ?_; (case zqF => k_asm); (case zqN => k_asm); (case zqh => rfl); (case zql => exact News.isList (by k_asm) (by k_mem)); (case zqi => assumption); (case zqr => assumption); (case zqn => assumption); intro h9 t9 k9 F9 N9 _; (try dsimp only))))
  unfold Ct; intros; rename_i hpre hd hu hret
  refine wpAny_call ?_
  obtain ⟨N, rfl⟩ : ∃ N : Nat, n = (N : Int) := ⟨n.toNat, by omega⟩
  have hN : N < 2 ^ 48 := by omega
  k_dflt cell_enter
  repeat' (first | (k_unfold; (try dsimp only)) | ((fail_if_success (with_reducible show wpAny _ _ (pyIter _) _ _ _)); walk1) | ((fail_if_success (with_reducible show wpAny _ _ (pyIter _) _ _ _)); dsimp only; walk1) | (leave1; walk_say "STEP leave1"; try dsimp only) | fail "no step")
  rename IsRange _ _ _ _ _ _ _ _ => hr9
  refine src_range (n := 6) rfl hr9 (by decide) (by decide) (by rw [sizeLine_eq]; omega) (by k_asm) (by k_asm) ?_
  intro s₂ hs; obtain ⟨g9, rfl⟩ := hs
  refine rest_intsL (octI N) (by simp [octI]) ?_ ?_
  · intro i v I oI C oC D m₂ ys h tk E' hi hv hC hx F N9 off ne
    obtain ⟨t9, rfl⟩ := hv
    repeat' (first | (k_unfold; (try dsimp only)) | ((fail_if_success (with_reducible show wpAny _ _ (pyIter _) _ _ _)); walk1) | ((fail_if_success (with_reducible show wpAny _ _ (pyIter _) _ _ _)); dsimp only; walk1) | (leave1; walk_say "STEP leave1"; try dsimp only) | fail "no step")
    rw [oct_item, octI_get hi, show (5 - (0 + (i : Int) * 1)).toNat = 5 - i by omega]
  · intro ys hys
    have hin := octI_in N
    have hol : (octI N).length ≤ 16777216 := by simp [octI]
    have hsz : (byteArr (octI N)).size = 6 := by simp [byteArr, octI]
    repeat' (first | (k_unfold; (try dsimp only)) | ((fail_if_success (with_reducible show wpAny _ _ (pyIter _) _ _ _)); walk1) | ((fail_if_success (with_reducible show wpAny _ _ (pyIter _) _ _ _)); dsimp only; walk1) | (leave1; walk_say "STEP leave1"; try dsimp only) | fail "no step")
    have hsz9 : (byteArr (signO (byteArr (octI N)) 6)).size ≤ sizeLine := by rw [signO_size, sizeLine_eq]; simp [chars, signL, figO, stepO]
    have hsl : (signL (byteArr (octI N))).length ≤ 1000 := by rw [signL_of hN]; simp [bitsL]
    refine src_bytes rfl hsz9 (by k_asm) (by k_asm) ?_
    intro s₂ hs; obtain ⟨g9, rfl⟩ := hs
    refine rest_strsL (chars (signL (byteArr (octI N)))) (signO_size _) ?_ ?_
    · intro i v I oI C oC D m₂ ys h tk E' hi hv hC hx F N9 off ne
      obtain ⟨c9, u9, hc9, rfl⟩ := hv
      repeat' (first | (k_unfold; (try dsimp only)) | ((fail_if_success (with_reducible show wpAny _ _ (pyIter _) _ _ _)); walk1) | ((fail_if_success (with_reducible show wpAny _ _ (pyIter _) _ _ _)); dsimp only; walk1) | (leave1; walk_say "STEP leave1"; try dsimp only) | fail "no step")
      exact signL_get hc9
    · intro ys hys
      repeat' (first | (k_unfold; (try dsimp only)) | ((fail_if_success (with_reducible show wpAny _ _ (pyIter _) _ _ _)); walk1) | ((fail_if_success (with_reducible show wpAny _ _ (pyIter _) _ _ _)); dsimp only; walk1) | (leave1; walk_say "STEP leave1"; try dsimp only) | fail "no step")
      rw [signL_of hN]
      exact hret _ _ _ (by k_asm) (by first | k_asm | (refine' cb_drop ?cbN ?cbS; (case cbN => assumption); (case cbS => (intro p9 hp9; (repeat (first | exact hp9 | refine List.mem_cons_of_mem _ ?_))))))
end Mine
section
open PySem.Calls PySem.Spec
namespace Mine
theorem c_basep (N f : Nat) (t : Tok) : Ct 159 3 (f ≤ 4) [.str (mkS (pathL N f)) t] (fun t => .str (mkS (if f = 0 then [] else fld N 0)) t) := by
  by_cases h : f = 0
  · subst h
    exact (c_base [] [] t).weaken (fun _ => ⟨by simp, by simp⟩) fun _ _ => rfl
  · rw [pathL_cut N f h, if_neg h]
    exact (c_base (preL N f) (fld N 0) t).weaken (fun hf => ⟨(fld_ok N 0).2, by have := preL_len N f hf; have := (fld_ok N 0).1; omega⟩) fun _ _ => rfl
theorem c_dirp (N f : Nat) (t : Tok) : Ct 166 3 (f ≤ 4) [.str (mkS (pathL N f)) t] (fun t => .str (mkS (pathL (N / 4096) (f - 1))) t) := by
  by_cases h : f = 0
  · subst h
    exact (c_dir [] [] t).weaken (fun _ => ⟨by simp, by simp, .inl rfl⟩) fun _ _ => rfl
  · rw [pathL_cut N f h, ← dir_pre N f h]
    exact (c_dir (preL N f) (fld N 0) t).weaken (fun hf => ⟨(fld_ok N 0).2, by have := preL_len N f hf; have := (fld_ok N 0).1; omega, preL_ok N f h⟩) fun _ _ => rfl
theorem c_pathN (q i : Nat) (t t' : Tok) : Ct 181 5 (i < 4 ∧ q < 2 ^ 48 ∧ q < 4096 ^ (4 - i)) [.int (q : Int) t, .int (4 - (0 + (i : Int) * 1)) t'] (fun t => .str (mkS (pathL q (4 - i))) t) := by
  refine (c_path (q : Int) (4 - (0 + (i : Int) * 1)) t t').weaken (fun ⟨h1, h2, h3⟩ => ?_) fun ⟨h1, h2, h3⟩ t => ?_
  · have e : (4 - (0 + (i : Int) * 1)).toNat = 4 - i := by omega
    refine ⟨by omega, by omega, by omega, by omega, ?_⟩
    rw [e]
    have h4 : ((4096 ^ (4 - i) : Nat) : Int) = (4096 : Int) ^ (4 - i) := by simp
    rw [← h4]; omega
  · have e : (4 - (0 + (i : Int) * 1)).toNat = 4 - i := by omega
    rw [e, Int.toNat_natCast]
theorem c_path4 (q : Nat) (t t' : Tok) : Ct 181 5 (q < 2 ^ 48) [.int (q : Int) t, .int 4 t'] (fun t => .str (mkS (pathL q 4)) t) := by
  refine (c_path (q : Int) 4 t t').weaken (fun h2 => ?_) fun _ t => rfl
  have h4 : (4096 : Int) ^ (4 : Int).toNat = 2 ^ 48 := by decide
  rw [h4]
  omega
theorem c_plainN (q i : Nat) (t t' : Tok) : Ct 191 1 (i ≤ 4 ∧ q < 2 ^ 48) [.int (q : Int) t, .int (4 - (0 + (i : Int) * 1)) t'] (fun t => .str (mkS (pathL q (4 - i))) t) := by
  refine (c_plain (q : Int) (4 - (0 + (i : Int) * 1)) t t').weaken (fun ⟨h1, h2⟩ => ⟨by omega, by omega, by omega, by omega⟩) fun ⟨h1, h2⟩ t => ?_
  have e : (4 - (0 + (i : Int) * 1)).toNat = 4 - i := by omega
  rw [e, Int.toNat_natCast]
theorem c_plain1 (q : Nat) (t t' : Tok) : Ct 191 1 True [.int (Int.fmod (q : Int) 4096) t, .int 1 t'] (fun t => .str (mkS (pathL (q % 4096) 1)) t) := by
  have e : Int.fmod (q : Int) 4096 = ((q % 4096 : Nat) : Int) := fmodN q 4096
  rw [e]
  exact (c_plain ((q % 4096 : Nat) : Int) 1 t t').weaken (fun _ => ⟨by omega, by omega, by omega, by omega⟩) fun _ t => rfl
theorem c_plainS (q sh : Nat) (t t' : Tok) : Ct 191 1 (sh ≤ 4 ∧ q < 2 ^ 48) [.int (q : Int) t, .int (sh : Int) t'] (fun t => .str (mkS (pathL q sh)) t) := by
  refine (c_plain (q : Int) (sh : Int) t t').weaken (fun ⟨h1, h2⟩ => ⟨by omega, by omega, by omega, by omega⟩) fun _ t => rfl
end Mine

end
namespace Mine
set_option maxHeartbeats 8000000 in
theorem c_climbs (n : Int) (t : Tok) : Ct 203 12 (0 ≤ n ∧ n < 2 ^ 48) [.int n t] (fun _ => .bool true) := by
  have : Fill PySem.Challenge.rw_rt0031_01 Mine.hd.heap_39 := by k_fill; trivial
  w_top off
  k_with_none
  k_with "call ref" => ((k_here; k_dflt (refine' Ct.use (c_path4 _ _ _) ?zqk1 ?zqk2 ?zqk3 ?zqk4 ?zqk5 ?zqkK ?zqkp ?zqkd ?zqku ?_; (case zqk1 => k_asm); (case zqk2 => k_asm); (case zqk3 => k_asm); (case zqk4 => k_asm); (case zqk5 => k_asm); (case zqkK => first | exact rfl | assumption); (case zqkp => first | exact True.intro | assumption | omega | (refine ⟨?_, ?_⟩ <;> omega) | fail "ct: pre"); (case zqkd => ktr_room); (case zqku => ktr_units); k_whole; intro t9 h9 tk9 F9 N9; (try dsimp only); (try k_fold))))
  k_with "call ref" => ((k_here; k_dflt (refine' Ct.use (c_pathN _ _ _ _) ?zqk1 ?zqk2 ?zqk3 ?zqk4 ?zqk5 ?zqkK ?zqkp ?zqkd ?zqku ?_; (case zqk1 => k_asm); (case zqk2 => k_asm); (case zqk3 => k_asm); (case zqk4 => k_asm); (case zqk5 => k_asm); (case zqkK => first | exact rfl | assumption); (case zqkp => first | exact True.intro | assumption | omega | (refine ⟨?_, ?_⟩ <;> omega) | fail "ct: pre"); (case zqkd => ktr_room); (case zqku => ktr_units); k_whole; intro t9 h9 tk9 F9 N9; (try dsimp only); (try k_fold))))
  k_with "call ref" => ((k_here; k_dflt (refine' Ct.use (c_plainN _ _ _ _) ?zqk1 ?zqk2 ?zqk3 ?zqk4 ?zqk5 ?zqkK ?zqkp ?zqkd ?zqku ?_; (case zqk1 => k_asm); (case zqk2 => k_asm); (case zqk3 => k_asm); (case zqk4 => k_asm); (case zqk5 => k_asm); (case zqkK => first | exact rfl | assumption); (case zqkp => first | exact True.intro | assumption | omega | (refine ⟨?_, ?_⟩ <;> omega) | fail "ct: pre"); (case zqkd => ktr_room); (case zqku => ktr_units); k_whole; intro t9 h9 tk9 F9 N9; (try dsimp only); (try k_fold))))
  k_with "call ref" => ((k_here; k_dflt (refine' Ct.use (c_plain1 _ _ _) ?zqk1 ?zqk2 ?zqk3 ?zqk4 ?zqk5 ?zqkK ?zqkp ?zqkd ?zqku ?_; (case zqk1 => k_asm); (case zqk2 => k_asm); (case zqk3 => k_asm); (case zqk4 => k_asm); (case zqk5 => k_asm); (case zqkK => first | exact rfl | assumption); (case zqkp => first | exact True.intro | assumption | omega | (refine ⟨?_, ?_⟩ <;> omega) | fail "ct: pre"); (case zqkd => ktr_room); (case zqku => ktr_units); k_whole; intro t9 h9 tk9 F9 N9; (try dsimp only); (try k_fold))))
  k_with "call ref" => ((k_here; k_dflt (refine' Ct.use (c_signs _ _) ?zqk1 ?zqk2 ?zqk3 ?zqk4 ?zqk5 ?zqkK ?zqkp ?zqkd ?zqku ?_; (case zqk1 => k_asm); (case zqk2 => k_asm); (case zqk3 => k_asm); (case zqk4 => k_asm); (case zqk5 => k_asm); (case zqkK => first | exact rfl | assumption); (case zqkp => first | exact True.intro | assumption | omega | (refine ⟨?_, ?_⟩ <;> omega) | fail "ct: pre"); (case zqkd => ktr_room); (case zqku => ktr_units); k_whole; intro t9 h9 tk9 F9 N9; (try dsimp only); (try k_fold))))
  k_with "call ref" => ((k_here; k_dflt (refine' Ct.use (c_bits _ _) ?zqk1 ?zqk2 ?zqk3 ?zqk4 ?zqk5 ?zqkK ?zqkp ?zqkd ?zqku ?_; (case zqk1 => k_asm); (case zqk2 => k_asm); (case zqk3 => k_asm); (case zqk4 => k_asm); (case zqk5 => k_asm); (case zqkK => first | exact rfl | assumption); (case zqkp => first | exact True.intro | assumption | omega | (refine ⟨?_, ?_⟩ <;> omega) | fail "ct: pre"); (case zqkd => ktr_room); (case zqku => ktr_units); k_whole; intro t9 h9 tk9 F9 N9; (try dsimp only); (try k_fold))))
  k_with "call ref" => ((k_here; k_dflt (refine' Ct.use (c_basep _ _ _) ?zqk1 ?zqk2 ?zqk3 ?zqk4 ?zqk5 ?zqkK ?zqkp ?zqkd ?zqku ?_; (case zqk1 => k_asm); (case zqk2 => k_asm); (case zqk3 => k_asm); (case zqk4 => k_asm); (case zqk5 => k_asm); (case zqkK => first | exact rfl | assumption); (case zqkp => first | exact True.intro | assumption | omega | (refine ⟨?_, ?_⟩ <;> omega) | fail "ct: pre"); (case zqkd => ktr_room); (case zqku => ktr_units); k_whole; intro t9 h9 tk9 F9 N9; (try dsimp only); (try k_fold))))
  k_with "call ref" => ((k_here; k_dflt (refine' Ct.use (c_dirp _ _ _) ?zqk1 ?zqk2 ?zqk3 ?zqk4 ?zqk5 ?zqkK ?zqkp ?zqkd ?zqku ?_; (case zqk1 => k_asm); (case zqk2 => k_asm); (case zqk3 => k_asm); (case zqk4 => k_asm); (case zqk5 => k_asm); (case zqkK => first | exact rfl | assumption); (case zqkp => first | exact True.intro | assumption | omega | (refine ⟨?_, ?_⟩ <;> omega) | fail "ct: pre"); (case zqkd => ktr_room); (case zqku => ktr_units); k_whole; intro t9 h9 tk9 F9 N9; (try dsimp only); (try k_fold))))
  k_with "call builtin:issubclass" => ((k_here; k_dflt (refine' issub_pair ?zqk1 ?_; (case zqk1 => exact kto_N (by k_asm) (by k_mem)); k_whole; intro _; (try dsimp only))))
  k_with "call type:type" => ((k_here; (with_reducible show wpAny _ _ (call _ [Value.bytes _ _]) _ _ _); k_dflt (refine call_type_of (Tx := "bytes") rfl (by decide +kernel) ?_)))
  k_with "eval ListComp" => ((k_here; (with_reducible show wpAny _ _ (eval (Expr.ListComp _ [Comprehension.mk _ _ [] _] _ _) _) _ _ _); k_dflt (refine lc_gen (F₀ := by k_asm) (by with_unfolding_all rfl) (by decide) (by rfl) (by decide) (by rfl) ?_)))
  k_with "eval ListComp" => ((k_here; (with_reducible show wpAny _ _ (eval (Expr.ListComp _ [Comprehension.mk _ _ [_] _] _ _) _) _ _ _); k_dflt (refine lc_genT (F₀ := by k_asm) (by with_unfolding_all rfl) (by decide) (by rfl) (by decide) (by rfl) ?_)))
  k_with "exec Assign cons ListComp" => ((k_here; k_dflt (refine lc_genA (F₀ := by k_asm) (by rfl) (by with_unfolding_all rfl) (by with_unfolding_all rfl) (by decide) (by rfl) (by decide) (by rfl) (by rfl) (by rfl) ?_)))
  k_with "CompEnd" => ((refine compEnd_at (by k_asm) (by k_asm) (by intro p9 hp9; (repeat (first | exact hp9 | refine List.mem_cons_of_mem _ ?_))) (by first | assumption | (simp only [LCg.Off3, and_true]; assumption) | lcg_off) (by first | exact trivial | assumption | exact Or.inr ⟨_, by k_mem, rfl, _, rfl⟩) ?_))
  k_with "call builtin:chr" => ((k_here; refine chr_byte ?_; intro t9; (try dsimp only)))
  k_with "call builtin:str.join" => ((k_here; (with_reducible show wpAny _ _ (call (Value.builtin "str.join") [Value.str _ _, Value.ref _]) _ _ _); k_dflt (refine' join_led ?zqN ?zqm ?zqi ?zqs ?zqw ?_; (case zqN => k_asm); (case zqm => k_mem); (case zqi => assumption); (case zqs => decide); (case zqw => first | assumption | omega); k_whole; intro t9 k9; (try dsimp only))))
  k_with "exec For Name Name cons nil" => ((k_here; (rename Fr _ _ _ _ => lF'); (with_unfolding_all refine' For_invVF lF' ?zqk1 ?zqk2 ?_; (case zqk1 => exact rfl); (case zqk2 => exact rfl); k_whole)))
  k_with "call builtin:str.join" => ((k_here; (with_reducible show wpAny _ _ (call (Value.builtin "str.join") [Value.str _ _, Value.ref _]) _ _ _); k_dflt (refine' join_chars_led ?zqN ?zqm ?zqi ?zqw ?zqx ?_; (case zqN => k_asm); (case zqm => k_mem); (case zqi => assumption); (case zqw => first | assumption | omega | ((try simp only [List.length_append, List.length_replicate, List.length_cons, List.length_nil]); omega)); (case zqx => first | with_reducible exact ofS_slash | with_reducible exact ofS_A | with_reducible exact ofS_nil | with_reducible exact ofS_dot | with_reducible exact ofS_hex | with_reducible exact ofS_b64 | with_reducible exact mkS_rfl _); k_whole; intro t9 k9; (try dsimp only))))
  k_with "call builtin:len" => ((k_here; (with_reducible show wpAny _ _ (call _ [Value.str _ _]) _ _ _); k_dflt (refine' len_mk ?zqx ?zql ?_; (case zqx => first | with_reducible exact ofS_slash | with_reducible exact ofS_A | with_reducible exact ofS_nil | with_reducible exact ofS_dot | with_reducible exact ofS_hex | with_reducible exact ofS_b64 | with_reducible exact mkS_rfl _); (case zql => first | assumption | omega | ((try simp only [List.length_append, List.length_replicate, List.length_cons, List.length_nil]); omega)); k_whole; intro t9 k9; (try dsimp only))))
  k_with "truthy str" => ((k_here; k_dflt (refine' truthy_mk ?zqx ?zql ?_; (case zqx => first | with_reducible exact ofS_slash | with_reducible exact ofS_A | with_reducible exact ofS_nil | with_reducible exact ofS_dot | with_reducible exact ofS_hex | with_reducible exact ofS_b64 | with_reducible exact mkS_rfl _); (case zql => first | assumption | omega | ((try simp only [List.length_append, List.length_replicate, List.length_cons, List.length_nil]); omega)); k_whole; intro k9; (try dsimp only))))
  k_with "binaryOp Add str str" => ((k_here; k_dflt (refine' add_mk ?zqx ?zqy ?zql ?_; (case zqx => first | with_reducible exact ofS_slash | with_reducible exact ofS_A | with_reducible exact ofS_nil | with_reducible exact ofS_dot | with_reducible exact ofS_hex | with_reducible exact ofS_b64 | with_reducible exact mkS_rfl _); (case zqy => first | with_reducible exact ofS_slash | with_reducible exact ofS_A | with_reducible exact ofS_nil | with_reducible exact ofS_dot | with_reducible exact ofS_hex | with_reducible exact ofS_b64 | with_reducible exact mkS_rfl _); (case zql => first | assumption | omega | ((try simp only [List.length_append, List.length_replicate, List.length_cons, List.length_nil]); omega)); k_whole; intro t9 k9; (try dsimp only))))
  k_with "inplaceOp Add str str" => ((k_here; k_dflt (refine' iadd_mk ?zqx ?zqy ?zql ?_; (case zqx => first | with_reducible exact ofS_slash | with_reducible exact ofS_A | with_reducible exact ofS_nil | with_reducible exact ofS_dot | with_reducible exact ofS_hex | with_reducible exact ofS_b64 | with_reducible exact mkS_rfl _); (case zqy => first | with_reducible exact ofS_slash | with_reducible exact ofS_A | with_reducible exact ofS_nil | with_reducible exact ofS_dot | with_reducible exact ofS_hex | with_reducible exact ofS_b64 | with_reducible exact mkS_rfl _); (case zql => first | assumption | omega | ((try simp only [List.length_append, List.length_replicate, List.length_cons, List.length_nil]); omega)); k_whole; intro t9 k9; (try dsimp only))))
  k_with "binaryOp Mult str int" => ((k_here; k_dflt (refine' mul_mk ?zqx ?zqa ?zqb ?_; (case zqx => first | with_reducible exact ofS_slash | with_reducible exact ofS_A | with_reducible exact ofS_nil | with_reducible exact ofS_dot | with_reducible exact ofS_hex | with_reducible exact ofS_b64 | with_reducible exact mkS_rfl _); (case zqa => first | assumption | omega | ((try simp only [List.length_append, List.length_replicate, List.length_cons, List.length_nil]); omega)); (case zqb => first | assumption | omega | ((try simp only [List.length_append, List.length_replicate, List.length_cons, List.length_nil]); omega)); k_whole; intro t9 k9; (try dsimp only))))
  k_with "compareOp Eq str str" => ((k_here; k_dflt (refine' eq_mk ?zqx ?zqy ?_; (case zqx => first | with_reducible exact ofS_slash | with_reducible exact ofS_A | with_reducible exact ofS_nil | with_reducible exact ofS_dot | with_reducible exact ofS_hex | with_reducible exact ofS_b64 | with_reducible exact mkS_rfl _); (case zqy => first | with_reducible exact ofS_slash | with_reducible exact ofS_A | with_reducible exact ofS_nil | with_reducible exact ofS_dot | with_reducible exact ofS_hex | with_reducible exact ofS_b64 | with_reducible exact mkS_rfl _); k_whole)))
  k_with "subscriptTail Name Slice str ref" => ((k_here; (with_reducible rename Fr _ _ _ _ => F'); (with_reducible rename News _ _ _ _ => N'); first
    | ((refine slice_ss (s := ⟨_, _, _, _, _⟩) F' N' (by first | with_reducible exact ofS_slash | with_reducible exact ofS_A | with_reducible exact ofS_nil | with_reducible exact ofS_dot | with_reducible exact ofS_hex | with_reducible exact ofS_b64 | with_reducible exact mkS_rfl _) (by first | assumption | omega | ((try simp only [List.length_append, List.length_replicate, List.length_cons, List.length_nil]); omega)) (by first | assumption | omega | ((try simp only [List.length_append, List.length_replicate, List.length_cons, List.length_nil]); omega)) (by first | assumption | omega | ((try simp only [List.length_append, List.length_replicate, List.length_cons, List.length_nil]); omega)) ?_); intro _ _ _ _ _; (try dsimp only))
    | ((refine slice_ns (s := ⟨_, _, _, _, _⟩) F' N' (by first | with_reducible exact ofS_slash | with_reducible exact ofS_A | with_reducible exact ofS_nil | with_reducible exact ofS_dot | with_reducible exact ofS_hex | with_reducible exact ofS_b64 | with_reducible exact mkS_rfl _) (by first | assumption | omega | ((try simp only [List.length_append, List.length_replicate, List.length_cons, List.length_nil]); omega)) (by first | assumption | omega | ((try simp only [List.length_append, List.length_replicate, List.length_cons, List.length_nil]); omega)) ?_); intro _ _ _ _ _; (try dsimp only))
    | ((refine slice_sn (s := ⟨_, _, _, _, _⟩) F' N' (by first | with_reducible exact ofS_slash | with_reducible exact ofS_A | with_reducible exact ofS_nil | with_reducible exact ofS_dot | with_reducible exact ofS_hex | with_reducible exact ofS_b64 | with_reducible exact mkS_rfl _) (by first | assumption | omega | ((try simp only [List.length_append, List.length_replicate, List.length_cons, List.length_nil]); omega)) (by first | assumption | omega | ((try simp only [List.length_append, List.length_replicate, List.length_cons, List.length_nil]); omega)) ?_); intro _ _ _ _ _; (try dsimp only))))
  k_with "call ref" => ((k_here; (with_reducible show wpAny _ _ (call _ (_ :: (_ ++ []))) _ _ _); rw [List.append_nil]))
  k_with "StarOf ref" => ((k_here; k_dflt (refine' star_seq ?zqk1 ?zqk2 ?zqm ?zqc ?zqd ?zqT ?zqe ?zqz ?_; (case zqk1 => k_asm); (case zqk2 => k_asm); (case zqm => k_mem); (case zqc => exact rfl); (case zqd => exact rfl); (case zqT => first | exact .inl rfl | exact .inr rfl); (case zqe => exact rfl); (case zqz => assumption); k_whole); intro h' F' N'; (try k_sweep); try dsimp only [List.nil_append, List.cons_append]))
  k_with "subscriptTail" => ((k_here; (with_reducible show wpAny _ _ (subscriptTail _ _ (Value.str _ _) (Value.int _ _)) _ _ _); k_dflt (refine' tail_of_ItemOn (item_mk ?zqx ?zql ?zqa ?zqb ?_) ?zqhs ?zqht; (case zqx => first | with_reducible exact ofS_slash | with_reducible exact ofS_A | with_reducible exact ofS_nil | with_reducible exact ofS_dot | with_reducible exact ofS_hex | with_reducible exact ofS_b64 | with_reducible exact mkS_rfl _); (case zql => decide); (case zqa => exact fmod_lo (by decide)); (case zqb => exact fmod_hi (by decide) (by decide)); (case zqhs => with_unfolding_all rfl); (case zqht => intro _; with_unfolding_all rfl); intro t9 k9; (try dsimp only))))
  k_with "binaryOp FloorDiv int int" => ((k_here; (with_reducible show wpAny _ _ (binaryOp _ _ (Value.int (_ ^ _) _)) _ _ _); refine div_pow (by decide) (by decide) (by omega) ?_))
  k_with "compareOp NotEq str str" => ((k_here; k_dflt (refine' ne_mk ?zqx ?zqy ?_; (case zqx => first | with_reducible exact ofS_slash | with_reducible exact ofS_A | with_reducible exact ofS_nil | with_reducible exact ofS_dot | with_reducible exact ofS_hex | with_reducible exact ofS_b64 | with_reducible exact mkS_rfl _); (case zqy => first | with_reducible exact ofS_slash | with_reducible exact ofS_A | with_reducible exact ofS_nil | with_reducible exact ofS_dot | with_reducible exact ofS_hex | with_reducible exact ofS_b64 | with_reducible exact mkS_rfl _); k_whole)))
  k_with "binaryOp Pow int int" => ((k_here; refine pow_int_small (by omega) (by omega) (by decide) ?_))
  k_with "binaryOp Mult ref int" => ((k_here; k_dflt (refine' mul_two ?zqF ?zqN ?zqm ?_; (case zqF => k_asm); (case zqN => k_asm); (case zqm => k_mem); k_whole; intro h9 D9 F9 N9; (try dsimp only); (try k_sweep))))
  k_with "compareOp Eq ref ref" => ((k_here; k_dflt (refine' eq_strs ?zqa ?zqb ?zqi ?zqj ?zqu ?zqe ?zqo ?_; (case zqa => exact News.isList (by k_asm) (by k_mem)); (case zqb => exact News.isList (by k_asm) (by k_mem)); (case zqi => (repeat constructor)); (case zqj => (repeat constructor)); (case zqu => ktr_units); (case zqe => first | rfl | (simp only [ofS_slash, ofS_nil]; done) | (simp only [ofS_slash, ofS_nil]; rfl) | (rw [ofS_slash, ofS_nil]; rfl)); (case zqo => first | exact all2 (pathL_ok _ _) (pathL_ok _ _) | exact all3 (pathL_ok _ _) (pathL_ok _ _) (base_ok _ _)); k_whole)))
  k_with "compareOp NotEq ref ref" => ((k_here; k_dflt (refine' ne_strs ?zqa ?zqb ?zqi ?zqj ?zqu ?zqe ?zqo ?_; (case zqa => exact News.isList (by k_asm) (by k_mem)); (case zqb => exact News.isList (by k_asm) (by k_mem)); (case zqi => (repeat constructor)); (case zqj => (repeat constructor)); (case zqu => ktr_units); (case zqe => first | rfl | (simp only [ofS_slash, ofS_nil]; done) | (simp only [ofS_slash, ofS_nil]; rfl) | (rw [ofS_slash, ofS_nil]; rfl)); (case zqo => first | exact all2 (pathL_ok _ _) (pathL_ok _ _) | exact all3 (pathL_ok _ _) (pathL_ok _ _) (base_ok _ _)); k_whole)))
  k_with "binaryOp FloorDiv int int" => ((k_here; k_dflt (refine div_powN (b := 4096) (by decide) (by decide) (by assumption) (by omega) ?_)))
  unfold Ct; intros; rename_i hpre hd hu hret
  refine wpAny_call ?_
  obtain ⟨N, rfl⟩ : ∃ N : Nat, n = (N : Int) := ⟨n.toNat, by omega⟩
  have hN : N < 2 ^ 48 := by omega
  k_dflt cell_enter
  repeat' (first | (k_unfold; (try dsimp only)) | ((fail_if_success (with_reducible show wpAny _ _ (pyIter _) _ _ _)); (fail_if_success (with_reducible show UnrPost _ _ _ _ _ _ _ _ _)); (fail_if_success (with_reducible show UnrEnd _ _ _ _ _ _ _)); walk1) | ((fail_if_success (with_reducible show wpAny _ _ (pyIter _) _ _ _)); (fail_if_success (with_reducible show UnrPost _ _ _ _ _ _ _ _ _)); (fail_if_success (with_reducible show UnrEnd _ _ _ _ _ _ _)); dsimp only; walk1) | (leave1; walk_say "STEP leave1"; try dsimp only) | fail "no step")
  rename IsRange _ _ _ _ _ _ _ _ => hr9
  rename Fr _ _ _ _ => F9
  rename News _ _ _ _ => N9
  k_dflt (refine loop_climb rfl hr9 F9 N9 (by rfl) ?_ ?_)
  · intro I i t t1 z1 z2 oI h tk hi off F9' N9'
    clear F9 N9
    have hki : (0 + (i : Int) * 1).toNat = i := by omega
    have hq1 : N / 4096 ^ i < 2 ^ 48 := Nat.lt_of_le_of_lt (Nat.div_le_self _ _) hN
    have hq2 : N / 4096 ^ i < 4096 ^ (4 - i) := by
      rw [Nat.div_lt_iff_lt_mul (Nat.pow_pos (by decide)), ← Nat.pow_add, show 4 - i + i = 4 by omega]
      exact hN
    have hqa : i < 4 ∧ N / 4096 ^ i < 2 ^ 48 ∧ N / 4096 ^ i < 4096 ^ (4 - i) := ⟨hi, hq1, hq2⟩
    have hqb : i ≤ 4 ∧ N / 4096 ^ i < 2 ^ 48 := ⟨by omega, hq1⟩
    have e1 : Txt.slice (mkS (pathL (N / 4096 ^ i % 4096) 1)) (some 1) none = mkS ((pathL (N / 4096 ^ i % 4096) 1).drop 1) := sliceSn _ 1
    have hbe : (mkS (if 4 - i = 0 then [] else fld (N / 4096 ^ i) 0) != Txt.slice (mkS (pathL (N / 4096 ^ i % 4096) 1)) (some 1) none) = false := by
      rw [e1, path_one, if_neg (by omega)]
      show (!(_ == _)) = false
      rw [beq_self_eq_true]; rfl
    repeat' (first | (k_unfold; (try dsimp only)) | ((fail_if_success (with_reducible show wpAny _ _ (pyIter _) _ _ _)); (fail_if_success (with_reducible show UnrPost _ _ _ _ _ _ _ _ _)); (fail_if_success (with_reducible show UnrEnd _ _ _ _ _ _ _)); walk1) | ((fail_if_success (with_reducible show wpAny _ _ (pyIter _) _ _ _)); (fail_if_success (with_reducible show UnrPost _ _ _ _ _ _ _ _ _)); (fail_if_success (with_reducible show UnrEnd _ _ _ _ _ _ _)); dsimp only; walk1) | (leave1; walk_say "STEP leave1"; try dsimp only) | fail "no step")
    all_goals (try (rename (_ != _) = true => hbad; rw [hbe] at hbad; cases hbad; done))
    refine climb_end (by k_asm) (by k_asm) (by intro p9 hp9; (repeat (first | exact hp9 | refine List.mem_cons_of_mem _ ?_))) off (by rfl) (by rw [Nat.pow_succ, ← Nat.div_div_eq_div_mul]; rfl) (by rfl) (by rfl) ?_
    intro y h1 h2 h3
    simp only [if_neg h1, if_neg h2, if_neg h3]
  · intro z1 z2 t1 h tk F9' N9'
    clear F9 N9
    repeat' (first | (k_unfold; (try dsimp only)) | ((fail_if_success (with_reducible show wpAny _ _ (pyIter _) _ _ _)); (fail_if_success (with_reducible show UnrPost _ _ _ _ _ _ _ _ _)); (fail_if_success (with_reducible show UnrEnd _ _ _ _ _ _ _)); walk1) | ((fail_if_success (with_reducible show wpAny _ _ (pyIter _) _ _ _)); (fail_if_success (with_reducible show UnrPost _ _ _ _ _ _ _ _ _)); (fail_if_success (with_reducible show UnrEnd _ _ _ _ _ _ _)); dsimp only; walk1) | (leave1; walk_say "STEP leave1"; try dsimp only) | fail "no step")
    rw [decide_eq_true rfl]
    exact hret 0 _ _ (by k_asm) (by first | k_asm | (refine' cb_drop ?cbN ?cbS; (case cbN => assumption); (case cbS => (intro p9 hp9; (repeat (first | exact hp9 | refine List.mem_cons_of_mem _ ?_))))))
end Mine
namespace Mine
theorem gives_fs {prog : Program} {w : World} {mean : ExcName → Option Value} {mg mb : Str → Option Value}
    {dp un : Nat} {gd : Option (List Code)} {cn : Str} {cs : Scope} {a : Addr} {ccd : Value} {cl : List (Str × Addr)} {outer : List Env} {A₀ : Around} {base h₀ : Heap} {L : Addr} {m : Str → Option Value} {x : Str} {t : Tok}
    (B : Below A₀ base outer h₀) (X : (Mine.hd.heap_39 w.params).In h₀) (T : Top Mine.viewK LV mean mg mb h₀) (hk : cs.kind = .function) (hd : dp + 1 < recursionLimit) (hu : un + 20 < cLine) :
    Gives prog w (ktrTop dp un gd cn cs L a ccd cl outer) h₀ L m (.ref 131) (.str x t) := by
  intro un' s news Q E hle F N h
  exact Ct.use (un := un') (c_fspath x t) B F X N T hk trivial hd (by have : un' ≤ un + 10 := hle; omega) fun t' h' tk' F' N' => h h' tk' F' N'
set_option maxHeartbeats 8000000 in
theorem c_common (A B : Nat) (l : Addr) (t1 t2 : Tok) (k : Nat) : CtN 171 9 (A ≤ B ∧ B < 2 ^ 48) (fun nw => (l, (Obj.mk (.type "list") none (.seq #[.str (mkS (pathL B 4)) t1, .str (mkS (pathL A 4)) t2] k) #[])) ∈ nw) [.ref l] (fun t => .str (mkS (pathL (A / 4096 ^ (4 - sharedN A B)) (sharedN A B))) t) := by
  have : Fill PySem.Challenge.rw_rt0031_01 Mine.hd.heap_39 := by k_fill; trivial
  w_top off
  k_with_none
  k_with "call ref" => ((k_here; k_dflt (refine' Ct.use (c_fspath _ _) ?zqk1 ?zqk2 ?zqk3 ?zqk4 ?zqk5 ?zqkK ?zqkp ?zqkd ?zqku ?_; (case zqk1 => k_asm); (case zqk2 => k_asm); (case zqk3 => k_asm); (case zqk4 => k_asm); (case zqk5 => k_asm); (case zqkK => first | exact rfl | assumption); (case zqkp => first | exact True.intro | assumption | omega | (refine ⟨?_, ?_⟩ <;> omega) | fail "ct: pre"); (case zqkd => ktr_room); (case zqku => ktr_units); k_whole; intro t9 h9 tk9 F9 N9; (try dsimp only); (try k_fold))))
  k_with "call builtin:issubclass" => ((k_here; k_dflt (refine' issub_pair ?zqk1 ?_; (case zqk1 => exact kto_N (by k_asm) (by k_mem)); k_whole; intro _; (try dsimp only))))
  k_with "call type:type" => ((k_here; (with_reducible show wpAny _ _ (call _ [Value.bytes _ _]) _ _ _); k_dflt (refine call_type_of (Tx := "bytes") rfl (by decide +kernel) ?_)))
  k_with "eval ListComp" => ((k_here; (with_reducible show wpAny _ _ (eval (Expr.ListComp _ [Comprehension.mk _ _ [] _] _ _) _) _ _ _); k_dflt (refine lc_gen (F₀ := by k_asm) (by with_unfolding_all rfl) (by decide) (by rfl) (by decide) (by rfl) ?_)))
  k_with "eval ListComp" => ((k_here; (with_reducible show wpAny _ _ (eval (Expr.ListComp _ [Comprehension.mk _ _ [_] _] _ _) _) _ _ _); k_dflt (refine lc_genT (F₀ := by k_asm) (by with_unfolding_all rfl) (by decide) (by rfl) (by decide) (by rfl) ?_)))
  k_with "exec Assign cons ListComp" => ((k_here; k_dflt (refine lc_genA (F₀ := by k_asm) (by rfl) (by with_unfolding_all rfl) (by with_unfolding_all rfl) (by decide) (by rfl) (by decide) (by rfl) (by rfl) (by rfl) ?_)))
  k_with "CompEnd" => ((refine compEnd_at (by k_asm) (by k_asm) (by intro p9 hp9; (repeat (first | exact hp9 | refine List.mem_cons_of_mem _ ?_))) (by first | assumption | (simp only [LCg.Off3, and_true]; assumption) | lcg_off) (by first | exact trivial | assumption | exact Or.inr ⟨_, by k_mem, rfl, _, rfl⟩) ?_))
  k_with "call builtin:chr" => ((k_here; refine chr_byte ?_; intro t9; (try dsimp only)))
  k_with "call builtin:str.join" => ((k_here; (with_reducible show wpAny _ _ (call (Value.builtin "str.join") [Value.str _ _, Value.ref _]) _ _ _); k_dflt (refine' join_led ?zqN ?zqm ?zqi ?zqs ?zqw ?_; (case zqN => k_asm); (case zqm => k_mem); (case zqi => assumption); (case zqs => decide); (case zqw => first | assumption | omega); k_whole; intro t9 k9; (try dsimp only))))
  k_with "exec For Name Name cons nil" => ((k_here; (rename Fr _ _ _ _ => lF'); (with_unfolding_all refine' For_invVF lF' ?zqk1 ?zqk2 ?_; (case zqk1 => exact rfl); (case zqk2 => exact rfl); k_whole)))
  k_with "call builtin:str.join" => ((k_here; (with_reducible show wpAny _ _ (call (Value.builtin "str.join") [Value.str _ _, Value.ref _]) _ _ _); k_dflt (refine' join_chars_led ?zqN ?zqm ?zqi ?zqw ?zqx ?_; (case zqN => k_asm); (case zqm => k_mem); (case zqi => assumption); (case zqw => first | assumption | omega | ((try simp only [List.length_append, List.length_replicate, List.length_cons, List.length_nil]); omega)); (case zqx => first | with_reducible exact ofS_slash | with_reducible exact ofS_A | with_reducible exact ofS_nil | with_reducible exact ofS_dot | with_reducible exact ofS_hex | with_reducible exact ofS_b64 | with_reducible exact mkS_rfl _); k_whole; intro t9 k9; (try dsimp only))))
  k_with "call builtin:len" => ((k_here; (with_reducible show wpAny _ _ (call _ [Value.str _ _]) _ _ _); k_dflt (refine' len_mk ?zqx ?zql ?_; (case zqx => first | with_reducible exact ofS_slash | with_reducible exact ofS_A | with_reducible exact ofS_nil | with_reducible exact ofS_dot | with_reducible exact ofS_hex | with_reducible exact ofS_b64 | with_reducible exact mkS_rfl _); (case zql => first | assumption | omega | ((try simp only [List.length_append, List.length_replicate, List.length_cons, List.length_nil]); omega)); k_whole; intro t9 k9; (try dsimp only))))
  k_with "truthy str" => ((k_here; k_dflt (refine' truthy_mk ?zqx ?zql ?_; (case zqx => first | with_reducible exact ofS_slash | with_reducible exact ofS_A | with_reducible exact ofS_nil | with_reducible exact ofS_dot | with_reducible exact ofS_hex | with_reducible exact ofS_b64 | with_reducible exact mkS_rfl _); (case zql => first | assumption | omega | ((try simp only [List.length_append, List.length_replicate, List.length_cons, List.length_nil]); omega)); k_whole; intro k9; (try dsimp only))))
  k_with "binaryOp Add str str" => ((k_here; k_dflt (refine' add_mk ?zqx ?zqy ?zql ?_; (case zqx => first | with_reducible exact ofS_slash | with_reducible exact ofS_A | with_reducible exact ofS_nil | with_reducible exact ofS_dot | with_reducible exact ofS_hex | with_reducible exact ofS_b64 | with_reducible exact mkS_rfl _); (case zqy => first | with_reducible exact ofS_slash | with_reducible exact ofS_A | with_reducible exact ofS_nil | with_reducible exact ofS_dot | with_reducible exact ofS_hex | with_reducible exact ofS_b64 | with_reducible exact mkS_rfl _); (case zql => first | assumption | omega | ((try simp only [List.length_append, List.length_replicate, List.length_cons, List.length_nil]); omega)); k_whole; intro t9 k9; (try dsimp only))))
  k_with "inplaceOp Add str str" => ((k_here; k_dflt (refine' iadd_mk ?zqx ?zqy ?zql ?_; (case zqx => first | with_reducible exact ofS_slash | with_reducible exact ofS_A | with_reducible exact ofS_nil | with_reducible exact ofS_dot | with_reducible exact ofS_hex | with_reducible exact ofS_b64 | with_reducible exact mkS_rfl _); (case zqy => first | with_reducible exact ofS_slash | with_reducible exact ofS_A | with_reducible exact ofS_nil | with_reducible exact ofS_dot | with_reducible exact ofS_hex | with_reducible exact ofS_b64 | with_reducible exact mkS_rfl _); (case zql => first | assumption | omega | ((try simp only [List.length_append, List.length_replicate, List.length_cons, List.length_nil]); omega)); k_whole; intro t9 k9; (try dsimp only))))
  k_with "binaryOp Mult str int" => ((k_here; k_dflt (refine' mul_mk ?zqx ?zqa ?zqb ?_; (case zqx => first | with_reducible exact ofS_slash | with_reducible exact ofS_A | with_reducible exact ofS_nil | with_reducible exact ofS_dot | with_reducible exact ofS_hex | with_reducible exact ofS_b64 | with_reducible exact mkS_rfl _); (case zqa => first | assumption | omega | ((try simp only [List.length_append, List.length_replicate, List.length_cons, List.length_nil]); omega)); (case zqb => first | assumption | omega | ((try simp only [List.length_append, List.length_replicate, List.length_cons, List.length_nil]); omega)); k_whole; intro t9 k9; (try dsimp only))))
  k_with "compareOp Eq str str" => ((k_here; k_dflt (refine' eq_mk ?zqx ?zqy ?_; (case zqx => first | with_reducible exact ofS_slash | with_reducible exact ofS_A | with_reducible exact ofS_nil | with_reducible exact ofS_dot | with_reducible exact ofS_hex | with_reducible exact ofS_b64 | with_reducible exact mkS_rfl _); (case zqy => first | with_reducible exact ofS_slash | with_reducible exact ofS_A | with_reducible exact ofS_nil | with_reducible exact ofS_dot | with_reducible exact ofS_hex | with_reducible exact ofS_b64 | with_reducible exact mkS_rfl _); k_whole)))
  k_with "subscriptTail Name Slice str ref" => ((k_here; (with_reducible rename Fr _ _ _ _ => F'); (with_reducible rename News _ _ _ _ => N'); first
    | ((refine slice_ss (s := ⟨_, _, _, _, _⟩) F' N' (by first | with_reducible exact ofS_slash | with_reducible exact ofS_A | with_reducible exact ofS_nil | with_reducible exact ofS_dot | with_reducible exact ofS_hex | with_reducible exact ofS_b64 | with_reducible exact mkS_rfl _) (by first | assumption | omega | ((try simp only [List.length_append, List.length_replicate, List.length_cons, List.length_nil]); omega)) (by first | assumption | omega | ((try simp only [List.length_append, List.length_replicate, List.length_cons, List.length_nil]); omega)) (by first | assumption | omega | ((try simp only [List.length_append, List.length_replicate, List.length_cons, List.length_nil]); omega)) ?_); intro _ _ _ _ _; (try dsimp only))
    | ((refine slice_ns (s := ⟨_, _, _, _, _⟩) F' N' (by first | with_reducible exact ofS_slash | with_reducible exact ofS_A | with_reducible exact ofS_nil | with_reducible exact ofS_dot | with_reducible exact ofS_hex | with_reducible exact ofS_b64 | with_reducible exact mkS_rfl _) (by first | assumption | omega | ((try simp only [List.length_append, List.length_replicate, List.length_cons, List.length_nil]); omega)) (by first | assumption | omega | ((try simp only [List.length_append, List.length_replicate, List.length_cons, List.length_nil]); omega)) ?_); intro _ _ _ _ _; (try dsimp only))
    | ((refine slice_sn (s := ⟨_, _, _, _, _⟩) F' N' (by first | with_reducible exact ofS_slash | with_reducible exact ofS_A | with_reducible exact ofS_nil | with_reducible exact ofS_dot | with_reducible exact ofS_hex | with_reducible exact ofS_b64 | with_reducible exact mkS_rfl _) (by first | assumption | omega | ((try simp only [List.length_append, List.length_replicate, List.length_cons, List.length_nil]); omega)) (by first | assumption | omega | ((try simp only [List.length_append, List.length_replicate, List.length_cons, List.length_nil]); omega)) ?_); intro _ _ _ _ _; (try dsimp only))))
  k_with "call ref" => ((k_here; (with_reducible show wpAny _ _ (call _ (_ :: (_ ++ []))) _ _ _); rw [List.append_nil]))
  k_with "StarOf ref" => ((k_here; k_dflt (refine' star_seq ?zqk1 ?zqk2 ?zqm ?zqc ?zqd ?zqT ?zqe ?zqz ?_; (case zqk1 => k_asm); (case zqk2 => k_asm); (case zqm => k_mem); (case zqc => exact rfl); (case zqd => exact rfl); (case zqT => first | exact .inl rfl | exact .inr rfl); (case zqe => exact rfl); (case zqz => assumption); k_whole); intro h' F' N'; (try k_sweep); try dsimp only [List.nil_append, List.cons_append]))
  k_with "subscriptTail" => ((k_here; (with_reducible show wpAny _ _ (subscriptTail _ _ (Value.str _ _) (Value.int _ _)) _ _ _); k_dflt (refine' tail_of_ItemOn (item_mk ?zqx ?zql ?zqa ?zqb ?_) ?zqhs ?zqht; (case zqx => first | with_reducible exact ofS_slash | with_reducible exact ofS_A | with_reducible exact ofS_nil | with_reducible exact ofS_dot | with_reducible exact ofS_hex | with_reducible exact ofS_b64 | with_reducible exact mkS_rfl _); (case zql => decide); (case zqa => exact fmod_lo (by decide)); (case zqb => exact fmod_hi (by decide) (by decide)); (case zqhs => with_unfolding_all rfl); (case zqht => intro _; with_unfolding_all rfl); intro t9 k9; (try dsimp only))))
  k_with "binaryOp FloorDiv int int" => ((k_here; (with_reducible show wpAny _ _ (binaryOp _ _ (Value.int (_ ^ _) _)) _ _ _); refine div_pow (by decide) (by decide) (by omega) ?_))
  k_with "compareOp NotEq str str" => ((k_here; k_dflt (refine' ne_mk ?zqx ?zqy ?_; (case zqx => first | with_reducible exact ofS_slash | with_reducible exact ofS_A | with_reducible exact ofS_nil | with_reducible exact ofS_dot | with_reducible exact ofS_hex | with_reducible exact ofS_b64 | with_reducible exact mkS_rfl _); (case zqy => first | with_reducible exact ofS_slash | with_reducible exact ofS_A | with_reducible exact ofS_nil | with_reducible exact ofS_dot | with_reducible exact ofS_hex | with_reducible exact ofS_b64 | with_reducible exact mkS_rfl _); k_whole)))
  k_with "binaryOp Pow int int" => ((k_here; refine pow_int_small (by omega) (by omega) (by decide) ?_))
  k_with "call builtin:str.split" => ((k_here; k_dflt (refine' split_mk ?zqF ?zqN ?zqy ?_; (case zqF => k_asm); (case zqN => k_asm); (case zqy => with_reducible exact ofS_slash); k_whole; intro h9 k9 D9 t90 t91 t92 t93 t94 F9 N9 l9; (have l99 := l9); (try k_lt l9); (try k_sweep); (try dsimp only))))
  k_with "assign Tuple" => ((k_here; (with_reducible show wpAny _ _ (assign (Expr.Tuple [_] _ _) _ (Value.ref _)) _ _ _); k_dflt (refine' assign_set ?zqH ?zqF ?zqN ?zqm ?zqs ?_; (case zqH => rfl); (case zqF => k_asm); (case zqN => k_asm); (case zqm => (repeat (first | assumption | exact List.mem_cons_self | refine List.mem_cons_of_mem _ ?_))); (case zqs => rfl); k_whole; intro h9 F9 N9; (try k_sweep); (try dsimp only))))
  k_with "call builtin:max" => ((k_here; k_dflt (refine' max_snd ?zqH ?zqU ?zqF ?zqN ?zqD ?zqb ?zqa ?zqx ?_; (case zqH => rfl); (case zqU => ktr_units); (case zqF => k_asm); (case zqN => k_asm); (case zqD => k_mem); (case zqb => k_mem); (case zqa => k_mem); (case zqx => assumption); k_whole; intro h9 tk9 F9 N9; (try k_sweep); (try dsimp only))))
  k_with "subscriptTail Name Name ref int" => ((k_here; (with_reducible show wpAny _ _ (subscriptTail _ _ (Value.ref _) (Value.int _ _)) _ _ _); k_dflt (refine' item_lst ?zqN ?zqm ?zqo ?zqa ?zqb ?zqx ?_ ?zqhs ?zqhg; (case zqN => k_asm); (case zqm => k_mem); (case zqo => rfl); (case zqa => decide); (case zqb => decide); (case zqx => rfl); (case zqhs => with_unfolding_all rfl); (case zqhg => intro _; with_unfolding_all rfl); k_whole)))
  k_with "exec Try" => ((k_here; (with_reducible show wpAny _ _ (exec (Stmt.Try _ (_ :: _) _ [] _) _) _ _ _); refine wpAny_Try_except ?_))
  k_with "call type:map" => ((k_here; k_dflt (refine' call_map ?zqF ?zqN ?zqm ?_; (case zqF => k_asm); (case zqN => k_asm); (case zqm => (repeat (first | assumption | refine List.mem_cons_of_mem _ ?_))); k_whole; intro h9 z9 T9 i9 F9 N9 l9 l8 l7; (have l99 := l9); (try k_lt l9); (try k_lt2 l8); (try k_lt2 l7); (try k_sweep))))
  k_with "call type:tuple" => ((k_here; k_dflt (refine' tuple_map ?zqH ?zqF ?zqN ?zqm ?zqo ?zqa ?zqb ?zqg ?zqgg ?_; (case zqH => rfl); (case zqF => k_asm); (case zqN => k_asm); (case zqm => (repeat (first | assumption | refine List.mem_cons_of_mem _ ?_))); (case zqo => assumption); (case zqa => assumption); (case zqb => assumption); (case zqg => exact gives_fs (by k_asm) (by k_asm) (by k_asm) (by first | exact rfl | assumption) (by ktr_room) (by ktr_units)); (case zqgg => exact gives_fs (by k_asm) (by k_asm) (by k_asm) (by first | exact rfl | assumption) (by ktr_room) (by ktr_units)); k_whole; intro h9 tk9 T9 F9 N9 l9; (have l99 := l9); (try k_lt l9); (try k_sweep))))
  unfold CtN; intros; rename_i hpre hneed hd hu hret
  refine wpAny_call ?_
  try dsimp only at hneed
  k_dflt cell_enter
  repeat' (first | (k_unfold; (try dsimp only)) | ((fail_if_success (with_reducible show wpAny _ _ (pyIter _) _ _ _)); (fail_if_success (with_reducible show LCg.CompEnd _ _ _ _ _ _ _ _ _ _ _ _ _ _)); (fail_if_success (with_reducible show wpAny _ _ (eval (Expr.SetComp _ _ _ _) _) _ _ _)); (fail_if_success (with_reducible show Exists _)); (fail_if_success (with_reducible show wpAny _ _ (call (Value.builtin "min") _) _ _ _)); (fail_if_success (with_reducible show wpAny _ _ (call (Value.builtin "str.join") _) _ _ _)); (fail_if_success (with_reducible show wpAny _ _ (exec (Stmt.For (Expr.Tuple _ _ _) _ _ _ _) _) _ _ _)); (fail_if_success (with_reducible show wpAny _ _ (call (Value.type "enumerate") _) _ _ _)); (fail_if_success (with_reducible show UnrPostW _ _ _ _ _ _ _ _)); (fail_if_success (with_reducible show UnrPost _ _ _ _ _ _ _ _ _)); (fail_if_success (with_reducible show UnrEnd _ _ _ _ _ _ _)); walk1) | ((fail_if_success (with_reducible show wpAny _ _ (pyIter _) _ _ _)); (fail_if_success (with_reducible show LCg.CompEnd _ _ _ _ _ _ _ _ _ _ _ _ _ _)); (fail_if_success (with_reducible show wpAny _ _ (eval (Expr.SetComp _ _ _ _) _) _ _ _)); (fail_if_success (with_reducible show Exists _)); (fail_if_success (with_reducible show wpAny _ _ (call (Value.builtin "min") _) _ _ _)); (fail_if_success (with_reducible show wpAny _ _ (call (Value.builtin "str.join") _) _ _ _)); (fail_if_success (with_reducible show wpAny _ _ (exec (Stmt.For (Expr.Tuple _ _ _) _ _ _ _) _) _ _ _)); (fail_if_success (with_reducible show wpAny _ _ (call (Value.type "enumerate") _) _ _ _)); (fail_if_success (with_reducible show UnrPostW _ _ _ _ _ _ _ _)); (fail_if_success (with_reducible show UnrPost _ _ _ _ _ _ _ _ _)); (fail_if_success (with_reducible show UnrEnd _ _ _ _ _ _ _)); dsimp only; walk1) | (leave1; walk_say "STEP leave1"; try dsimp only) | fail "no step")
  refine' src_tuple ?zh ?zc ?zd ?zm ?zz ?zF ?zN ?_
  (case zF => k_asm)
  (case zN => k_asm)
  (case zh => rfl)
  (case zm => k_mem)
  (case zc => rfl)
  (case zd => rfl)
  (case zz => exact Nat.le_of_ble_eq_true rfl)
  intro s₂ hs; obtain ⟨g9, rfl⟩ := hs
  refine LCg.CompRest.succ ?_
  intro v I oI C oC D m₂ h tk E' hv hC hx F N off ne
  have hv2 : v = .str (mkS (pathL B 4)) t1 := (Option.some.inj hv).symm
  subst hv2
  have off1 := off
  (try simp only [LCg.Off3, and_true] at off)
  repeat' (first | (k_unfold; (try dsimp only)) | ((fail_if_success (with_reducible show wpAny _ _ (pyIter _) _ _ _)); (fail_if_success (with_reducible show LCg.CompEnd _ _ _ _ _ _ _ _ _ _ _ _ _ _)); (fail_if_success (with_reducible show wpAny _ _ (eval (Expr.SetComp _ _ _ _) _) _ _ _)); (fail_if_success (with_reducible show Exists _)); (fail_if_success (with_reducible show wpAny _ _ (call (Value.builtin "min") _) _ _ _)); (fail_if_success (with_reducible show wpAny _ _ (call (Value.builtin "str.join") _) _ _ _)); (fail_if_success (with_reducible show wpAny _ _ (exec (Stmt.For (Expr.Tuple _ _ _) _ _ _ _) _) _ _ _)); (fail_if_success (with_reducible show wpAny _ _ (call (Value.type "enumerate") _) _ _ _)); (fail_if_success (with_reducible show UnrPostW _ _ _ _ _ _ _ _)); (fail_if_success (with_reducible show UnrPost _ _ _ _ _ _ _ _ _)); (fail_if_success (with_reducible show UnrEnd _ _ _ _ _ _ _)); walk1) | ((fail_if_success (with_reducible show wpAny _ _ (pyIter _) _ _ _)); (fail_if_success (with_reducible show LCg.CompEnd _ _ _ _ _ _ _ _ _ _ _ _ _ _)); (fail_if_success (with_reducible show wpAny _ _ (eval (Expr.SetComp _ _ _ _) _) _ _ _)); (fail_if_success (with_reducible show Exists _)); (fail_if_success (with_reducible show wpAny _ _ (call (Value.builtin "min") _) _ _ _)); (fail_if_success (with_reducible show wpAny _ _ (call (Value.builtin "str.join") _) _ _ _)); (fail_if_success (with_reducible show wpAny _ _ (exec (Stmt.For (Expr.Tuple _ _ _) _ _ _ _) _) _ _ _)); (fail_if_success (with_reducible show wpAny _ _ (call (Value.type "enumerate") _) _ _ _)); (fail_if_success (with_reducible show UnrPostW _ _ _ _ _ _ _ _)); (fail_if_success (with_reducible show UnrPost _ _ _ _ _ _ _ _ _)); (fail_if_success (with_reducible show UnrEnd _ _ _ _ _ _ _)); dsimp only; walk1) | (leave1; walk_say "STEP leave1"; try dsimp only) | fail "no step")
  refine compEnd_grow (by k_asm) (by k_asm) (by assumption) off1 (by k_mem) ?_
  refine LCg.CompRest.succ ?_
  intro v I oI C oC D m₂ h tk E' hv hC hx F N off ne
  have hv2 : v = .str (mkS (pathL A 4)) t2 := (Option.some.inj hv).symm
  subst hv2
  have off1 := off
  (try simp only [LCg.Off3, and_true] at off)
  repeat' (first | (k_unfold; (try dsimp only)) | ((fail_if_success (with_reducible show wpAny _ _ (pyIter _) _ _ _)); (fail_if_success (with_reducible show LCg.CompEnd _ _ _ _ _ _ _ _ _ _ _ _ _ _)); (fail_if_success (with_reducible show wpAny _ _ (eval (Expr.SetComp _ _ _ _) _) _ _ _)); (fail_if_success (with_reducible show Exists _)); (fail_if_success (with_reducible show wpAny _ _ (call (Value.builtin "min") _) _ _ _)); (fail_if_success (with_reducible show wpAny _ _ (call (Value.builtin "str.join") _) _ _ _)); (fail_if_success (with_reducible show wpAny _ _ (exec (Stmt.For (Expr.Tuple _ _ _) _ _ _ _) _) _ _ _)); (fail_if_success (with_reducible show wpAny _ _ (call (Value.type "enumerate") _) _ _ _)); (fail_if_success (with_reducible show UnrPostW _ _ _ _ _ _ _ _)); (fail_if_success (with_reducible show UnrPost _ _ _ _ _ _ _ _ _)); (fail_if_success (with_reducible show UnrEnd _ _ _ _ _ _ _)); walk1) | ((fail_if_success (with_reducible show wpAny _ _ (pyIter _) _ _ _)); (fail_if_success (with_reducible show LCg.CompEnd _ _ _ _ _ _ _ _ _ _ _ _ _ _)); (fail_if_success (with_reducible show wpAny _ _ (eval (Expr.SetComp _ _ _ _) _) _ _ _)); (fail_if_success (with_reducible show Exists _)); (fail_if_success (with_reducible show wpAny _ _ (call (Value.builtin "min") _) _ _ _)); (fail_if_success (with_reducible show wpAny _ _ (call (Value.builtin "str.join") _) _ _ _)); (fail_if_success (with_reducible show wpAny _ _ (exec (Stmt.For (Expr.Tuple _ _ _) _ _ _ _) _) _ _ _)); (fail_if_success (with_reducible show wpAny _ _ (call (Value.type "enumerate") _) _ _ _)); (fail_if_success (with_reducible show UnrPostW _ _ _ _ _ _ _ _)); (fail_if_success (with_reducible show UnrPost _ _ _ _ _ _ _ _ _)); (fail_if_success (with_reducible show UnrEnd _ _ _ _ _ _ _)); dsimp only; walk1) | (leave1; walk_say "STEP leave1"; try dsimp only) | fail "no step")
  refine compEnd_grow (by k_asm) (by k_asm) (by assumption) off1 (by k_mem) ?_
  refine LCg.CompRest.zero ?_
  repeat' (first | (k_unfold; (try dsimp only)) | ((fail_if_success (with_reducible show wpAny _ _ (pyIter _) _ _ _)); (fail_if_success (with_reducible show LCg.CompEnd _ _ _ _ _ _ _ _ _ _ _ _ _ _)); (fail_if_success (with_reducible show wpAny _ _ (eval (Expr.SetComp _ _ _ _) _) _ _ _)); (fail_if_success (with_reducible show Exists _)); (fail_if_success (with_reducible show wpAny _ _ (call (Value.builtin "min") _) _ _ _)); (fail_if_success (with_reducible show wpAny _ _ (call (Value.builtin "str.join") _) _ _ _)); (fail_if_success (with_reducible show wpAny _ _ (exec (Stmt.For (Expr.Tuple _ _ _) _ _ _ _) _) _ _ _)); (fail_if_success (with_reducible show wpAny _ _ (call (Value.type "enumerate") _) _ _ _)); (fail_if_success (with_reducible show UnrPostW _ _ _ _ _ _ _ _)); (fail_if_success (with_reducible show UnrPost _ _ _ _ _ _ _ _ _)); (fail_if_success (with_reducible show UnrEnd _ _ _ _ _ _ _)); walk1) | ((fail_if_success (with_reducible show wpAny _ _ (pyIter _) _ _ _)); (fail_if_success (with_reducible show LCg.CompEnd _ _ _ _ _ _ _ _ _ _ _ _ _ _)); (fail_if_success (with_reducible show wpAny _ _ (eval (Expr.SetComp _ _ _ _) _) _ _ _)); (fail_if_success (with_reducible show Exists _)); (fail_if_success (with_reducible show wpAny _ _ (call (Value.builtin "min") _) _ _ _)); (fail_if_success (with_reducible show wpAny _ _ (call (Value.builtin "str.join") _) _ _ _)); (fail_if_success (with_reducible show wpAny _ _ (exec (Stmt.For (Expr.Tuple _ _ _) _ _ _ _) _) _ _ _)); (fail_if_success (with_reducible show wpAny _ _ (call (Value.type "enumerate") _) _ _ _)); (fail_if_success (with_reducible show UnrPostW _ _ _ _ _ _ _ _)); (fail_if_success (with_reducible show UnrPost _ _ _ _ _ _ _ _ _)); (fail_if_success (with_reducible show UnrEnd _ _ _ _ _ _ _)); dsimp only; walk1) | (leave1; walk_say "STEP leave1"; try dsimp only) | fail "no step")
  k_dflt (refine' sc_trueF (v1 := .str (mkS (pathL B 4)) t1) (v2 := .str (mkS (pathL A 4)) t2) ?F ?H ?c ?ce ?k ?n ?x ?_; (case F => k_asm); (case H => rfl); (case c => with_unfolding_all rfl); (case ce => decide); (case k => rfl); (case n => decide); (case x => rfl); k_whole)
  repeat' (first | (k_unfold; (try dsimp only)) | ((fail_if_success (with_reducible show wpAny _ _ (pyIter _) _ _ _)); (fail_if_success (with_reducible show LCg.CompEnd _ _ _ _ _ _ _ _ _ _ _ _ _ _)); (fail_if_success (with_reducible show wpAny _ _ (eval (Expr.SetComp _ _ _ _) _) _ _ _)); (fail_if_success (with_reducible show Exists _)); (fail_if_success (with_reducible show wpAny _ _ (call (Value.builtin "min") _) _ _ _)); (fail_if_success (with_reducible show wpAny _ _ (call (Value.builtin "str.join") _) _ _ _)); (fail_if_success (with_reducible show wpAny _ _ (exec (Stmt.For (Expr.Tuple _ _ _) _ _ _ _) _) _ _ _)); (fail_if_success (with_reducible show wpAny _ _ (call (Value.type "enumerate") _) _ _ _)); (fail_if_success (with_reducible show UnrPostW _ _ _ _ _ _ _ _)); (fail_if_success (with_reducible show UnrPost _ _ _ _ _ _ _ _ _)); (fail_if_success (with_reducible show UnrEnd _ _ _ _ _ _ _)); walk1) | ((fail_if_success (with_reducible show wpAny _ _ (pyIter _) _ _ _)); (fail_if_success (with_reducible show LCg.CompEnd _ _ _ _ _ _ _ _ _ _ _ _ _ _)); (fail_if_success (with_reducible show wpAny _ _ (eval (Expr.SetComp _ _ _ _) _) _ _ _)); (fail_if_success (with_reducible show Exists _)); (fail_if_success (with_reducible show wpAny _ _ (call (Value.builtin "min") _) _ _ _)); (fail_if_success (with_reducible show wpAny _ _ (call (Value.builtin "str.join") _) _ _ _)); (fail_if_success (with_reducible show wpAny _ _ (exec (Stmt.For (Expr.Tuple _ _ _) _ _ _ _) _) _ _ _)); (fail_if_success (with_reducible show wpAny _ _ (call (Value.type "enumerate") _) _ _ _)); (fail_if_success (with_reducible show UnrPostW _ _ _ _ _ _ _ _)); (fail_if_success (with_reducible show UnrPost _ _ _ _ _ _ _ _ _)); (fail_if_success (with_reducible show UnrEnd _ _ _ _ _ _ _)); dsimp only; walk1) | (leave1; walk_say "STEP leave1"; try dsimp only) | fail "no step")
  refine ⟨_, _, rfl, by k_asm, by k_asm, by k_mem, ?_, ?_, ?_⟩
  · intro I oI C oC D m₂ h tk E' hC hx F N off ne
    repeat' (first | (k_unfold; (try dsimp only)) | ((fail_if_success (with_reducible show wpAny _ _ (pyIter _) _ _ _)); (fail_if_success (with_reducible show LCg.CompEnd _ _ _ _ _ _ _ _ _ _ _ _ _ _)); (fail_if_success (with_reducible show wpAny _ _ (eval (Expr.SetComp _ _ _ _) _) _ _ _)); (fail_if_success (with_reducible show Exists _)); (fail_if_success (with_reducible show wpAny _ _ (call (Value.builtin "min") _) _ _ _)); (fail_if_success (with_reducible show wpAny _ _ (call (Value.builtin "str.join") _) _ _ _)); (fail_if_success (with_reducible show wpAny _ _ (exec (Stmt.For (Expr.Tuple _ _ _) _ _ _ _) _) _ _ _)); (fail_if_success (with_reducible show wpAny _ _ (call (Value.type "enumerate") _) _ _ _)); (fail_if_success (with_reducible show UnrPostW _ _ _ _ _ _ _ _)); (fail_if_success (with_reducible show UnrPost _ _ _ _ _ _ _ _ _)); (fail_if_success (with_reducible show UnrEnd _ _ _ _ _ _ _)); walk1) | ((fail_if_success (with_reducible show wpAny _ _ (pyIter _) _ _ _)); (fail_if_success (with_reducible show LCg.CompEnd _ _ _ _ _ _ _ _ _ _ _ _ _ _)); (fail_if_success (with_reducible show wpAny _ _ (eval (Expr.SetComp _ _ _ _) _) _ _ _)); (fail_if_success (with_reducible show Exists _)); (fail_if_success (with_reducible show wpAny _ _ (call (Value.builtin "min") _) _ _ _)); (fail_if_success (with_reducible show wpAny _ _ (call (Value.builtin "str.join") _) _ _ _)); (fail_if_success (with_reducible show wpAny _ _ (exec (Stmt.For (Expr.Tuple _ _ _) _ _ _ _) _) _ _ _)); (fail_if_success (with_reducible show wpAny _ _ (call (Value.type "enumerate") _) _ _ _)); (fail_if_success (with_reducible show UnrPostW _ _ _ _ _ _ _ _)); (fail_if_success (with_reducible show UnrPost _ _ _ _ _ _ _ _ _)); (fail_if_success (with_reducible show UnrEnd _ _ _ _ _ _ _)); dsimp only; walk1) | (leave1; walk_say "STEP leave1"; try dsimp only) | fail "no step")
    exact scEnd (by k_asm) (by k_asm) off (congrArg Value.bool (sw_path _ _))
  · intro I oI C oC D m₂ h tk E' hC hx F N off ne
    repeat' (first | (k_unfold; (try dsimp only)) | ((fail_if_success (with_reducible show wpAny _ _ (pyIter _) _ _ _)); (fail_if_success (with_reducible show LCg.CompEnd _ _ _ _ _ _ _ _ _ _ _ _ _ _)); (fail_if_success (with_reducible show wpAny _ _ (eval (Expr.SetComp _ _ _ _) _) _ _ _)); (fail_if_success (with_reducible show Exists _)); (fail_if_success (with_reducible show wpAny _ _ (call (Value.builtin "min") _) _ _ _)); (fail_if_success (with_reducible show wpAny _ _ (call (Value.builtin "str.join") _) _ _ _)); (fail_if_success (with_reducible show wpAny _ _ (exec (Stmt.For (Expr.Tuple _ _ _) _ _ _ _) _) _ _ _)); (fail_if_success (with_reducible show wpAny _ _ (call (Value.type "enumerate") _) _ _ _)); (fail_if_success (with_reducible show UnrPostW _ _ _ _ _ _ _ _)); (fail_if_success (with_reducible show UnrPost _ _ _ _ _ _ _ _ _)); (fail_if_success (with_reducible show UnrEnd _ _ _ _ _ _ _)); walk1) | ((fail_if_success (with_reducible show wpAny _ _ (pyIter _) _ _ _)); (fail_if_success (with_reducible show LCg.CompEnd _ _ _ _ _ _ _ _ _ _ _ _ _ _)); (fail_if_success (with_reducible show wpAny _ _ (eval (Expr.SetComp _ _ _ _) _) _ _ _)); (fail_if_success (with_reducible show Exists _)); (fail_if_success (with_reducible show wpAny _ _ (call (Value.builtin "min") _) _ _ _)); (fail_if_success (with_reducible show wpAny _ _ (call (Value.builtin "str.join") _) _ _ _)); (fail_if_success (with_reducible show wpAny _ _ (exec (Stmt.For (Expr.Tuple _ _ _) _ _ _ _) _) _ _ _)); (fail_if_success (with_reducible show wpAny _ _ (call (Value.type "enumerate") _) _ _ _)); (fail_if_success (with_reducible show UnrPostW _ _ _ _ _ _ _ _)); (fail_if_success (with_reducible show UnrPost _ _ _ _ _ _ _ _ _)); (fail_if_success (with_reducible show UnrEnd _ _ _ _ _ _ _)); dsimp only; walk1) | (leave1; walk_say "STEP leave1"; try dsimp only) | fail "no step")
    exact scEnd (by k_asm) (by k_asm) off (congrArg Value.bool (sw_path _ _))
  intro D9 h9 tk9 F9 N9 l9
  have l99 := l9
  (try k_lt l9)
  (try k_sweep)
  repeat' (first | (k_unfold; (try dsimp only)) | ((fail_if_success (with_reducible show wpAny _ _ (pyIter _) _ _ _)); (fail_if_success (with_reducible show LCg.CompEnd _ _ _ _ _ _ _ _ _ _ _ _ _ _)); (fail_if_success (with_reducible show wpAny _ _ (eval (Expr.SetComp _ _ _ _) _) _ _ _)); (fail_if_success (with_reducible show Exists _)); (fail_if_success (with_reducible show wpAny _ _ (call (Value.builtin "min") _) _ _ _)); (fail_if_success (with_reducible show wpAny _ _ (call (Value.builtin "str.join") _) _ _ _)); (fail_if_success (with_reducible show wpAny _ _ (exec (Stmt.For (Expr.Tuple _ _ _) _ _ _ _) _) _ _ _)); (fail_if_success (with_reducible show wpAny _ _ (call (Value.type "enumerate") _) _ _ _)); (fail_if_success (with_reducible show UnrPostW _ _ _ _ _ _ _ _)); (fail_if_success (with_reducible show UnrPost _ _ _ _ _ _ _ _ _)); (fail_if_success (with_reducible show UnrEnd _ _ _ _ _ _ _)); walk1) | ((fail_if_success (with_reducible show wpAny _ _ (pyIter _) _ _ _)); (fail_if_success (with_reducible show LCg.CompEnd _ _ _ _ _ _ _ _ _ _ _ _ _ _)); (fail_if_success (with_reducible show wpAny _ _ (eval (Expr.SetComp _ _ _ _) _) _ _ _)); (fail_if_success (with_reducible show Exists _)); (fail_if_success (with_reducible show wpAny _ _ (call (Value.builtin "min") _) _ _ _)); (fail_if_success (with_reducible show wpAny _ _ (call (Value.builtin "str.join") _) _ _ _)); (fail_if_success (with_reducible show wpAny _ _ (exec (Stmt.For (Expr.Tuple _ _ _) _ _ _ _) _) _ _ _)); (fail_if_success (with_reducible show wpAny _ _ (call (Value.type "enumerate") _) _ _ _)); (fail_if_success (with_reducible show UnrPostW _ _ _ _ _ _ _ _)); (fail_if_success (with_reducible show UnrPost _ _ _ _ _ _ _ _ _)); (fail_if_success (with_reducible show UnrEnd _ _ _ _ _ _ _)); dsimp only; walk1) | (leave1; walk_say "STEP leave1"; try dsimp only) | fail "no step")
  refine' src_list ?zh ?zl ?zz ?zF ?zN ?_
  (case zF => k_asm)
  (case zN => k_asm)
  (case zh => rfl)
  (case zl => exact Or.inr ⟨_, by k_mem, rfl, _, rfl⟩)
  (case zz => exact Nat.le_of_ble_eq_true rfl)
  intro s₂ hs; obtain ⟨g9, rfl⟩ := hs
  refine LCg.CompRest.succ ?_
  intro v I oI C oC D m₂ h tk E' hv hC hx F N off ne
  simp only [List.getElem?_toArray, List.getElem?_cons_zero, List.getElem?_cons_succ, Nat.zero_add, Option.some.injEq] at hv
  subst hv
  have off1 := off
  (try simp only [LCg.Off3, and_true] at off)
  repeat' (first | (k_unfold; (try dsimp only)) | ((fail_if_success (with_reducible show wpAny _ _ (pyIter _) _ _ _)); (fail_if_success (with_reducible show LCg.CompEnd _ _ _ _ _ _ _ _ _ _ _ _ _ _)); (fail_if_success (with_reducible show wpAny _ _ (eval (Expr.SetComp _ _ _ _) _) _ _ _)); (fail_if_success (with_reducible show Exists _)); (fail_if_success (with_reducible show wpAny _ _ (call (Value.builtin "min") _) _ _ _)); (fail_if_success (with_reducible show wpAny _ _ (call (Value.builtin "str.join") _) _ _ _)); (fail_if_success (with_reducible show wpAny _ _ (exec (Stmt.For (Expr.Tuple _ _ _) _ _ _ _) _) _ _ _)); (fail_if_success (with_reducible show wpAny _ _ (call (Value.type "enumerate") _) _ _ _)); (fail_if_success (with_reducible show UnrPostW _ _ _ _ _ _ _ _)); (fail_if_success (with_reducible show UnrPost _ _ _ _ _ _ _ _ _)); (fail_if_success (with_reducible show UnrEnd _ _ _ _ _ _ _)); walk1) | ((fail_if_success (with_reducible show wpAny _ _ (pyIter _) _ _ _)); (fail_if_success (with_reducible show LCg.CompEnd _ _ _ _ _ _ _ _ _ _ _ _ _ _)); (fail_if_success (with_reducible show wpAny _ _ (eval (Expr.SetComp _ _ _ _) _) _ _ _)); (fail_if_success (with_reducible show Exists _)); (fail_if_success (with_reducible show wpAny _ _ (call (Value.builtin "min") _) _ _ _)); (fail_if_success (with_reducible show wpAny _ _ (call (Value.builtin "str.join") _) _ _ _)); (fail_if_success (with_reducible show wpAny _ _ (exec (Stmt.For (Expr.Tuple _ _ _) _ _ _ _) _) _ _ _)); (fail_if_success (with_reducible show wpAny _ _ (call (Value.type "enumerate") _) _ _ _)); (fail_if_success (with_reducible show UnrPostW _ _ _ _ _ _ _ _)); (fail_if_success (with_reducible show UnrPost _ _ _ _ _ _ _ _ _)); (fail_if_success (with_reducible show UnrEnd _ _ _ _ _ _ _)); dsimp only; walk1) | (leave1; walk_say "STEP leave1"; try dsimp only) | fail "no step")
  refine' srcT_list ?zh ?zl ?zz ?zF ?zN ?_
  (case zF => k_asm)
  (case zN => k_asm)
  (case zh => rfl)
  (case zl => exact Or.inr ⟨_, by k_mem, rfl, _, rfl⟩)
  (case zz => exact Nat.le_of_ble_eq_true rfl)
  intro s₂ hs; obtain ⟨g9, rfl⟩ := hs
  refine restT_keep _ notNil ?_ ?_
  · intro i v I oI C oC D m₂ ys h tk E' hv hC hx F N off ne
    rcases five_at hv with ⟨t7, rfl⟩ | ⟨j7, t7, rfl⟩
    · repeat' (first | (k_unfold; (try dsimp only)) | ((fail_if_success (with_reducible show wpAny _ _ (pyIter _) _ _ _)); (fail_if_success (with_reducible show LCg.CompEnd _ _ _ _ _ _ _ _ _ _ _ _ _ _)); (fail_if_success (with_reducible show wpAny _ _ (eval (Expr.SetComp _ _ _ _) _) _ _ _)); (fail_if_success (with_reducible show Exists _)); (fail_if_success (with_reducible show wpAny _ _ (call (Value.builtin "min") _) _ _ _)); (fail_if_success (with_reducible show wpAny _ _ (call (Value.builtin "str.join") _) _ _ _)); (fail_if_success (with_reducible show wpAny _ _ (exec (Stmt.For (Expr.Tuple _ _ _) _ _ _ _) _) _ _ _)); (fail_if_success (with_reducible show wpAny _ _ (call (Value.type "enumerate") _) _ _ _)); (fail_if_success (with_reducible show UnrPostW _ _ _ _ _ _ _ _)); (fail_if_success (with_reducible show UnrPost _ _ _ _ _ _ _ _ _)); (fail_if_success (with_reducible show UnrEnd _ _ _ _ _ _ _)); walk1) | ((fail_if_success (with_reducible show wpAny _ _ (pyIter _) _ _ _)); (fail_if_success (with_reducible show LCg.CompEnd _ _ _ _ _ _ _ _ _ _ _ _ _ _)); (fail_if_success (with_reducible show wpAny _ _ (eval (Expr.SetComp _ _ _ _) _) _ _ _)); (fail_if_success (with_reducible show Exists _)); (fail_if_success (with_reducible show wpAny _ _ (call (Value.builtin "min") _) _ _ _)); (fail_if_success (with_reducible show wpAny _ _ (call (Value.builtin "str.join") _) _ _ _)); (fail_if_success (with_reducible show wpAny _ _ (exec (Stmt.For (Expr.Tuple _ _ _) _ _ _ _) _) _ _ _)); (fail_if_success (with_reducible show wpAny _ _ (call (Value.type "enumerate") _) _ _ _)); (fail_if_success (with_reducible show UnrPostW _ _ _ _ _ _ _ _)); (fail_if_success (with_reducible show UnrPost _ _ _ _ _ _ _ _ _)); (fail_if_success (with_reducible show UnrEnd _ _ _ _ _ _ _)); dsimp only; walk1) | (leave1; walk_say "STEP leave1"; try dsimp only) | fail "no step")
      exact LCg.CompEnd.intro (by k_asm) (by k_asm) _ (fun p hp => hp) off (Or.inr ⟨_, by k_mem, rfl, _, rfl⟩) ⟨rfl, True.intro⟩
    · have hl7 : (fld B j7).length ≤ 1000 := Nat.le_of_ble_eq_true rfl
      have he7 : List.isEmpty (fld B j7) = false := rfl
      have hd7 : (!decide (fld B j7 = [46])) = true := by simp [fld]
      repeat' (first | (k_unfold; (try dsimp only)) | ((fail_if_success (with_reducible show wpAny _ _ (pyIter _) _ _ _)); (fail_if_success (with_reducible show LCg.CompEnd _ _ _ _ _ _ _ _ _ _ _ _ _ _)); (fail_if_success (with_reducible show wpAny _ _ (eval (Expr.SetComp _ _ _ _) _) _ _ _)); (fail_if_success (with_reducible show Exists _)); (fail_if_success (with_reducible show wpAny _ _ (call (Value.builtin "min") _) _ _ _)); (fail_if_success (with_reducible show wpAny _ _ (call (Value.builtin "str.join") _) _ _ _)); (fail_if_success (with_reducible show wpAny _ _ (exec (Stmt.For (Expr.Tuple _ _ _) _ _ _ _) _) _ _ _)); (fail_if_success (with_reducible show wpAny _ _ (call (Value.type "enumerate") _) _ _ _)); (fail_if_success (with_reducible show UnrPostW _ _ _ _ _ _ _ _)); (fail_if_success (with_reducible show UnrPost _ _ _ _ _ _ _ _ _)); (fail_if_success (with_reducible show UnrEnd _ _ _ _ _ _ _)); walk1) | ((fail_if_success (with_reducible show wpAny _ _ (pyIter _) _ _ _)); (fail_if_success (with_reducible show LCg.CompEnd _ _ _ _ _ _ _ _ _ _ _ _ _ _)); (fail_if_success (with_reducible show wpAny _ _ (eval (Expr.SetComp _ _ _ _) _) _ _ _)); (fail_if_success (with_reducible show Exists _)); (fail_if_success (with_reducible show wpAny _ _ (call (Value.builtin "min") _) _ _ _)); (fail_if_success (with_reducible show wpAny _ _ (call (Value.builtin "str.join") _) _ _ _)); (fail_if_success (with_reducible show wpAny _ _ (exec (Stmt.For (Expr.Tuple _ _ _) _ _ _ _) _) _ _ _)); (fail_if_success (with_reducible show wpAny _ _ (call (Value.type "enumerate") _) _ _ _)); (fail_if_success (with_reducible show UnrPostW _ _ _ _ _ _ _ _)); (fail_if_success (with_reducible show UnrPost _ _ _ _ _ _ _ _ _)); (fail_if_success (with_reducible show UnrEnd _ _ _ _ _ _ _)); dsimp only; walk1) | (leave1; walk_say "STEP leave1"; try dsimp only) | fail "no step")
      exact LCg.CompEnd.intro (by k_asm) (by k_asm) _ (fun p hp => hp) off (Or.inr ⟨_, by k_mem, rfl, _, rfl⟩) ⟨rfl, rfl⟩
  rw [five_keep]
  repeat' (first | (k_unfold; (try dsimp only)) | ((fail_if_success (with_reducible show wpAny _ _ (pyIter _) _ _ _)); (fail_if_success (with_reducible show LCg.CompEnd _ _ _ _ _ _ _ _ _ _ _ _ _ _)); (fail_if_success (with_reducible show wpAny _ _ (eval (Expr.SetComp _ _ _ _) _) _ _ _)); (fail_if_success (with_reducible show Exists _)); (fail_if_success (with_reducible show wpAny _ _ (call (Value.builtin "min") _) _ _ _)); (fail_if_success (with_reducible show wpAny _ _ (call (Value.builtin "str.join") _) _ _ _)); (fail_if_success (with_reducible show wpAny _ _ (exec (Stmt.For (Expr.Tuple _ _ _) _ _ _ _) _) _ _ _)); (fail_if_success (with_reducible show wpAny _ _ (call (Value.type "enumerate") _) _ _ _)); (fail_if_success (with_reducible show UnrPostW _ _ _ _ _ _ _ _)); (fail_if_success (with_reducible show UnrPost _ _ _ _ _ _ _ _ _)); (fail_if_success (with_reducible show UnrEnd _ _ _ _ _ _ _)); walk1) | ((fail_if_success (with_reducible show wpAny _ _ (pyIter _) _ _ _)); (fail_if_success (with_reducible show LCg.CompEnd _ _ _ _ _ _ _ _ _ _ _ _ _ _)); (fail_if_success (with_reducible show wpAny _ _ (eval (Expr.SetComp _ _ _ _) _) _ _ _)); (fail_if_success (with_reducible show Exists _)); (fail_if_success (with_reducible show wpAny _ _ (call (Value.builtin "min") _) _ _ _)); (fail_if_success (with_reducible show wpAny _ _ (call (Value.builtin "str.join") _) _ _ _)); (fail_if_success (with_reducible show wpAny _ _ (exec (Stmt.For (Expr.Tuple _ _ _) _ _ _ _) _) _ _ _)); (fail_if_success (with_reducible show wpAny _ _ (call (Value.type "enumerate") _) _ _ _)); (fail_if_success (with_reducible show UnrPostW _ _ _ _ _ _ _ _)); (fail_if_success (with_reducible show UnrPost _ _ _ _ _ _ _ _ _)); (fail_if_success (with_reducible show UnrEnd _ _ _ _ _ _ _)); dsimp only; walk1) | (leave1; walk_say "STEP leave1"; try dsimp only) | fail "no step")
  rename_i hX9
  refine compEnd_grow2 (by k_asm) (by k_asm) ⟨Ne.symm hX9.1, Ne.symm hX9.2.1, Ne.symm hX9.2.2.1⟩ off1 (Or.inr ⟨_, by k_mem, rfl, _, rfl⟩) ?_
  refine LCg.CompRest.succ ?_
  intro v I oI C oC D m₂ h tk E' hv hC hx F N off ne
  simp only [List.getElem?_toArray, List.getElem?_cons_zero, List.getElem?_cons_succ, Nat.zero_add, Option.some.injEq] at hv
  subst hv
  have off1 := off
  (try simp only [LCg.Off3, and_true] at off)
  repeat' (first | (k_unfold; (try dsimp only)) | ((fail_if_success (with_reducible show wpAny _ _ (pyIter _) _ _ _)); (fail_if_success (with_reducible show LCg.CompEnd _ _ _ _ _ _ _ _ _ _ _ _ _ _)); (fail_if_success (with_reducible show wpAny _ _ (eval (Expr.SetComp _ _ _ _) _) _ _ _)); (fail_if_success (with_reducible show Exists _)); (fail_if_success (with_reducible show wpAny _ _ (call (Value.builtin "min") _) _ _ _)); (fail_if_success (with_reducible show wpAny _ _ (call (Value.builtin "str.join") _) _ _ _)); (fail_if_success (with_reducible show wpAny _ _ (exec (Stmt.For (Expr.Tuple _ _ _) _ _ _ _) _) _ _ _)); (fail_if_success (with_reducible show wpAny _ _ (call (Value.type "enumerate") _) _ _ _)); (fail_if_success (with_reducible show UnrPostW _ _ _ _ _ _ _ _)); (fail_if_success (with_reducible show UnrPost _ _ _ _ _ _ _ _ _)); (fail_if_success (with_reducible show UnrEnd _ _ _ _ _ _ _)); walk1) | ((fail_if_success (with_reducible show wpAny _ _ (pyIter _) _ _ _)); (fail_if_success (with_reducible show LCg.CompEnd _ _ _ _ _ _ _ _ _ _ _ _ _ _)); (fail_if_success (with_reducible show wpAny _ _ (eval (Expr.SetComp _ _ _ _) _) _ _ _)); (fail_if_success (with_reducible show Exists _)); (fail_if_success (with_reducible show wpAny _ _ (call (Value.builtin "min") _) _ _ _)); (fail_if_success (with_reducible show wpAny _ _ (call (Value.builtin "str.join") _) _ _ _)); (fail_if_success (with_reducible show wpAny _ _ (exec (Stmt.For (Expr.Tuple _ _ _) _ _ _ _) _) _ _ _)); (fail_if_success (with_reducible show wpAny _ _ (call (Value.type "enumerate") _) _ _ _)); (fail_if_success (with_reducible show UnrPostW _ _ _ _ _ _ _ _)); (fail_if_success (with_reducible show UnrPost _ _ _ _ _ _ _ _ _)); (fail_if_success (with_reducible show UnrEnd _ _ _ _ _ _ _)); dsimp only; walk1) | (leave1; walk_say "STEP leave1"; try dsimp only) | fail "no step")
  refine' srcT_list ?zh ?zl ?zz ?zF ?zN ?_
  (case zF => k_asm)
  (case zN => k_asm)
  (case zh => rfl)
  (case zl => exact Or.inr ⟨_, by k_mem, rfl, _, rfl⟩)
  (case zz => exact Nat.le_of_ble_eq_true rfl)
  intro s₂ hs; obtain ⟨g9, rfl⟩ := hs
  refine restT_keep _ notNil ?_ ?_
  · intro i v I oI C oC D m₂ ys h tk E' hv hC hx F N off ne
    rcases five_at hv with ⟨t7, rfl⟩ | ⟨j7, t7, rfl⟩
    · repeat' (first | (k_unfold; (try dsimp only)) | ((fail_if_success (with_reducible show wpAny _ _ (pyIter _) _ _ _)); (fail_if_success (with_reducible show LCg.CompEnd _ _ _ _ _ _ _ _ _ _ _ _ _ _)); (fail_if_success (with_reducible show wpAny _ _ (eval (Expr.SetComp _ _ _ _) _) _ _ _)); (fail_if_success (with_reducible show Exists _)); (fail_if_success (with_reducible show wpAny _ _ (call (Value.builtin "min") _) _ _ _)); (fail_if_success (with_reducible show wpAny _ _ (call (Value.builtin "str.join") _) _ _ _)); (fail_if_success (with_reducible show wpAny _ _ (exec (Stmt.For (Expr.Tuple _ _ _) _ _ _ _) _) _ _ _)); (fail_if_success (with_reducible show wpAny _ _ (call (Value.type "enumerate") _) _ _ _)); (fail_if_success (with_reducible show UnrPostW _ _ _ _ _ _ _ _)); (fail_if_success (with_reducible show UnrPost _ _ _ _ _ _ _ _ _)); (fail_if_success (with_reducible show UnrEnd _ _ _ _ _ _ _)); walk1) | ((fail_if_success (with_reducible show wpAny _ _ (pyIter _) _ _ _)); (fail_if_success (with_reducible show LCg.CompEnd _ _ _ _ _ _ _ _ _ _ _ _ _ _)); (fail_if_success (with_reducible show wpAny _ _ (eval (Expr.SetComp _ _ _ _) _) _ _ _)); (fail_if_success (with_reducible show Exists _)); (fail_if_success (with_reducible show wpAny _ _ (call (Value.builtin "min") _) _ _ _)); (fail_if_success (with_reducible show wpAny _ _ (call (Value.builtin "str.join") _) _ _ _)); (fail_if_success (with_reducible show wpAny _ _ (exec (Stmt.For (Expr.Tuple _ _ _) _ _ _ _) _) _ _ _)); (fail_if_success (with_reducible show wpAny _ _ (call (Value.type "enumerate") _) _ _ _)); (fail_if_success (with_reducible show UnrPostW _ _ _ _ _ _ _ _)); (fail_if_success (with_reducible show UnrPost _ _ _ _ _ _ _ _ _)); (fail_if_success (with_reducible show UnrEnd _ _ _ _ _ _ _)); dsimp only; walk1) | (leave1; walk_say "STEP leave1"; try dsimp only) | fail "no step")
      exact LCg.CompEnd.intro (by k_asm) (by k_asm) _ (fun p hp => hp) off (Or.inr ⟨_, by k_mem, rfl, _, rfl⟩) ⟨rfl, True.intro⟩
    · have hl7 : (fld A j7).length ≤ 1000 := Nat.le_of_ble_eq_true rfl
      have he7 : List.isEmpty (fld A j7) = false := rfl
      have hd7 : (!decide (fld A j7 = [46])) = true := by simp [fld]
      repeat' (first | (k_unfold; (try dsimp only)) | ((fail_if_success (with_reducible show wpAny _ _ (pyIter _) _ _ _)); (fail_if_success (with_reducible show LCg.CompEnd _ _ _ _ _ _ _ _ _ _ _ _ _ _)); (fail_if_success (with_reducible show wpAny _ _ (eval (Expr.SetComp _ _ _ _) _) _ _ _)); (fail_if_success (with_reducible show Exists _)); (fail_if_success (with_reducible show wpAny _ _ (call (Value.builtin "min") _) _ _ _)); (fail_if_success (with_reducible show wpAny _ _ (call (Value.builtin "str.join") _) _ _ _)); (fail_if_success (with_reducible show wpAny _ _ (exec (Stmt.For (Expr.Tuple _ _ _) _ _ _ _) _) _ _ _)); (fail_if_success (with_reducible show wpAny _ _ (call (Value.type "enumerate") _) _ _ _)); (fail_if_success (with_reducible show UnrPostW _ _ _ _ _ _ _ _)); (fail_if_success (with_reducible show UnrPost _ _ _ _ _ _ _ _ _)); (fail_if_success (with_reducible show UnrEnd _ _ _ _ _ _ _)); walk1) | ((fail_if_success (with_reducible show wpAny _ _ (pyIter _) _ _ _)); (fail_if_success (with_reducible show LCg.CompEnd _ _ _ _ _ _ _ _ _ _ _ _ _ _)); (fail_if_success (with_reducible show wpAny _ _ (eval (Expr.SetComp _ _ _ _) _) _ _ _)); (fail_if_success (with_reducible show Exists _)); (fail_if_success (with_reducible show wpAny _ _ (call (Value.builtin "min") _) _ _ _)); (fail_if_success (with_reducible show wpAny _ _ (call (Value.builtin "str.join") _) _ _ _)); (fail_if_success (with_reducible show wpAny _ _ (exec (Stmt.For (Expr.Tuple _ _ _) _ _ _ _) _) _ _ _)); (fail_if_success (with_reducible show wpAny _ _ (call (Value.type "enumerate") _) _ _ _)); (fail_if_success (with_reducible show UnrPostW _ _ _ _ _ _ _ _)); (fail_if_success (with_reducible show UnrPost _ _ _ _ _ _ _ _ _)); (fail_if_success (with_reducible show UnrEnd _ _ _ _ _ _ _)); dsimp only; walk1) | (leave1; walk_say "STEP leave1"; try dsimp only) | fail "no step")
      exact LCg.CompEnd.intro (by k_asm) (by k_asm) _ (fun p hp => hp) off (Or.inr ⟨_, by k_mem, rfl, _, rfl⟩) ⟨rfl, rfl⟩
  rw [five_keep]
  repeat' (first | (k_unfold; (try dsimp only)) | ((fail_if_success (with_reducible show wpAny _ _ (pyIter _) _ _ _)); (fail_if_success (with_reducible show LCg.CompEnd _ _ _ _ _ _ _ _ _ _ _ _ _ _)); (fail_if_success (with_reducible show wpAny _ _ (eval (Expr.SetComp _ _ _ _) _) _ _ _)); (fail_if_success (with_reducible show Exists _)); (fail_if_success (with_reducible show wpAny _ _ (call (Value.builtin "min") _) _ _ _)); (fail_if_success (with_reducible show wpAny _ _ (call (Value.builtin "str.join") _) _ _ _)); (fail_if_success (with_reducible show wpAny _ _ (exec (Stmt.For (Expr.Tuple _ _ _) _ _ _ _) _) _ _ _)); (fail_if_success (with_reducible show wpAny _ _ (call (Value.type "enumerate") _) _ _ _)); (fail_if_success (with_reducible show UnrPostW _ _ _ _ _ _ _ _)); (fail_if_success (with_reducible show UnrPost _ _ _ _ _ _ _ _ _)); (fail_if_success (with_reducible show UnrEnd _ _ _ _ _ _ _)); walk1) | ((fail_if_success (with_reducible show wpAny _ _ (pyIter _) _ _ _)); (fail_if_success (with_reducible show LCg.CompEnd _ _ _ _ _ _ _ _ _ _ _ _ _ _)); (fail_if_success (with_reducible show wpAny _ _ (eval (Expr.SetComp _ _ _ _) _) _ _ _)); (fail_if_success (with_reducible show Exists _)); (fail_if_success (with_reducible show wpAny _ _ (call (Value.builtin "min") _) _ _ _)); (fail_if_success (with_reducible show wpAny _ _ (call (Value.builtin "str.join") _) _ _ _)); (fail_if_success (with_reducible show wpAny _ _ (exec (Stmt.For (Expr.Tuple _ _ _) _ _ _ _) _) _ _ _)); (fail_if_success (with_reducible show wpAny _ _ (call (Value.type "enumerate") _) _ _ _)); (fail_if_success (with_reducible show UnrPostW _ _ _ _ _ _ _ _)); (fail_if_success (with_reducible show UnrPost _ _ _ _ _ _ _ _ _)); (fail_if_success (with_reducible show UnrEnd _ _ _ _ _ _ _)); dsimp only; walk1) | (leave1; walk_say "STEP leave1"; try dsimp only) | fail "no step")
  rename_i hX9
  refine compEnd_grow2 (by k_asm) (by k_asm) ⟨Ne.symm hX9.1, Ne.symm hX9.2.1, Ne.symm hX9.2.2.1⟩ off1 (Or.inr ⟨_, by k_mem, rfl, _, rfl⟩) ?_
  refine LCg.CompRest.zero ?_
  repeat' (first | (k_unfold; (try dsimp only)) | ((fail_if_success (with_reducible show wpAny _ _ (pyIter _) _ _ _)); (fail_if_success (with_reducible show LCg.CompEnd _ _ _ _ _ _ _ _ _ _ _ _ _ _)); (fail_if_success (with_reducible show wpAny _ _ (eval (Expr.SetComp _ _ _ _) _) _ _ _)); (fail_if_success (with_reducible show Exists _)); (fail_if_success (with_reducible show wpAny _ _ (call (Value.builtin "min") _) _ _ _)); (fail_if_success (with_reducible show wpAny _ _ (call (Value.builtin "str.join") _) _ _ _)); (fail_if_success (with_reducible show wpAny _ _ (exec (Stmt.For (Expr.Tuple _ _ _) _ _ _ _) _) _ _ _)); (fail_if_success (with_reducible show wpAny _ _ (call (Value.type "enumerate") _) _ _ _)); (fail_if_success (with_reducible show UnrPostW _ _ _ _ _ _ _ _)); (fail_if_success (with_reducible show UnrPost _ _ _ _ _ _ _ _ _)); (fail_if_success (with_reducible show UnrEnd _ _ _ _ _ _ _)); walk1) | ((fail_if_success (with_reducible show wpAny _ _ (pyIter _) _ _ _)); (fail_if_success (with_reducible show LCg.CompEnd _ _ _ _ _ _ _ _ _ _ _ _ _ _)); (fail_if_success (with_reducible show wpAny _ _ (eval (Expr.SetComp _ _ _ _) _) _ _ _)); (fail_if_success (with_reducible show Exists _)); (fail_if_success (with_reducible show wpAny _ _ (call (Value.builtin "min") _) _ _ _)); (fail_if_success (with_reducible show wpAny _ _ (call (Value.builtin "str.join") _) _ _ _)); (fail_if_success (with_reducible show wpAny _ _ (exec (Stmt.For (Expr.Tuple _ _ _) _ _ _ _) _) _ _ _)); (fail_if_success (with_reducible show wpAny _ _ (call (Value.type "enumerate") _) _ _ _)); (fail_if_success (with_reducible show UnrPostW _ _ _ _ _ _ _ _)); (fail_if_success (with_reducible show UnrPost _ _ _ _ _ _ _ _ _)); (fail_if_success (with_reducible show UnrEnd _ _ _ _ _ _ _)); dsimp only; walk1) | (leave1; walk_say "STEP leave1"; try dsimp only) | fail "no step")
  rcases Nat.lt_or_eq_of_le hpre.1 with hlt | heq
  · have hmin : lexN (flds A 4) (flds B 4) = true := lexN_flds hlt hpre.2
    have hmax : lexG (flds A 4) (flds B 4) = false := lexG_flds hpre.1 hpre.2
    k_dflt (refine' min_fst ?H ?U ?F ?N ?D ?b ?a ?x ?_; (case H => rfl); (case U => ktr_units); (case F => k_asm); (case N => k_asm); (case D => k_mem); (case b => k_mem); (case a => k_mem); (case x => assumption); intro h9 tk9 F9 N9; (try k_sweep); (try dsimp only))
    repeat' (first | (k_unfold; (try dsimp only)) | ((fail_if_success (with_reducible show wpAny _ _ (pyIter _) _ _ _)); (fail_if_success (with_reducible show LCg.CompEnd _ _ _ _ _ _ _ _ _ _ _ _ _ _)); (fail_if_success (with_reducible show wpAny _ _ (eval (Expr.SetComp _ _ _ _) _) _ _ _)); (fail_if_success (with_reducible show Exists _)); (fail_if_success (with_reducible show wpAny _ _ (call (Value.builtin "min") _) _ _ _)); (fail_if_success (with_reducible show wpAny _ _ (call (Value.builtin "str.join") _) _ _ _)); (fail_if_success (with_reducible show wpAny _ _ (exec (Stmt.For (Expr.Tuple _ _ _) _ _ _ _) _) _ _ _)); (fail_if_success (with_reducible show wpAny _ _ (call (Value.type "enumerate") _) _ _ _)); (fail_if_success (with_reducible show UnrPostW _ _ _ _ _ _ _ _)); (fail_if_success (with_reducible show UnrPost _ _ _ _ _ _ _ _ _)); (fail_if_success (with_reducible show UnrEnd _ _ _ _ _ _ _)); walk1) | ((fail_if_success (with_reducible show wpAny _ _ (pyIter _) _ _ _)); (fail_if_success (with_reducible show LCg.CompEnd _ _ _ _ _ _ _ _ _ _ _ _ _ _)); (fail_if_success (with_reducible show wpAny _ _ (eval (Expr.SetComp _ _ _ _) _) _ _ _)); (fail_if_success (with_reducible show Exists _)); (fail_if_success (with_reducible show wpAny _ _ (call (Value.builtin "min") _) _ _ _)); (fail_if_success (with_reducible show wpAny _ _ (call (Value.builtin "str.join") _) _ _ _)); (fail_if_success (with_reducible show wpAny _ _ (exec (Stmt.For (Expr.Tuple _ _ _) _ _ _ _) _) _ _ _)); (fail_if_success (with_reducible show wpAny _ _ (call (Value.type "enumerate") _) _ _ _)); (fail_if_success (with_reducible show UnrPostW _ _ _ _ _ _ _ _)); (fail_if_success (with_reducible show UnrPost _ _ _ _ _ _ _ _ _)); (fail_if_success (with_reducible show UnrEnd _ _ _ _ _ _ _)); dsimp only; walk1) | (leave1; walk_say "STEP leave1"; try dsimp only) | fail "no step")
    rename Fr _ _ _ _ => F9
    rename News _ _ _ _ => N9
    refine For_turns F9 ?_
    repeat' (first | (k_unfold; (try dsimp only)) | ((fail_if_success (with_reducible show wpAny _ _ (pyIter _) _ _ _)); (fail_if_success (with_reducible show LCg.CompEnd _ _ _ _ _ _ _ _ _ _ _ _ _ _)); (fail_if_success (with_reducible show wpAny _ _ (eval (Expr.SetComp _ _ _ _) _) _ _ _)); (fail_if_success (with_reducible show Exists _)); (fail_if_success (with_reducible show wpAny _ _ (call (Value.builtin "min") _) _ _ _)); (fail_if_success (with_reducible show wpAny _ _ (call (Value.builtin "str.join") _) _ _ _)); (fail_if_success (with_reducible show wpAny _ _ (exec (Stmt.For (Expr.Tuple _ _ _) _ _ _ _) _) _ _ _)); (fail_if_success (with_reducible show wpAny _ _ (call (Value.type "enumerate") _) _ _ _)); (fail_if_success (with_reducible show UnrPostW _ _ _ _ _ _ _ _)); (fail_if_success (with_reducible show UnrPost _ _ _ _ _ _ _ _ _)); (fail_if_success (with_reducible show UnrEnd _ _ _ _ _ _ _)); walk1) | ((fail_if_success (with_reducible show wpAny _ _ (pyIter _) _ _ _)); (fail_if_success (with_reducible show LCg.CompEnd _ _ _ _ _ _ _ _ _ _ _ _ _ _)); (fail_if_success (with_reducible show wpAny _ _ (eval (Expr.SetComp _ _ _ _) _) _ _ _)); (fail_if_success (with_reducible show Exists _)); (fail_if_success (with_reducible show wpAny _ _ (call (Value.builtin "min") _) _ _ _)); (fail_if_success (with_reducible show wpAny _ _ (call (Value.builtin "str.join") _) _ _ _)); (fail_if_success (with_reducible show wpAny _ _ (exec (Stmt.For (Expr.Tuple _ _ _) _ _ _ _) _) _ _ _)); (fail_if_success (with_reducible show wpAny _ _ (call (Value.type "enumerate") _) _ _ _)); (fail_if_success (with_reducible show UnrPostW _ _ _ _ _ _ _ _)); (fail_if_success (with_reducible show UnrPost _ _ _ _ _ _ _ _ _)); (fail_if_success (with_reducible show UnrEnd _ _ _ _ _ _ _)); dsimp only; walk1) | (leave1; walk_say "STEP leave1"; try dsimp only) | fail "no step")
    refine ktu_enum (xs := [.pair (fun t => .int 0 t) _, .pair (fun t => .int 1 t) _, .pair (fun t => .int 2 t) _, .pair (fun t => .int 3 t) _]) (by rfl) F9 N9 (by k_mem) rfl rfl rfl ?_
    clear F9 N9
    intro I hI
    refine ItemsRest.pair (fun T' t' h' tk' hT' F' => ?_)
    refine AllObj.cons (fun oe he => ?_)
    refine AllObj.cons (fun oi hi => ?_)
    refine AllObj.nil (fun N' => ?_)
    simp only [List.cons_append, List.nil_append] at N'
    try dsimp only at hT'
    repeat' (first | (k_unfold; (try dsimp only)) | ((fail_if_success (with_reducible show wpAny _ _ (pyIter _) _ _ _)); (fail_if_success (with_reducible show LCg.CompEnd _ _ _ _ _ _ _ _ _ _ _ _ _ _)); (fail_if_success (with_reducible show wpAny _ _ (eval (Expr.SetComp _ _ _ _) _) _ _ _)); (fail_if_success (with_reducible show Exists _)); (fail_if_success (with_reducible show wpAny _ _ (call (Value.builtin "min") _) _ _ _)); (fail_if_success (with_reducible show wpAny _ _ (call (Value.builtin "str.join") _) _ _ _)); (fail_if_success (with_reducible show wpAny _ _ (exec (Stmt.For (Expr.Tuple _ _ _) _ _ _ _) _) _ _ _)); (fail_if_success (with_reducible show wpAny _ _ (call (Value.type "enumerate") _) _ _ _)); (fail_if_success (with_reducible show UnrPostW _ _ _ _ _ _ _ _)); (fail_if_success (with_reducible show UnrPost _ _ _ _ _ _ _ _ _)); (fail_if_success (with_reducible show UnrEnd _ _ _ _ _ _ _)); walk1) | ((fail_if_success (with_reducible show wpAny _ _ (pyIter _) _ _ _)); (fail_if_success (with_reducible show LCg.CompEnd _ _ _ _ _ _ _ _ _ _ _ _ _ _)); (fail_if_success (with_reducible show wpAny _ _ (eval (Expr.SetComp _ _ _ _) _) _ _ _)); (fail_if_success (with_reducible show Exists _)); (fail_if_success (with_reducible show wpAny _ _ (call (Value.builtin "min") _) _ _ _)); (fail_if_success (with_reducible show wpAny _ _ (call (Value.builtin "str.join") _) _ _ _)); (fail_if_success (with_reducible show wpAny _ _ (exec (Stmt.For (Expr.Tuple _ _ _) _ _ _ _) _) _ _ _)); (fail_if_success (with_reducible show wpAny _ _ (call (Value.type "enumerate") _) _ _ _)); (fail_if_success (with_reducible show UnrPostW _ _ _ _ _ _ _ _)); (fail_if_success (with_reducible show UnrPost _ _ _ _ _ _ _ _ _)); (fail_if_success (with_reducible show UnrEnd _ _ _ _ _ _ _)); dsimp only; walk1) | (leave1; walk_say "STEP leave1"; try dsimp only) | fail "no step")
    rotate_left
    · dsimp only [UnrPostW]
      rw [shared0 (by assumption)] at hret
      have hil := inter_len (A / 4096 ^ (4 - 0)) 0 (by omega)
      repeat' (first | (k_unfold; (try dsimp only)) | ((fail_if_success (with_reducible show wpAny _ _ (pyIter _) _ _ _)); (fail_if_success (with_reducible show LCg.CompEnd _ _ _ _ _ _ _ _ _ _ _ _ _ _)); (fail_if_success (with_reducible show wpAny _ _ (eval (Expr.SetComp _ _ _ _) _) _ _ _)); (fail_if_success (with_reducible show Exists _)); (fail_if_success (with_reducible show wpAny _ _ (call (Value.builtin "min") _) _ _ _)); (fail_if_success (with_reducible show wpAny _ _ (call (Value.builtin "str.join") _) _ _ _)); (fail_if_success (with_reducible show wpAny _ _ (exec (Stmt.For (Expr.Tuple _ _ _) _ _ _ _) _) _ _ _)); (fail_if_success (with_reducible show wpAny _ _ (call (Value.type "enumerate") _) _ _ _)); (fail_if_success (with_reducible show UnrPostW _ _ _ _ _ _ _ _)); (fail_if_success (with_reducible show UnrPost _ _ _ _ _ _ _ _ _)); (fail_if_success (with_reducible show UnrEnd _ _ _ _ _ _ _)); walk1) | ((fail_if_success (with_reducible show wpAny _ _ (pyIter _) _ _ _)); (fail_if_success (with_reducible show LCg.CompEnd _ _ _ _ _ _ _ _ _ _ _ _ _ _)); (fail_if_success (with_reducible show wpAny _ _ (eval (Expr.SetComp _ _ _ _) _) _ _ _)); (fail_if_success (with_reducible show Exists _)); (fail_if_success (with_reducible show wpAny _ _ (call (Value.builtin "min") _) _ _ _)); (fail_if_success (with_reducible show wpAny _ _ (call (Value.builtin "str.join") _) _ _ _)); (fail_if_success (with_reducible show wpAny _ _ (exec (Stmt.For (Expr.Tuple _ _ _) _ _ _ _) _) _ _ _)); (fail_if_success (with_reducible show wpAny _ _ (call (Value.type "enumerate") _) _ _ _)); (fail_if_success (with_reducible show UnrPostW _ _ _ _ _ _ _ _)); (fail_if_success (with_reducible show UnrPost _ _ _ _ _ _ _ _ _)); (fail_if_success (with_reducible show UnrEnd _ _ _ _ _ _ _)); dsimp only; walk1) | (leave1; walk_say "STEP leave1"; try dsimp only) | fail "no step")
      k_dflt (refine join_cut (cut0 A) (by k_asm) (by k_mem) rfl .nil (by omega) ofS_slash ?_)
      intro t9 k9
      repeat' (first | (k_unfold; (try dsimp only)) | ((fail_if_success (with_reducible show wpAny _ _ (pyIter _) _ _ _)); (fail_if_success (with_reducible show LCg.CompEnd _ _ _ _ _ _ _ _ _ _ _ _ _ _)); (fail_if_success (with_reducible show wpAny _ _ (eval (Expr.SetComp _ _ _ _) _) _ _ _)); (fail_if_success (with_reducible show Exists _)); (fail_if_success (with_reducible show wpAny _ _ (call (Value.builtin "min") _) _ _ _)); (fail_if_success (with_reducible show wpAny _ _ (call (Value.builtin "str.join") _) _ _ _)); (fail_if_success (with_reducible show wpAny _ _ (exec (Stmt.For (Expr.Tuple _ _ _) _ _ _ _) _) _ _ _)); (fail_if_success (with_reducible show wpAny _ _ (call (Value.type "enumerate") _) _ _ _)); (fail_if_success (with_reducible show UnrPostW _ _ _ _ _ _ _ _)); (fail_if_success (with_reducible show UnrPost _ _ _ _ _ _ _ _ _)); (fail_if_success (with_reducible show UnrEnd _ _ _ _ _ _ _)); walk1) | ((fail_if_success (with_reducible show wpAny _ _ (pyIter _) _ _ _)); (fail_if_success (with_reducible show LCg.CompEnd _ _ _ _ _ _ _ _ _ _ _ _ _ _)); (fail_if_success (with_reducible show wpAny _ _ (eval (Expr.SetComp _ _ _ _) _) _ _ _)); (fail_if_success (with_reducible show Exists _)); (fail_if_success (with_reducible show wpAny _ _ (call (Value.builtin "min") _) _ _ _)); (fail_if_success (with_reducible show wpAny _ _ (call (Value.builtin "str.join") _) _ _ _)); (fail_if_success (with_reducible show wpAny _ _ (exec (Stmt.For (Expr.Tuple _ _ _) _ _ _ _) _) _ _ _)); (fail_if_success (with_reducible show wpAny _ _ (call (Value.type "enumerate") _) _ _ _)); (fail_if_success (with_reducible show UnrPostW _ _ _ _ _ _ _ _)); (fail_if_success (with_reducible show UnrPost _ _ _ _ _ _ _ _ _)); (fail_if_success (with_reducible show UnrEnd _ _ _ _ _ _ _)); dsimp only; walk1) | (leave1; walk_say "STEP leave1"; try dsimp only) | fail "no step")
      rw [slash_inter]
      exact hret _ _ _ (by k_asm) (by first | k_asm | (refine' cb_drop ?cbN ?cbS; (case cbN => assumption); (case cbS => (intro p9 hp9; (repeat (first | exact hp9 | refine List.mem_cons_of_mem _ ?_))))))
    dsimp only [UnrPostW]
    refine unr_same (by k_asm) (by k_asm) hI ⟨⟨by k_mem, True.intro⟩, ?_⟩
    refine ItemsRest.pair (fun T' t' h' tk' hT' F' => ?_)
    refine AllObj.cons (fun oe he => ?_)
    refine AllObj.cons (fun oi hi => ?_)
    refine AllObj.nil (fun N' => ?_)
    simp only [List.cons_append, List.nil_append] at N'
    try dsimp only at hT'
    repeat' (first | (k_unfold; (try dsimp only)) | ((fail_if_success (with_reducible show wpAny _ _ (pyIter _) _ _ _)); (fail_if_success (with_reducible show LCg.CompEnd _ _ _ _ _ _ _ _ _ _ _ _ _ _)); (fail_if_success (with_reducible show wpAny _ _ (eval (Expr.SetComp _ _ _ _) _) _ _ _)); (fail_if_success (with_reducible show Exists _)); (fail_if_success (with_reducible show wpAny _ _ (call (Value.builtin "min") _) _ _ _)); (fail_if_success (with_reducible show wpAny _ _ (call (Value.builtin "str.join") _) _ _ _)); (fail_if_success (with_reducible show wpAny _ _ (exec (Stmt.For (Expr.Tuple _ _ _) _ _ _ _) _) _ _ _)); (fail_if_success (with_reducible show wpAny _ _ (call (Value.type "enumerate") _) _ _ _)); (fail_if_success (with_reducible show UnrPostW _ _ _ _ _ _ _ _)); (fail_if_success (with_reducible show UnrPost _ _ _ _ _ _ _ _ _)); (fail_if_success (with_reducible show UnrEnd _ _ _ _ _ _ _)); walk1) | ((fail_if_success (with_reducible show wpAny _ _ (pyIter _) _ _ _)); (fail_if_success (with_reducible show LCg.CompEnd _ _ _ _ _ _ _ _ _ _ _ _ _ _)); (fail_if_success (with_reducible show wpAny _ _ (eval (Expr.SetComp _ _ _ _) _) _ _ _)); (fail_if_success (with_reducible show Exists _)); (fail_if_success (with_reducible show wpAny _ _ (call (Value.builtin "min") _) _ _ _)); (fail_if_success (with_reducible show wpAny _ _ (call (Value.builtin "str.join") _) _ _ _)); (fail_if_success (with_reducible show wpAny _ _ (exec (Stmt.For (Expr.Tuple _ _ _) _ _ _ _) _) _ _ _)); (fail_if_success (with_reducible show wpAny _ _ (call (Value.type "enumerate") _) _ _ _)); (fail_if_success (with_reducible show UnrPostW _ _ _ _ _ _ _ _)); (fail_if_success (with_reducible show UnrPost _ _ _ _ _ _ _ _ _)); (fail_if_success (with_reducible show UnrEnd _ _ _ _ _ _ _)); dsimp only; walk1) | (leave1; walk_say "STEP leave1"; try dsimp only) | fail "no step")
    rotate_left
    · dsimp only [UnrPostW]
      rw [shared1 (Nat.lt_of_le_of_lt hpre.1 hpre.2) hpre.2 (by assumption) (by assumption)] at hret
      have hil := inter_len (A / 4096 ^ (4 - 1)) 1 (by omega)
      repeat' (first | (k_unfold; (try dsimp only)) | ((fail_if_success (with_reducible show wpAny _ _ (pyIter _) _ _ _)); (fail_if_success (with_reducible show LCg.CompEnd _ _ _ _ _ _ _ _ _ _ _ _ _ _)); (fail_if_success (with_reducible show wpAny _ _ (eval (Expr.SetComp _ _ _ _) _) _ _ _)); (fail_if_success (with_reducible show Exists _)); (fail_if_success (with_reducible show wpAny _ _ (call (Value.builtin "min") _) _ _ _)); (fail_if_success (with_reducible show wpAny _ _ (call (Value.builtin "str.join") _) _ _ _)); (fail_if_success (with_reducible show wpAny _ _ (exec (Stmt.For (Expr.Tuple _ _ _) _ _ _ _) _) _ _ _)); (fail_if_success (with_reducible show wpAny _ _ (call (Value.type "enumerate") _) _ _ _)); (fail_if_success (with_reducible show UnrPostW _ _ _ _ _ _ _ _)); (fail_if_success (with_reducible show UnrPost _ _ _ _ _ _ _ _ _)); (fail_if_success (with_reducible show UnrEnd _ _ _ _ _ _ _)); walk1) | ((fail_if_success (with_reducible show wpAny _ _ (pyIter _) _ _ _)); (fail_if_success (with_reducible show LCg.CompEnd _ _ _ _ _ _ _ _ _ _ _ _ _ _)); (fail_if_success (with_reducible show wpAny _ _ (eval (Expr.SetComp _ _ _ _) _) _ _ _)); (fail_if_success (with_reducible show Exists _)); (fail_if_success (with_reducible show wpAny _ _ (call (Value.builtin "min") _) _ _ _)); (fail_if_success (with_reducible show wpAny _ _ (call (Value.builtin "str.join") _) _ _ _)); (fail_if_success (with_reducible show wpAny _ _ (exec (Stmt.For (Expr.Tuple _ _ _) _ _ _ _) _) _ _ _)); (fail_if_success (with_reducible show wpAny _ _ (call (Value.type "enumerate") _) _ _ _)); (fail_if_success (with_reducible show UnrPostW _ _ _ _ _ _ _ _)); (fail_if_success (with_reducible show UnrPost _ _ _ _ _ _ _ _ _)); (fail_if_success (with_reducible show UnrEnd _ _ _ _ _ _ _)); dsimp only; walk1) | (leave1; walk_say "STEP leave1"; try dsimp only) | fail "no step")
      k_dflt (refine join_cut (cut1 A) (by k_asm) (by k_mem) rfl (.cons _ _ .nil) (by omega) ofS_slash ?_)
      intro t9 k9
      repeat' (first | (k_unfold; (try dsimp only)) | ((fail_if_success (with_reducible show wpAny _ _ (pyIter _) _ _ _)); (fail_if_success (with_reducible show LCg.CompEnd _ _ _ _ _ _ _ _ _ _ _ _ _ _)); (fail_if_success (with_reducible show wpAny _ _ (eval (Expr.SetComp _ _ _ _) _) _ _ _)); (fail_if_success (with_reducible show Exists _)); (fail_if_success (with_reducible show wpAny _ _ (call (Value.builtin "min") _) _ _ _)); (fail_if_success (with_reducible show wpAny _ _ (call (Value.builtin "str.join") _) _ _ _)); (fail_if_success (with_reducible show wpAny _ _ (exec (Stmt.For (Expr.Tuple _ _ _) _ _ _ _) _) _ _ _)); (fail_if_success (with_reducible show wpAny _ _ (call (Value.type "enumerate") _) _ _ _)); (fail_if_success (with_reducible show UnrPostW _ _ _ _ _ _ _ _)); (fail_if_success (with_reducible show UnrPost _ _ _ _ _ _ _ _ _)); (fail_if_success (with_reducible show UnrEnd _ _ _ _ _ _ _)); walk1) | ((fail_if_success (with_reducible show wpAny _ _ (pyIter _) _ _ _)); (fail_if_success (with_reducible show LCg.CompEnd _ _ _ _ _ _ _ _ _ _ _ _ _ _)); (fail_if_success (with_reducible show wpAny _ _ (eval (Expr.SetComp _ _ _ _) _) _ _ _)); (fail_if_success (with_reducible show Exists _)); (fail_if_success (with_reducible show wpAny _ _ (call (Value.builtin "min") _) _ _ _)); (fail_if_success (with_reducible show wpAny _ _ (call (Value.builtin "str.join") _) _ _ _)); (fail_if_success (with_reducible show wpAny _ _ (exec (Stmt.For (Expr.Tuple _ _ _) _ _ _ _) _) _ _ _)); (fail_if_success (with_reducible show wpAny _ _ (call (Value.type "enumerate") _) _ _ _)); (fail_if_success (with_reducible show UnrPostW _ _ _ _ _ _ _ _)); (fail_if_success (with_reducible show UnrPost _ _ _ _ _ _ _ _ _)); (fail_if_success (with_reducible show UnrEnd _ _ _ _ _ _ _)); dsimp only; walk1) | (leave1; walk_say "STEP leave1"; try dsimp only) | fail "no step")
      rw [slash_inter]
      exact hret _ _ _ (by k_asm) (by first | k_asm | (refine' cb_drop ?cbN ?cbS; (case cbN => assumption); (case cbS => (intro p9 hp9; (repeat (first | exact hp9 | refine List.mem_cons_of_mem _ ?_))))))
    dsimp only [UnrPostW]
    refine unr_same (by k_asm) (by k_asm) hI ⟨⟨by k_mem, True.intro⟩, ?_⟩
    refine ItemsRest.pair (fun T' t' h' tk' hT' F' => ?_)
    refine AllObj.cons (fun oe he => ?_)
    refine AllObj.cons (fun oi hi => ?_)
    refine AllObj.nil (fun N' => ?_)
    simp only [List.cons_append, List.nil_append] at N'
    try dsimp only at hT'
    repeat' (first | (k_unfold; (try dsimp only)) | ((fail_if_success (with_reducible show wpAny _ _ (pyIter _) _ _ _)); (fail_if_success (with_reducible show LCg.CompEnd _ _ _ _ _ _ _ _ _ _ _ _ _ _)); (fail_if_success (with_reducible show wpAny _ _ (eval (Expr.SetComp _ _ _ _) _) _ _ _)); (fail_if_success (with_reducible show Exists _)); (fail_if_success (with_reducible show wpAny _ _ (call (Value.builtin "min") _) _ _ _)); (fail_if_success (with_reducible show wpAny _ _ (call (Value.builtin "str.join") _) _ _ _)); (fail_if_success (with_reducible show wpAny _ _ (exec (Stmt.For (Expr.Tuple _ _ _) _ _ _ _) _) _ _ _)); (fail_if_success (with_reducible show wpAny _ _ (call (Value.type "enumerate") _) _ _ _)); (fail_if_success (with_reducible show UnrPostW _ _ _ _ _ _ _ _)); (fail_if_success (with_reducible show UnrPost _ _ _ _ _ _ _ _ _)); (fail_if_success (with_reducible show UnrEnd _ _ _ _ _ _ _)); walk1) | ((fail_if_success (with_reducible show wpAny _ _ (pyIter _) _ _ _)); (fail_if_success (with_reducible show LCg.CompEnd _ _ _ _ _ _ _ _ _ _ _ _ _ _)); (fail_if_success (with_reducible show wpAny _ _ (eval (Expr.SetComp _ _ _ _) _) _ _ _)); (fail_if_success (with_reducible show Exists _)); (fail_if_success (with_reducible show wpAny _ _ (call (Value.builtin "min") _) _ _ _)); (fail_if_success (with_reducible show wpAny _ _ (call (Value.builtin "str.join") _) _ _ _)); (fail_if_success (with_reducible show wpAny _ _ (exec (Stmt.For (Expr.Tuple _ _ _) _ _ _ _) _) _ _ _)); (fail_if_success (with_reducible show wpAny _ _ (call (Value.type "enumerate") _) _ _ _)); (fail_if_success (with_reducible show UnrPostW _ _ _ _ _ _ _ _)); (fail_if_success (with_reducible show UnrPost _ _ _ _ _ _ _ _ _)); (fail_if_success (with_reducible show UnrEnd _ _ _ _ _ _ _)); dsimp only; walk1) | (leave1; walk_say "STEP leave1"; try dsimp only) | fail "no step")
    rotate_left
    · dsimp only [UnrPostW]
      rw [shared2 (Nat.lt_of_le_of_lt hpre.1 hpre.2) hpre.2 (by assumption) (by assumption) (by assumption)] at hret
      have hil := inter_len (A / 4096 ^ (4 - 2)) 2 (by omega)
      repeat' (first | (k_unfold; (try dsimp only)) | ((fail_if_success (with_reducible show wpAny _ _ (pyIter _) _ _ _)); (fail_if_success (with_reducible show LCg.CompEnd _ _ _ _ _ _ _ _ _ _ _ _ _ _)); (fail_if_success (with_reducible show wpAny _ _ (eval (Expr.SetComp _ _ _ _) _) _ _ _)); (fail_if_success (with_reducible show Exists _)); (fail_if_success (with_reducible show wpAny _ _ (call (Value.builtin "min") _) _ _ _)); (fail_if_success (with_reducible show wpAny _ _ (call (Value.builtin "str.join") _) _ _ _)); (fail_if_success (with_reducible show wpAny _ _ (exec (Stmt.For (Expr.Tuple _ _ _) _ _ _ _) _) _ _ _)); (fail_if_success (with_reducible show wpAny _ _ (call (Value.type "enumerate") _) _ _ _)); (fail_if_success (with_reducible show UnrPostW _ _ _ _ _ _ _ _)); (fail_if_success (with_reducible show UnrPost _ _ _ _ _ _ _ _ _)); (fail_if_success (with_reducible show UnrEnd _ _ _ _ _ _ _)); walk1) | ((fail_if_success (with_reducible show wpAny _ _ (pyIter _) _ _ _)); (fail_if_success (with_reducible show LCg.CompEnd _ _ _ _ _ _ _ _ _ _ _ _ _ _)); (fail_if_success (with_reducible show wpAny _ _ (eval (Expr.SetComp _ _ _ _) _) _ _ _)); (fail_if_success (with_reducible show Exists _)); (fail_if_success (with_reducible show wpAny _ _ (call (Value.builtin "min") _) _ _ _)); (fail_if_success (with_reducible show wpAny _ _ (call (Value.builtin "str.join") _) _ _ _)); (fail_if_success (with_reducible show wpAny _ _ (exec (Stmt.For (Expr.Tuple _ _ _) _ _ _ _) _) _ _ _)); (fail_if_success (with_reducible show wpAny _ _ (call (Value.type "enumerate") _) _ _ _)); (fail_if_success (with_reducible show UnrPostW _ _ _ _ _ _ _ _)); (fail_if_success (with_reducible show UnrPost _ _ _ _ _ _ _ _ _)); (fail_if_success (with_reducible show UnrEnd _ _ _ _ _ _ _)); dsimp only; walk1) | (leave1; walk_say "STEP leave1"; try dsimp only) | fail "no step")
      k_dflt (refine join_cut (cut2 A) (by k_asm) (by k_mem) rfl (.cons _ _ (.cons _ _ .nil)) (by omega) ofS_slash ?_)
      intro t9 k9
      repeat' (first | (k_unfold; (try dsimp only)) | ((fail_if_success (with_reducible show wpAny _ _ (pyIter _) _ _ _)); (fail_if_success (with_reducible show LCg.CompEnd _ _ _ _ _ _ _ _ _ _ _ _ _ _)); (fail_if_success (with_reducible show wpAny _ _ (eval (Expr.SetComp _ _ _ _) _) _ _ _)); (fail_if_success (with_reducible show Exists _)); (fail_if_success (with_reducible show wpAny _ _ (call (Value.builtin "min") _) _ _ _)); (fail_if_success (with_reducible show wpAny _ _ (call (Value.builtin "str.join") _) _ _ _)); (fail_if_success (with_reducible show wpAny _ _ (exec (Stmt.For (Expr.Tuple _ _ _) _ _ _ _) _) _ _ _)); (fail_if_success (with_reducible show wpAny _ _ (call (Value.type "enumerate") _) _ _ _)); (fail_if_success (with_reducible show UnrPostW _ _ _ _ _ _ _ _)); (fail_if_success (with_reducible show UnrPost _ _ _ _ _ _ _ _ _)); (fail_if_success (with_reducible show UnrEnd _ _ _ _ _ _ _)); walk1) | ((fail_if_success (with_reducible show wpAny _ _ (pyIter _) _ _ _)); (fail_if_success (with_reducible show LCg.CompEnd _ _ _ _ _ _ _ _ _ _ _ _ _ _)); (fail_if_success (with_reducible show wpAny _ _ (eval (Expr.SetComp _ _ _ _) _) _ _ _)); (fail_if_success (with_reducible show Exists _)); (fail_if_success (with_reducible show wpAny _ _ (call (Value.builtin "min") _) _ _ _)); (fail_if_success (with_reducible show wpAny _ _ (call (Value.builtin "str.join") _) _ _ _)); (fail_if_success (with_reducible show wpAny _ _ (exec (Stmt.For (Expr.Tuple _ _ _) _ _ _ _) _) _ _ _)); (fail_if_success (with_reducible show wpAny _ _ (call (Value.type "enumerate") _) _ _ _)); (fail_if_success (with_reducible show UnrPostW _ _ _ _ _ _ _ _)); (fail_if_success (with_reducible show UnrPost _ _ _ _ _ _ _ _ _)); (fail_if_success (with_reducible show UnrEnd _ _ _ _ _ _ _)); dsimp only; walk1) | (leave1; walk_say "STEP leave1"; try dsimp only) | fail "no step")
      rw [slash_inter]
      exact hret _ _ _ (by k_asm) (by first | k_asm | (refine' cb_drop ?cbN ?cbS; (case cbN => assumption); (case cbS => (intro p9 hp9; (repeat (first | exact hp9 | refine List.mem_cons_of_mem _ ?_))))))
    dsimp only [UnrPostW]
    refine unr_same (by k_asm) (by k_asm) hI ⟨⟨by k_mem, True.intro⟩, ?_⟩
    refine ItemsRest.pair (fun T' t' h' tk' hT' F' => ?_)
    refine AllObj.cons (fun oe he => ?_)
    refine AllObj.cons (fun oi hi => ?_)
    refine AllObj.nil (fun N' => ?_)
    simp only [List.cons_append, List.nil_append] at N'
    try dsimp only at hT'
    repeat' (first | (k_unfold; (try dsimp only)) | ((fail_if_success (with_reducible show wpAny _ _ (pyIter _) _ _ _)); (fail_if_success (with_reducible show LCg.CompEnd _ _ _ _ _ _ _ _ _ _ _ _ _ _)); (fail_if_success (with_reducible show wpAny _ _ (eval (Expr.SetComp _ _ _ _) _) _ _ _)); (fail_if_success (with_reducible show Exists _)); (fail_if_success (with_reducible show wpAny _ _ (call (Value.builtin "min") _) _ _ _)); (fail_if_success (with_reducible show wpAny _ _ (call (Value.builtin "str.join") _) _ _ _)); (fail_if_success (with_reducible show wpAny _ _ (exec (Stmt.For (Expr.Tuple _ _ _) _ _ _ _) _) _ _ _)); (fail_if_success (with_reducible show wpAny _ _ (call (Value.type "enumerate") _) _ _ _)); (fail_if_success (with_reducible show UnrPostW _ _ _ _ _ _ _ _)); (fail_if_success (with_reducible show UnrPost _ _ _ _ _ _ _ _ _)); (fail_if_success (with_reducible show UnrEnd _ _ _ _ _ _ _)); walk1) | ((fail_if_success (with_reducible show wpAny _ _ (pyIter _) _ _ _)); (fail_if_success (with_reducible show LCg.CompEnd _ _ _ _ _ _ _ _ _ _ _ _ _ _)); (fail_if_success (with_reducible show wpAny _ _ (eval (Expr.SetComp _ _ _ _) _) _ _ _)); (fail_if_success (with_reducible show Exists _)); (fail_if_success (with_reducible show wpAny _ _ (call (Value.builtin "min") _) _ _ _)); (fail_if_success (with_reducible show wpAny _ _ (call (Value.builtin "str.join") _) _ _ _)); (fail_if_success (with_reducible show wpAny _ _ (exec (Stmt.For (Expr.Tuple _ _ _) _ _ _ _) _) _ _ _)); (fail_if_success (with_reducible show wpAny _ _ (call (Value.type "enumerate") _) _ _ _)); (fail_if_success (with_reducible show UnrPostW _ _ _ _ _ _ _ _)); (fail_if_success (with_reducible show UnrPost _ _ _ _ _ _ _ _ _)); (fail_if_success (with_reducible show UnrEnd _ _ _ _ _ _ _)); dsimp only; walk1) | (leave1; walk_say "STEP leave1"; try dsimp only) | fail "no step")
    rotate_left
    · dsimp only [UnrPostW]
      rw [shared3 (Nat.lt_of_le_of_lt hpre.1 hpre.2) hpre.2 (by assumption) (by assumption) (by assumption) (by assumption)] at hret
      have hil := inter_len (A / 4096 ^ (4 - 3)) 3 (by omega)
      repeat' (first | (k_unfold; (try dsimp only)) | ((fail_if_success (with_reducible show wpAny _ _ (pyIter _) _ _ _)); (fail_if_success (with_reducible show LCg.CompEnd _ _ _ _ _ _ _ _ _ _ _ _ _ _)); (fail_if_success (with_reducible show wpAny _ _ (eval (Expr.SetComp _ _ _ _) _) _ _ _)); (fail_if_success (with_reducible show Exists _)); (fail_if_success (with_reducible show wpAny _ _ (call (Value.builtin "min") _) _ _ _)); (fail_if_success (with_reducible show wpAny _ _ (call (Value.builtin "str.join") _) _ _ _)); (fail_if_success (with_reducible show wpAny _ _ (exec (Stmt.For (Expr.Tuple _ _ _) _ _ _ _) _) _ _ _)); (fail_if_success (with_reducible show wpAny _ _ (call (Value.type "enumerate") _) _ _ _)); (fail_if_success (with_reducible show UnrPostW _ _ _ _ _ _ _ _)); (fail_if_success (with_reducible show UnrPost _ _ _ _ _ _ _ _ _)); (fail_if_success (with_reducible show UnrEnd _ _ _ _ _ _ _)); walk1) | ((fail_if_success (with_reducible show wpAny _ _ (pyIter _) _ _ _)); (fail_if_success (with_reducible show LCg.CompEnd _ _ _ _ _ _ _ _ _ _ _ _ _ _)); (fail_if_success (with_reducible show wpAny _ _ (eval (Expr.SetComp _ _ _ _) _) _ _ _)); (fail_if_success (with_reducible show Exists _)); (fail_if_success (with_reducible show wpAny _ _ (call (Value.builtin "min") _) _ _ _)); (fail_if_success (with_reducible show wpAny _ _ (call (Value.builtin "str.join") _) _ _ _)); (fail_if_success (with_reducible show wpAny _ _ (exec (Stmt.For (Expr.Tuple _ _ _) _ _ _ _) _) _ _ _)); (fail_if_success (with_reducible show wpAny _ _ (call (Value.type "enumerate") _) _ _ _)); (fail_if_success (with_reducible show UnrPostW _ _ _ _ _ _ _ _)); (fail_if_success (with_reducible show UnrPost _ _ _ _ _ _ _ _ _)); (fail_if_success (with_reducible show UnrEnd _ _ _ _ _ _ _)); dsimp only; walk1) | (leave1; walk_say "STEP leave1"; try dsimp only) | fail "no step")
      k_dflt (refine join_cut (cut3 A) (by k_asm) (by k_mem) rfl (.cons _ _ (.cons _ _ (.cons _ _ .nil))) (by omega) ofS_slash ?_)
      intro t9 k9
      repeat' (first | (k_unfold; (try dsimp only)) | ((fail_if_success (with_reducible show wpAny _ _ (pyIter _) _ _ _)); (fail_if_success (with_reducible show LCg.CompEnd _ _ _ _ _ _ _ _ _ _ _ _ _ _)); (fail_if_success (with_reducible show wpAny _ _ (eval (Expr.SetComp _ _ _ _) _) _ _ _)); (fail_if_success (with_reducible show Exists _)); (fail_if_success (with_reducible show wpAny _ _ (call (Value.builtin "min") _) _ _ _)); (fail_if_success (with_reducible show wpAny _ _ (call (Value.builtin "str.join") _) _ _ _)); (fail_if_success (with_reducible show wpAny _ _ (exec (Stmt.For (Expr.Tuple _ _ _) _ _ _ _) _) _ _ _)); (fail_if_success (with_reducible show wpAny _ _ (call (Value.type "enumerate") _) _ _ _)); (fail_if_success (with_reducible show UnrPostW _ _ _ _ _ _ _ _)); (fail_if_success (with_reducible show UnrPost _ _ _ _ _ _ _ _ _)); (fail_if_success (with_reducible show UnrEnd _ _ _ _ _ _ _)); walk1) | ((fail_if_success (with_reducible show wpAny _ _ (pyIter _) _ _ _)); (fail_if_success (with_reducible show LCg.CompEnd _ _ _ _ _ _ _ _ _ _ _ _ _ _)); (fail_if_success (with_reducible show wpAny _ _ (eval (Expr.SetComp _ _ _ _) _) _ _ _)); (fail_if_success (with_reducible show Exists _)); (fail_if_success (with_reducible show wpAny _ _ (call (Value.builtin "min") _) _ _ _)); (fail_if_success (with_reducible show wpAny _ _ (call (Value.builtin "str.join") _) _ _ _)); (fail_if_success (with_reducible show wpAny _ _ (exec (Stmt.For (Expr.Tuple _ _ _) _ _ _ _) _) _ _ _)); (fail_if_success (with_reducible show wpAny _ _ (call (Value.type "enumerate") _) _ _ _)); (fail_if_success (with_reducible show UnrPostW _ _ _ _ _ _ _ _)); (fail_if_success (with_reducible show UnrPost _ _ _ _ _ _ _ _ _)); (fail_if_success (with_reducible show UnrEnd _ _ _ _ _ _ _)); dsimp only; walk1) | (leave1; walk_say "STEP leave1"; try dsimp only) | fail "no step")
      rw [slash_inter]
      exact hret _ _ _ (by k_asm) (by first | k_asm | (refine' cb_drop ?cbN ?cbS; (case cbN => assumption); (case cbS => (intro p9 hp9; (repeat (first | exact hp9 | refine List.mem_cons_of_mem _ ?_))))))
    dsimp only [UnrPostW]
    refine unr_same (by k_asm) (by k_asm) hI ⟨⟨by k_mem, True.intro⟩, ?_⟩
    exact absurd (shared_all (Nat.lt_of_le_of_lt hpre.1 hpre.2) hpre.2 (by assumption) (by assumption) (by assumption) (by assumption)) (Nat.ne_of_lt hlt)
  · subst heq
    have hmin := lexN_self (flds A 4)
    have hmax := lexG_self (flds A 4)
    have hq3 : (!decide (fld A 3 = fld A 3)) = false := by simp
    have hq2 : (!decide (fld A 2 = fld A 2)) = false := by simp
    have hq1 : (!decide (fld A 1 = fld A 1)) = false := by simp
    have hq0 : (!decide (fld A 0 = fld A 0)) = false := by simp
    k_dflt (refine' min_snd ?H ?U ?F ?N ?D ?b ?a ?x ?_; (case H => rfl); (case U => ktr_units); (case F => k_asm); (case N => k_asm); (case D => k_mem); (case b => k_mem); (case a => k_mem); (case x => assumption); intro h9 tk9 F9 N9; (try k_sweep); (try dsimp only))
    repeat' (first | (k_unfold; (try dsimp only)) | ((fail_if_success (with_reducible show wpAny _ _ (pyIter _) _ _ _)); (fail_if_success (with_reducible show LCg.CompEnd _ _ _ _ _ _ _ _ _ _ _ _ _ _)); (fail_if_success (with_reducible show wpAny _ _ (eval (Expr.SetComp _ _ _ _) _) _ _ _)); (fail_if_success (with_reducible show Exists _)); (fail_if_success (with_reducible show wpAny _ _ (call (Value.builtin "min") _) _ _ _)); (fail_if_success (with_reducible show wpAny _ _ (call (Value.builtin "str.join") _) _ _ _)); (fail_if_success (with_reducible show wpAny _ _ (exec (Stmt.For (Expr.Tuple _ _ _) _ _ _ _) _) _ _ _)); (fail_if_success (with_reducible show wpAny _ _ (call (Value.type "enumerate") _) _ _ _)); (fail_if_success (with_reducible show UnrPostW _ _ _ _ _ _ _ _)); (fail_if_success (with_reducible show UnrPost _ _ _ _ _ _ _ _ _)); (fail_if_success (with_reducible show UnrEnd _ _ _ _ _ _ _)); walk1) | ((fail_if_success (with_reducible show wpAny _ _ (pyIter _) _ _ _)); (fail_if_success (with_reducible show LCg.CompEnd _ _ _ _ _ _ _ _ _ _ _ _ _ _)); (fail_if_success (with_reducible show wpAny _ _ (eval (Expr.SetComp _ _ _ _) _) _ _ _)); (fail_if_success (with_reducible show Exists _)); (fail_if_success (with_reducible show wpAny _ _ (call (Value.builtin "min") _) _ _ _)); (fail_if_success (with_reducible show wpAny _ _ (call (Value.builtin "str.join") _) _ _ _)); (fail_if_success (with_reducible show wpAny _ _ (exec (Stmt.For (Expr.Tuple _ _ _) _ _ _ _) _) _ _ _)); (fail_if_success (with_reducible show wpAny _ _ (call (Value.type "enumerate") _) _ _ _)); (fail_if_success (with_reducible show UnrPostW _ _ _ _ _ _ _ _)); (fail_if_success (with_reducible show UnrPost _ _ _ _ _ _ _ _ _)); (fail_if_success (with_reducible show UnrEnd _ _ _ _ _ _ _)); dsimp only; walk1) | (leave1; walk_say "STEP leave1"; try dsimp only) | fail "no step")
    rename Fr _ _ _ _ => F9
    rename News _ _ _ _ => N9
    refine For_turns F9 ?_
    repeat' (first | (k_unfold; (try dsimp only)) | ((fail_if_success (with_reducible show wpAny _ _ (pyIter _) _ _ _)); (fail_if_success (with_reducible show LCg.CompEnd _ _ _ _ _ _ _ _ _ _ _ _ _ _)); (fail_if_success (with_reducible show wpAny _ _ (eval (Expr.SetComp _ _ _ _) _) _ _ _)); (fail_if_success (with_reducible show Exists _)); (fail_if_success (with_reducible show wpAny _ _ (call (Value.builtin "min") _) _ _ _)); (fail_if_success (with_reducible show wpAny _ _ (call (Value.builtin "str.join") _) _ _ _)); (fail_if_success (with_reducible show wpAny _ _ (exec (Stmt.For (Expr.Tuple _ _ _) _ _ _ _) _) _ _ _)); (fail_if_success (with_reducible show wpAny _ _ (call (Value.type "enumerate") _) _ _ _)); (fail_if_success (with_reducible show UnrPostW _ _ _ _ _ _ _ _)); (fail_if_success (with_reducible show UnrPost _ _ _ _ _ _ _ _ _)); (fail_if_success (with_reducible show UnrEnd _ _ _ _ _ _ _)); walk1) | ((fail_if_success (with_reducible show wpAny _ _ (pyIter _) _ _ _)); (fail_if_success (with_reducible show LCg.CompEnd _ _ _ _ _ _ _ _ _ _ _ _ _ _)); (fail_if_success (with_reducible show wpAny _ _ (eval (Expr.SetComp _ _ _ _) _) _ _ _)); (fail_if_success (with_reducible show Exists _)); (fail_if_success (with_reducible show wpAny _ _ (call (Value.builtin "min") _) _ _ _)); (fail_if_success (with_reducible show wpAny _ _ (call (Value.builtin "str.join") _) _ _ _)); (fail_if_success (with_reducible show wpAny _ _ (exec (Stmt.For (Expr.Tuple _ _ _) _ _ _ _) _) _ _ _)); (fail_if_success (with_reducible show wpAny _ _ (call (Value.type "enumerate") _) _ _ _)); (fail_if_success (with_reducible show UnrPostW _ _ _ _ _ _ _ _)); (fail_if_success (with_reducible show UnrPost _ _ _ _ _ _ _ _ _)); (fail_if_success (with_reducible show UnrEnd _ _ _ _ _ _ _)); dsimp only; walk1) | (leave1; walk_say "STEP leave1"; try dsimp only) | fail "no step")
    refine ktu_enum (xs := [.pair (fun t => .int 0 t) _, .pair (fun t => .int 1 t) _, .pair (fun t => .int 2 t) _, .pair (fun t => .int 3 t) _]) (by rfl) F9 N9 (by k_mem) rfl rfl rfl ?_
    clear F9 N9
    intro I hI
    refine ItemsRest.pair (fun T' t' h' tk' hT' F' => ?_)
    refine AllObj.cons (fun oe he => ?_)
    refine AllObj.cons (fun oi hi => ?_)
    refine AllObj.nil (fun N' => ?_)
    simp only [List.cons_append, List.nil_append] at N'
    try dsimp only at hT'
    repeat' (first | (k_unfold; (try dsimp only)) | ((fail_if_success (with_reducible show wpAny _ _ (pyIter _) _ _ _)); (fail_if_success (with_reducible show LCg.CompEnd _ _ _ _ _ _ _ _ _ _ _ _ _ _)); (fail_if_success (with_reducible show wpAny _ _ (eval (Expr.SetComp _ _ _ _) _) _ _ _)); (fail_if_success (with_reducible show Exists _)); (fail_if_success (with_reducible show wpAny _ _ (call (Value.builtin "min") _) _ _ _)); (fail_if_success (with_reducible show wpAny _ _ (call (Value.builtin "str.join") _) _ _ _)); (fail_if_success (with_reducible show wpAny _ _ (exec (Stmt.For (Expr.Tuple _ _ _) _ _ _ _) _) _ _ _)); (fail_if_success (with_reducible show wpAny _ _ (call (Value.type "enumerate") _) _ _ _)); (fail_if_success (with_reducible show UnrPostW _ _ _ _ _ _ _ _)); (fail_if_success (with_reducible show UnrPost _ _ _ _ _ _ _ _ _)); (fail_if_success (with_reducible show UnrEnd _ _ _ _ _ _ _)); walk1) | ((fail_if_success (with_reducible show wpAny _ _ (pyIter _) _ _ _)); (fail_if_success (with_reducible show LCg.CompEnd _ _ _ _ _ _ _ _ _ _ _ _ _ _)); (fail_if_success (with_reducible show wpAny _ _ (eval (Expr.SetComp _ _ _ _) _) _ _ _)); (fail_if_success (with_reducible show Exists _)); (fail_if_success (with_reducible show wpAny _ _ (call (Value.builtin "min") _) _ _ _)); (fail_if_success (with_reducible show wpAny _ _ (call (Value.builtin "str.join") _) _ _ _)); (fail_if_success (with_reducible show wpAny _ _ (exec (Stmt.For (Expr.Tuple _ _ _) _ _ _ _) _) _ _ _)); (fail_if_success (with_reducible show wpAny _ _ (call (Value.type "enumerate") _) _ _ _)); (fail_if_success (with_reducible show UnrPostW _ _ _ _ _ _ _ _)); (fail_if_success (with_reducible show UnrPost _ _ _ _ _ _ _ _ _)); (fail_if_success (with_reducible show UnrEnd _ _ _ _ _ _ _)); dsimp only; walk1) | (leave1; walk_say "STEP leave1"; try dsimp only) | fail "no step")
    dsimp only [UnrPostW]
    refine unr_same (by k_asm) (by k_asm) hI ⟨⟨by k_mem, True.intro⟩, ?_⟩
    refine ItemsRest.pair (fun T' t' h' tk' hT' F' => ?_)
    refine AllObj.cons (fun oe he => ?_)
    refine AllObj.cons (fun oi hi => ?_)
    refine AllObj.nil (fun N' => ?_)
    simp only [List.cons_append, List.nil_append] at N'
    try dsimp only at hT'
    repeat' (first | (k_unfold; (try dsimp only)) | ((fail_if_success (with_reducible show wpAny _ _ (pyIter _) _ _ _)); (fail_if_success (with_reducible show LCg.CompEnd _ _ _ _ _ _ _ _ _ _ _ _ _ _)); (fail_if_success (with_reducible show wpAny _ _ (eval (Expr.SetComp _ _ _ _) _) _ _ _)); (fail_if_success (with_reducible show Exists _)); (fail_if_success (with_reducible show wpAny _ _ (call (Value.builtin "min") _) _ _ _)); (fail_if_success (with_reducible show wpAny _ _ (call (Value.builtin "str.join") _) _ _ _)); (fail_if_success (with_reducible show wpAny _ _ (exec (Stmt.For (Expr.Tuple _ _ _) _ _ _ _) _) _ _ _)); (fail_if_success (with_reducible show wpAny _ _ (call (Value.type "enumerate") _) _ _ _)); (fail_if_success (with_reducible show UnrPostW _ _ _ _ _ _ _ _)); (fail_if_success (with_reducible show UnrPost _ _ _ _ _ _ _ _ _)); (fail_if_success (with_reducible show UnrEnd _ _ _ _ _ _ _)); walk1) | ((fail_if_success (with_reducible show wpAny _ _ (pyIter _) _ _ _)); (fail_if_success (with_reducible show LCg.CompEnd _ _ _ _ _ _ _ _ _ _ _ _ _ _)); (fail_if_success (with_reducible show wpAny _ _ (eval (Expr.SetComp _ _ _ _) _) _ _ _)); (fail_if_success (with_reducible show Exists _)); (fail_if_success (with_reducible show wpAny _ _ (call (Value.builtin "min") _) _ _ _)); (fail_if_success (with_reducible show wpAny _ _ (call (Value.builtin "str.join") _) _ _ _)); (fail_if_success (with_reducible show wpAny _ _ (exec (Stmt.For (Expr.Tuple _ _ _) _ _ _ _) _) _ _ _)); (fail_if_success (with_reducible show wpAny _ _ (call (Value.type "enumerate") _) _ _ _)); (fail_if_success (with_reducible show UnrPostW _ _ _ _ _ _ _ _)); (fail_if_success (with_reducible show UnrPost _ _ _ _ _ _ _ _ _)); (fail_if_success (with_reducible show UnrEnd _ _ _ _ _ _ _)); dsimp only; walk1) | (leave1; walk_say "STEP leave1"; try dsimp only) | fail "no step")
    dsimp only [UnrPostW]
    refine unr_same (by k_asm) (by k_asm) hI ⟨⟨by k_mem, True.intro⟩, ?_⟩
    refine ItemsRest.pair (fun T' t' h' tk' hT' F' => ?_)
    refine AllObj.cons (fun oe he => ?_)
    refine AllObj.cons (fun oi hi => ?_)
    refine AllObj.nil (fun N' => ?_)
    simp only [List.cons_append, List.nil_append] at N'
    try dsimp only at hT'
    repeat' (first | (k_unfold; (try dsimp only)) | ((fail_if_success (with_reducible show wpAny _ _ (pyIter _) _ _ _)); (fail_if_success (with_reducible show LCg.CompEnd _ _ _ _ _ _ _ _ _ _ _ _ _ _)); (fail_if_success (with_reducible show wpAny _ _ (eval (Expr.SetComp _ _ _ _) _) _ _ _)); (fail_if_success (with_reducible show Exists _)); (fail_if_success (with_reducible show wpAny _ _ (call (Value.builtin "min") _) _ _ _)); (fail_if_success (with_reducible show wpAny _ _ (call (Value.builtin "str.join") _) _ _ _)); (fail_if_success (with_reducible show wpAny _ _ (exec (Stmt.For (Expr.Tuple _ _ _) _ _ _ _) _) _ _ _)); (fail_if_success (with_reducible show wpAny _ _ (call (Value.type "enumerate") _) _ _ _)); (fail_if_success (with_reducible show UnrPostW _ _ _ _ _ _ _ _)); (fail_if_success (with_reducible show UnrPost _ _ _ _ _ _ _ _ _)); (fail_if_success (with_reducible show UnrEnd _ _ _ _ _ _ _)); walk1) | ((fail_if_success (with_reducible show wpAny _ _ (pyIter _) _ _ _)); (fail_if_success (with_reducible show LCg.CompEnd _ _ _ _ _ _ _ _ _ _ _ _ _ _)); (fail_if_success (with_reducible show wpAny _ _ (eval (Expr.SetComp _ _ _ _) _) _ _ _)); (fail_if_success (with_reducible show Exists _)); (fail_if_success (with_reducible show wpAny _ _ (call (Value.builtin "min") _) _ _ _)); (fail_if_success (with_reducible show wpAny _ _ (call (Value.builtin "str.join") _) _ _ _)); (fail_if_success (with_reducible show wpAny _ _ (exec (Stmt.For (Expr.Tuple _ _ _) _ _ _ _) _) _ _ _)); (fail_if_success (with_reducible show wpAny _ _ (call (Value.type "enumerate") _) _ _ _)); (fail_if_success (with_reducible show UnrPostW _ _ _ _ _ _ _ _)); (fail_if_success (with_reducible show UnrPost _ _ _ _ _ _ _ _ _)); (fail_if_success (with_reducible show UnrEnd _ _ _ _ _ _ _)); dsimp only; walk1) | (leave1; walk_say "STEP leave1"; try dsimp only) | fail "no step")
    dsimp only [UnrPostW]
    refine unr_same (by k_asm) (by k_asm) hI ⟨⟨by k_mem, True.intro⟩, ?_⟩
    refine ItemsRest.pair (fun T' t' h' tk' hT' F' => ?_)
    refine AllObj.cons (fun oe he => ?_)
    refine AllObj.cons (fun oi hi => ?_)
    refine AllObj.nil (fun N' => ?_)
    simp only [List.cons_append, List.nil_append] at N'
    try dsimp only at hT'
    repeat' (first | (k_unfold; (try dsimp only)) | ((fail_if_success (with_reducible show wpAny _ _ (pyIter _) _ _ _)); (fail_if_success (with_reducible show LCg.CompEnd _ _ _ _ _ _ _ _ _ _ _ _ _ _)); (fail_if_success (with_reducible show wpAny _ _ (eval (Expr.SetComp _ _ _ _) _) _ _ _)); (fail_if_success (with_reducible show Exists _)); (fail_if_success (with_reducible show wpAny _ _ (call (Value.builtin "min") _) _ _ _)); (fail_if_success (with_reducible show wpAny _ _ (call (Value.builtin "str.join") _) _ _ _)); (fail_if_success (with_reducible show wpAny _ _ (exec (Stmt.For (Expr.Tuple _ _ _) _ _ _ _) _) _ _ _)); (fail_if_success (with_reducible show wpAny _ _ (call (Value.type "enumerate") _) _ _ _)); (fail_if_success (with_reducible show UnrPostW _ _ _ _ _ _ _ _)); (fail_if_success (with_reducible show UnrPost _ _ _ _ _ _ _ _ _)); (fail_if_success (with_reducible show UnrEnd _ _ _ _ _ _ _)); walk1) | ((fail_if_success (with_reducible show wpAny _ _ (pyIter _) _ _ _)); (fail_if_success (with_reducible show LCg.CompEnd _ _ _ _ _ _ _ _ _ _ _ _ _ _)); (fail_if_success (with_reducible show wpAny _ _ (eval (Expr.SetComp _ _ _ _) _) _ _ _)); (fail_if_success (with_reducible show Exists _)); (fail_if_success (with_reducible show wpAny _ _ (call (Value.builtin "min") _) _ _ _)); (fail_if_success (with_reducible show wpAny _ _ (call (Value.builtin "str.join") _) _ _ _)); (fail_if_success (with_reducible show wpAny _ _ (exec (Stmt.For (Expr.Tuple _ _ _) _ _ _ _) _) _ _ _)); (fail_if_success (with_reducible show wpAny _ _ (call (Value.type "enumerate") _) _ _ _)); (fail_if_success (with_reducible show UnrPostW _ _ _ _ _ _ _ _)); (fail_if_success (with_reducible show UnrPost _ _ _ _ _ _ _ _ _)); (fail_if_success (with_reducible show UnrEnd _ _ _ _ _ _ _)); dsimp only; walk1) | (leave1; walk_say "STEP leave1"; try dsimp only) | fail "no step")
    dsimp only [UnrPostW]
    refine unr_same (by k_asm) (by k_asm) hI ⟨⟨by k_mem, True.intro⟩, ?_⟩
    refine ItemsRest.zero (fun h' tk' F' N' => ?_)
    rw [shared4] at hret
    have hil := inter_len (A / 4096 ^ (4 - 4)) 4 (by omega)
    repeat' (first | (k_unfold; (try dsimp only)) | ((fail_if_success (with_reducible show wpAny _ _ (pyIter _) _ _ _)); (fail_if_success (with_reducible show LCg.CompEnd _ _ _ _ _ _ _ _ _ _ _ _ _ _)); (fail_if_success (with_reducible show wpAny _ _ (eval (Expr.SetComp _ _ _ _) _) _ _ _)); (fail_if_success (with_reducible show Exists _)); (fail_if_success (with_reducible show wpAny _ _ (call (Value.builtin "min") _) _ _ _)); (fail_if_success (with_reducible show wpAny _ _ (call (Value.builtin "str.join") _) _ _ _)); (fail_if_success (with_reducible show wpAny _ _ (exec (Stmt.For (Expr.Tuple _ _ _) _ _ _ _) _) _ _ _)); (fail_if_success (with_reducible show wpAny _ _ (call (Value.type "enumerate") _) _ _ _)); (fail_if_success (with_reducible show UnrPostW _ _ _ _ _ _ _ _)); (fail_if_success (with_reducible show UnrPost _ _ _ _ _ _ _ _ _)); (fail_if_success (with_reducible show UnrEnd _ _ _ _ _ _ _)); walk1) | ((fail_if_success (with_reducible show wpAny _ _ (pyIter _) _ _ _)); (fail_if_success (with_reducible show LCg.CompEnd _ _ _ _ _ _ _ _ _ _ _ _ _ _)); (fail_if_success (with_reducible show wpAny _ _ (eval (Expr.SetComp _ _ _ _) _) _ _ _)); (fail_if_success (with_reducible show Exists _)); (fail_if_success (with_reducible show wpAny _ _ (call (Value.builtin "min") _) _ _ _)); (fail_if_success (with_reducible show wpAny _ _ (call (Value.builtin "str.join") _) _ _ _)); (fail_if_success (with_reducible show wpAny _ _ (exec (Stmt.For (Expr.Tuple _ _ _) _ _ _ _) _) _ _ _)); (fail_if_success (with_reducible show wpAny _ _ (call (Value.type "enumerate") _) _ _ _)); (fail_if_success (with_reducible show UnrPostW _ _ _ _ _ _ _ _)); (fail_if_success (with_reducible show UnrPost _ _ _ _ _ _ _ _ _)); (fail_if_success (with_reducible show UnrEnd _ _ _ _ _ _ _)); dsimp only; walk1) | (leave1; walk_say "STEP leave1"; try dsimp only) | fail "no step")
    k_dflt (refine join_cut (cut4 A) (by k_asm) (by k_mem) rfl (.cons _ _ (.cons _ _ (.cons _ _ (.cons _ _ .nil)))) (by omega) ofS_slash ?_)
    intro t9 k9
    repeat' (first | (k_unfold; (try dsimp only)) | ((fail_if_success (with_reducible show wpAny _ _ (pyIter _) _ _ _)); (fail_if_success (with_reducible show LCg.CompEnd _ _ _ _ _ _ _ _ _ _ _ _ _ _)); (fail_if_success (with_reducible show wpAny _ _ (eval (Expr.SetComp _ _ _ _) _) _ _ _)); (fail_if_success (with_reducible show Exists _)); (fail_if_success (with_reducible show wpAny _ _ (call (Value.builtin "min") _) _ _ _)); (fail_if_success (with_reducible show wpAny _ _ (call (Value.builtin "str.join") _) _ _ _)); (fail_if_success (with_reducible show wpAny _ _ (exec (Stmt.For (Expr.Tuple _ _ _) _ _ _ _) _) _ _ _)); (fail_if_success (with_reducible show wpAny _ _ (call (Value.type "enumerate") _) _ _ _)); (fail_if_success (with_reducible show UnrPostW _ _ _ _ _ _ _ _)); (fail_if_success (with_reducible show UnrPost _ _ _ _ _ _ _ _ _)); (fail_if_success (with_reducible show UnrEnd _ _ _ _ _ _ _)); walk1) | ((fail_if_success (with_reducible show wpAny _ _ (pyIter _) _ _ _)); (fail_if_success (with_reducible show LCg.CompEnd _ _ _ _ _ _ _ _ _ _ _ _ _ _)); (fail_if_success (with_reducible show wpAny _ _ (eval (Expr.SetComp _ _ _ _) _) _ _ _)); (fail_if_success (with_reducible show Exists _)); (fail_if_success (with_reducible show wpAny _ _ (call (Value.builtin "min") _) _ _ _)); (fail_if_success (with_reducible show wpAny _ _ (call (Value.builtin "str.join") _) _ _ _)); (fail_if_success (with_reducible show wpAny _ _ (exec (Stmt.For (Expr.Tuple _ _ _) _ _ _ _) _) _ _ _)); (fail_if_success (with_reducible show wpAny _ _ (call (Value.type "enumerate") _) _ _ _)); (fail_if_success (with_reducible show UnrPostW _ _ _ _ _ _ _ _)); (fail_if_success (with_reducible show UnrPost _ _ _ _ _ _ _ _ _)); (fail_if_success (with_reducible show UnrEnd _ _ _ _ _ _ _)); dsimp only; walk1) | (leave1; walk_say "STEP leave1"; try dsimp only) | fail "no step")
    rw [slash_inter]
    exact hret _ _ _ (by k_asm) (by first | k_asm | (refine' cb_drop ?cbN ?cbS; (case cbN => assumption); (case cbS => (intro p9 hp9; (repeat (first | exact hp9 | refine List.mem_cons_of_mem _ ?_))))))
end Mine
namespace Mine
set_option maxHeartbeats 8000000 in
theorem c_meets (a b : Int) (t t' : Tok) : Ct 208 12 (0 ≤ a ∧ a ≤ b ∧ b < 2 ^ 48) [.int a t, .int b t'] (fun _ => .bool true) := by
  have : Fill PySem.Challenge.rw_rt0031_01 Mine.hd.heap_39 := by k_fill; trivial
  w_top off
  k_with_none
  k_with "call ref" => ((k_here; k_dflt (refine' Ct.use (c_path4 _ _ _) ?zqk1 ?zqk2 ?zqk3 ?zqk4 ?zqk5 ?zqkK ?zqkp ?zqkd ?zqku ?_; (case zqk1 => k_asm); (case zqk2 => k_asm); (case zqk3 => k_asm); (case zqk4 => k_asm); (case zqk5 => k_asm); (case zqkK => first | exact rfl | assumption); (case zqkp => first | exact True.intro | assumption | omega | (refine ⟨?_, ?_⟩ <;> omega) | fail "ct: pre"); (case zqkd => ktr_room); (case zqku => ktr_units); k_whole; intro t9 h9 tk9 F9 N9; (try dsimp only); (try k_fold))))
  k_with "call ref" => ((k_here; k_dflt (refine' Ct.use (c_plainS _ _ _ _) ?zqk1 ?zqk2 ?zqk3 ?zqk4 ?zqk5 ?zqkK ?zqkp ?zqkd ?zqku ?_; (case zqk1 => k_asm); (case zqk2 => k_asm); (case zqk3 => k_asm); (case zqk4 => k_asm); (case zqk5 => k_asm); (case zqkK => first | exact rfl | assumption); (case zqkp => first | exact True.intro | assumption | omega | (refine ⟨?_, ?_⟩ <;> omega) | fail "ct: pre"); (case zqkd => ktr_room); (case zqku => ktr_units); k_whole; intro t9 h9 tk9 F9 N9; (try dsimp only); (try k_fold))))
  k_with "call builtin:issubclass" => ((k_here; k_dflt (refine' issub_pair ?zqk1 ?_; (case zqk1 => exact kto_N (by k_asm) (by k_mem)); k_whole; intro _; (try dsimp only))))
  k_with "call type:type" => ((k_here; (with_reducible show wpAny _ _ (call _ [Value.bytes _ _]) _ _ _); k_dflt (refine call_type_of (Tx := "bytes") rfl (by decide +kernel) ?_)))
  k_with "eval ListComp" => ((k_here; (with_reducible show wpAny _ _ (eval (Expr.ListComp _ [Comprehension.mk _ _ [] _] _ _) _) _ _ _); k_dflt (refine lc_gen (F₀ := by k_asm) (by with_unfolding_all rfl) (by decide) (by rfl) (by decide) (by rfl) ?_)))
  k_with "eval ListComp" => ((k_here; (with_reducible show wpAny _ _ (eval (Expr.ListComp _ [Comprehension.mk _ _ [_] _] _ _) _) _ _ _); k_dflt (refine lc_genT (F₀ := by k_asm) (by with_unfolding_all rfl) (by decide) (by rfl) (by decide) (by rfl) ?_)))
  k_with "exec Assign cons ListComp" => ((k_here; k_dflt (refine lc_genA (F₀ := by k_asm) (by rfl) (by with_unfolding_all rfl) (by with_unfolding_all rfl) (by decide) (by rfl) (by decide) (by rfl) (by rfl) (by rfl) ?_)))
  k_with "CompEnd" => ((refine compEnd_at (by k_asm) (by k_asm) (by intro p9 hp9; (repeat (first | exact hp9 | refine List.mem_cons_of_mem _ ?_))) (by first | assumption | (simp only [LCg.Off3, and_true]; assumption) | lcg_off) (by first | exact trivial | assumption | exact Or.inr ⟨_, by k_mem, rfl, _, rfl⟩) ?_))
  k_with "call builtin:chr" => ((k_here; refine chr_byte ?_; intro t9; (try dsimp only)))
  k_with "call builtin:str.join" => ((k_here; (with_reducible show wpAny _ _ (call (Value.builtin "str.join") [Value.str _ _, Value.ref _]) _ _ _); k_dflt (refine' join_led ?zqN ?zqm ?zqi ?zqs ?zqw ?_; (case zqN => k_asm); (case zqm => k_mem); (case zqi => assumption); (case zqs => decide); (case zqw => first | assumption | omega); k_whole; intro t9 k9; (try dsimp only))))
  k_with "exec For Name Name cons nil" => ((k_here; (rename Fr _ _ _ _ => lF'); (with_unfolding_all refine' For_invVF lF' ?zqk1 ?zqk2 ?_; (case zqk1 => exact rfl); (case zqk2 => exact rfl); k_whole)))
  k_with "call builtin:str.join" => ((k_here; (with_reducible show wpAny _ _ (call (Value.builtin "str.join") [Value.str _ _, Value.ref _]) _ _ _); k_dflt (refine' join_chars_led ?zqN ?zqm ?zqi ?zqw ?zqx ?_; (case zqN => k_asm); (case zqm => k_mem); (case zqi => assumption); (case zqw => first | assumption | omega | ((try simp only [List.length_append, List.length_replicate, List.length_cons, List.length_nil]); omega)); (case zqx => first | with_reducible exact ofS_slash | with_reducible exact ofS_A | with_reducible exact ofS_nil | with_reducible exact ofS_dot | with_reducible exact ofS_hex | with_reducible exact ofS_b64 | with_reducible exact mkS_rfl _); k_whole; intro t9 k9; (try dsimp only))))
  k_with "call builtin:len" => ((k_here; (with_reducible show wpAny _ _ (call _ [Value.str _ _]) _ _ _); k_dflt (refine' len_mk ?zqx ?zql ?_; (case zqx => first | with_reducible exact ofS_slash | with_reducible exact ofS_A | with_reducible exact ofS_nil | with_reducible exact ofS_dot | with_reducible exact ofS_hex | with_reducible exact ofS_b64 | with_reducible exact mkS_rfl _); (case zql => first | assumption | omega | ((try simp only [List.length_append, List.length_replicate, List.length_cons, List.length_nil]); omega)); k_whole; intro t9 k9; (try dsimp only))))
  k_with "truthy str" => ((k_here; k_dflt (refine' truthy_mk ?zqx ?zql ?_; (case zqx => first | with_reducible exact ofS_slash | with_reducible exact ofS_A | with_reducible exact ofS_nil | with_reducible exact ofS_dot | with_reducible exact ofS_hex | with_reducible exact ofS_b64 | with_reducible exact mkS_rfl _); (case zql => first | assumption | omega | ((try simp only [List.length_append, List.length_replicate, List.length_cons, List.length_nil]); omega)); k_whole; intro k9; (try dsimp only))))
  k_with "binaryOp Add str str" => ((k_here; k_dflt (refine' add_mk ?zqx ?zqy ?zql ?_; (case zqx => first | with_reducible exact ofS_slash | with_reducible exact ofS_A | with_reducible exact ofS_nil | with_reducible exact ofS_dot | with_reducible exact ofS_hex | with_reducible exact ofS_b64 | with_reducible exact mkS_rfl _); (case zqy => first | with_reducible exact ofS_slash | with_reducible exact ofS_A | with_reducible exact ofS_nil | with_reducible exact ofS_dot | with_reducible exact ofS_hex | with_reducible exact ofS_b64 | with_reducible exact mkS_rfl _); (case zql => first | assumption | omega | ((try simp only [List.length_append, List.length_replicate, List.length_cons, List.length_nil]); omega)); k_whole; intro t9 k9; (try dsimp only))))
  k_with "inplaceOp Add str str" => ((k_here; k_dflt (refine' iadd_mk ?zqx ?zqy ?zql ?_; (case zqx => first | with_reducible exact ofS_slash | with_reducible exact ofS_A | with_reducible exact ofS_nil | with_reducible exact ofS_dot | with_reducible exact ofS_hex | with_reducible exact ofS_b64 | with_reducible exact mkS_rfl _); (case zqy => first | with_reducible exact ofS_slash | with_reducible exact ofS_A | with_reducible exact ofS_nil | with_reducible exact ofS_dot | with_reducible exact ofS_hex | with_reducible exact ofS_b64 | with_reducible exact mkS_rfl _); (case zql => first | assumption | omega | ((try simp only [List.length_append, List.length_replicate, List.length_cons, List.length_nil]); omega)); k_whole; intro t9 k9; (try dsimp only))))
  k_with "binaryOp Mult str int" => ((k_here; k_dflt (refine' mul_mk ?zqx ?zqa ?zqb ?_; (case zqx => first | with_reducible exact ofS_slash | with_reducible exact ofS_A | with_reducible exact ofS_nil | with_reducible exact ofS_dot | with_reducible exact ofS_hex | with_reducible exact ofS_b64 | with_reducible exact mkS_rfl _); (case zqa => first | assumption | omega | ((try simp only [List.length_append, List.length_replicate, List.length_cons, List.length_nil]); omega)); (case zqb => first | assumption | omega | ((try simp only [List.length_append, List.length_replicate, List.length_cons, List.length_nil]); omega)); k_whole; intro t9 k9; (try dsimp only))))
  k_with "compareOp Eq str str" => ((k_here; k_dflt (refine' eq_mk ?zqx ?zqy ?_; (case zqx => first | with_reducible exact ofS_slash | with_reducible exact ofS_A | with_reducible exact ofS_nil | with_reducible exact ofS_dot | with_reducible exact ofS_hex | with_reducible exact ofS_b64 | with_reducible exact mkS_rfl _); (case zqy => first | with_reducible exact ofS_slash | with_reducible exact ofS_A | with_reducible exact ofS_nil | with_reducible exact ofS_dot | with_reducible exact ofS_hex | with_reducible exact ofS_b64 | with_reducible exact mkS_rfl _); k_whole)))
  k_with "subscriptTail Name Slice str ref" => ((k_here; (with_reducible rename Fr _ _ _ _ => F'); (with_reducible rename News _ _ _ _ => N'); first
    | ((refine slice_ss (s := ⟨_, _, _, _, _⟩) F' N' (by first | with_reducible exact ofS_slash | with_reducible exact ofS_A | with_reducible exact ofS_nil | with_reducible exact ofS_dot | with_reducible exact ofS_hex | with_reducible exact ofS_b64 | with_reducible exact mkS_rfl _) (by first | assumption | omega | ((try simp only [List.length_append, List.length_replicate, List.length_cons, List.length_nil]); omega)) (by first | assumption | omega | ((try simp only [List.length_append, List.length_replicate, List.length_cons, List.length_nil]); omega)) (by first | assumption | omega | ((try simp only [List.length_append, List.length_replicate, List.length_cons, List.length_nil]); omega)) ?_); intro _ _ _ _ _; (try dsimp only))
    | ((refine slice_ns (s := ⟨_, _, _, _, _⟩) F' N' (by first | with_reducible exact ofS_slash | with_reducible exact ofS_A | with_reducible exact ofS_nil | with_reducible exact ofS_dot | with_reducible exact ofS_hex | with_reducible exact ofS_b64 | with_reducible exact mkS_rfl _) (by first | assumption | omega | ((try simp only [List.length_append, List.length_replicate, List.length_cons, List.length_nil]); omega)) (by first | assumption | omega | ((try simp only [List.length_append, List.length_replicate, List.length_cons, List.length_nil]); omega)) ?_); intro _ _ _ _ _; (try dsimp only))
    | ((refine slice_sn (s := ⟨_, _, _, _, _⟩) F' N' (by first | with_reducible exact ofS_slash | with_reducible exact ofS_A | with_reducible exact ofS_nil | with_reducible exact ofS_dot | with_reducible exact ofS_hex | with_reducible exact ofS_b64 | with_reducible exact mkS_rfl _) (by first | assumption | omega | ((try simp only [List.length_append, List.length_replicate, List.length_cons, List.length_nil]); omega)) (by first | assumption | omega | ((try simp only [List.length_append, List.length_replicate, List.length_cons, List.length_nil]); omega)) ?_); intro _ _ _ _ _; (try dsimp only))))
  k_with "call ref" => ((k_here; (with_reducible show wpAny _ _ (call _ (_ :: (_ ++ []))) _ _ _); rw [List.append_nil]))
  k_with "StarOf ref" => ((k_here; k_dflt (refine' star_seq ?zqk1 ?zqk2 ?zqm ?zqc ?zqd ?zqT ?zqe ?zqz ?_; (case zqk1 => k_asm); (case zqk2 => k_asm); (case zqm => k_mem); (case zqc => exact rfl); (case zqd => exact rfl); (case zqT => first | exact .inl rfl | exact .inr rfl); (case zqe => exact rfl); (case zqz => assumption); k_whole); intro h' F' N'; (try k_sweep); try dsimp only [List.nil_append, List.cons_append]))
  k_with "subscriptTail" => ((k_here; (with_reducible show wpAny _ _ (subscriptTail _ _ (Value.str _ _) (Value.int _ _)) _ _ _); k_dflt (refine' tail_of_ItemOn (item_mk ?zqx ?zql ?zqa ?zqb ?_) ?zqhs ?zqht; (case zqx => first | with_reducible exact ofS_slash | with_reducible exact ofS_A | with_reducible exact ofS_nil | with_reducible exact ofS_dot | with_reducible exact ofS_hex | with_reducible exact ofS_b64 | with_reducible exact mkS_rfl _); (case zql => decide); (case zqa => exact fmod_lo (by decide)); (case zqb => exact fmod_hi (by decide) (by decide)); (case zqhs => with_unfolding_all rfl); (case zqht => intro _; with_unfolding_all rfl); intro t9 k9; (try dsimp only))))
  k_with "binaryOp FloorDiv int int" => ((k_here; (with_reducible show wpAny _ _ (binaryOp _ _ (Value.int (_ ^ _) _)) _ _ _); refine div_pow (by decide) (by decide) (by omega) ?_))
  k_with "compareOp NotEq str str" => ((k_here; k_dflt (refine' ne_mk ?zqx ?zqy ?_; (case zqx => first | with_reducible exact ofS_slash | with_reducible exact ofS_A | with_reducible exact ofS_nil | with_reducible exact ofS_dot | with_reducible exact ofS_hex | with_reducible exact ofS_b64 | with_reducible exact mkS_rfl _); (case zqy => first | with_reducible exact ofS_slash | with_reducible exact ofS_A | with_reducible exact ofS_nil | with_reducible exact ofS_dot | with_reducible exact ofS_hex | with_reducible exact ofS_b64 | with_reducible exact mkS_rfl _); k_whole)))
  k_with "binaryOp Pow int int" => ((k_here; refine pow_int_small (by omega) (by omega) (by decide) ?_))
  k_with "call ref" => ((k_here; k_dflt (refine' CtN.use (c_common _ _ _ _ _ _) ?zqk1 ?zqk2 ?zqk3 ?zqk4 ?zqk5 ?zqkK ?zqkp ?zqkn ?zqkd ?zqku ?_; (case zqk1 => k_asm); (case zqk2 => k_asm); (case zqk3 => k_asm); (case zqk4 => k_asm); (case zqk5 => k_asm); (case zqkK => first | exact rfl | assumption); (case zqkp => first | exact True.intro | assumption | omega | (refine ⟨?_, ?_⟩ <;> omega) | fail "ct: pre"); (case zqkn => k_mem); (case zqkd => ktr_room); (case zqku => ktr_units); k_whole; intro t9 h9 tk9 F9 N9; (try dsimp only); (try k_fold))))
  k_with "call builtin:len" => ((k_here; (with_reducible show wpAny _ _ (call _ [Value.ref _]) _ _ _); k_dflt (refine' len_led ?zqN ?zqm ?zqn ?zql ?_; (case zqN => k_asm); (case zqm => k_mem); (case zqn => assumption); (case zql => omega); k_whole; intro t9 k9; (try dsimp only))))
  k_with "binaryOp FloorDiv int int" => ((k_here; k_dflt (refine div_powN (b := 4096) (by decide) (by decide) (by assumption) (by omega) ?_)))
  unfold Ct; intros; rename_i hpre hd hu hret
  refine wpAny_call ?_
  obtain ⟨A, rfl⟩ : ∃ A : Nat, a = (A : Int) := ⟨a.toNat, by omega⟩
  obtain ⟨B, rfl⟩ : ∃ B : Nat, b = (B : Int) := ⟨b.toNat, by omega⟩
  have hB : B < 2 ^ 48 := by omega
  have hA : A < 2 ^ 48 := by omega
  have hAB : A ≤ B ∧ B < 2 ^ 48 := by omega
  k_dflt cell_enter
  repeat' (first | (k_unfold; (try dsimp only)) | ((fail_if_success (with_reducible show wpAny _ _ (pyIter _) _ _ _)); (fail_if_success (with_reducible show UnrPost _ _ _ _ _ _ _ _ _)); (fail_if_success (with_reducible show UnrEnd _ _ _ _ _ _ _)); walk1) | ((fail_if_success (with_reducible show wpAny _ _ (pyIter _) _ _ _)); (fail_if_success (with_reducible show UnrPost _ _ _ _ _ _ _ _ _)); (fail_if_success (with_reducible show UnrEnd _ _ _ _ _ _ _)); dsimp only; walk1) | (leave1; walk_say "STEP leave1"; try dsimp only) | fail "no step")
  rename IsRange _ _ _ _ _ _ _ _ => hr9
  refine srcT_range (n := 4) rfl hr9 (by decide) (by decide) (by rw [sizeLine_eq]; omega) (by k_asm) (by k_asm) ?_
  intro s₂ hs; obtain ⟨g9, rfl⟩ := hs
  refine restT_count (fun i => decide (A / 4096 ^ i = B / 4096 ^ i)) ?_ ?_
  · intro i v I oI C oC D m₂ ys h tk E' hi hv hC hx F N off ne
    obtain ⟨t9, rfl⟩ := hv
    have hki : (0 + (i : Int) * 1).toNat = i := by omega
    repeat' (first | (k_unfold; (try dsimp only)) | ((fail_if_success (with_reducible show wpAny _ _ (pyIter _) _ _ _)); (fail_if_success (with_reducible show UnrPost _ _ _ _ _ _ _ _ _)); (fail_if_success (with_reducible show UnrEnd _ _ _ _ _ _ _)); walk1) | ((fail_if_success (with_reducible show wpAny _ _ (pyIter _) _ _ _)); (fail_if_success (with_reducible show UnrPost _ _ _ _ _ _ _ _ _)); (fail_if_success (with_reducible show UnrEnd _ _ _ _ _ _ _)); dsimp only; walk1) | (leave1; walk_say "STEP leave1"; try dsimp only) | fail "no step")
    all_goals first
      | exact True.intro
      | (generalize A / 4096 ^ i = x9; generalize B / 4096 ^ i = y9; rw [Bool.eq_iff_iff, beq_iff_eq, decide_eq_true_iff]; constructor <;> intro h9 <;> omega)
  · intro ys hys
    have hsh : ys.length = sharedN A B := hys
    have hsl := shared_le A B
    have hki : (4 - (sharedN A B : Int)).toNat = 4 - sharedN A B := by omega
    have hqs : sharedN A B ≤ 4 ∧ A / 4096 ^ (4 - sharedN A B) < 2 ^ 48 := ⟨hsl, Nat.lt_of_le_of_lt (Nat.div_le_self _ _) hA⟩
    generalize hg : sharedN A B = sh at hsh hsl hki hqs
    repeat' (first | (k_unfold; (try dsimp only)) | ((fail_if_success (with_reducible show wpAny _ _ (pyIter _) _ _ _)); (fail_if_success (with_reducible show UnrPost _ _ _ _ _ _ _ _ _)); (fail_if_success (with_reducible show UnrEnd _ _ _ _ _ _ _)); walk1) | ((fail_if_success (with_reducible show wpAny _ _ (pyIter _) _ _ _)); (fail_if_success (with_reducible show UnrPost _ _ _ _ _ _ _ _ _)); (fail_if_success (with_reducible show UnrEnd _ _ _ _ _ _ _)); dsimp only; walk1) | (leave1; walk_say "STEP leave1"; try dsimp only) | fail "no step")
    subst hg
    rw [decide_eq_true rfl]
    exact hret 0 _ _ (by k_asm) (by first | k_asm | (refine' cb_drop ?cbN ?cbS; (case cbN => assumption); (case cbS => (intro p9 hp9; (repeat (first | exact hp9 | refine List.mem_cons_of_mem _ ?_))))))
end Mine
namespace Mine
set_option maxHeartbeats 8000000 in
theorem law_holds : PySem.Challenge.rw_rt0031_01.Holds := hd (by
  w_top off
  k_with_none
  k_with "call ref" => ((k_here; k_dflt (refine' Ct.use (c_climbs _ _) ?zqk1 ?zqk2 ?zqk3 ?zqk4 ?zqk5 ?zqkK ?zqkp ?zqkd ?zqku ?_; (case zqk1 => k_asm); (case zqk2 => k_asm); (case zqk3 => k_asm); (case zqk4 => k_asm); (case zqk5 => k_asm); (case zqkK => first | exact rfl | assumption); (case zqkp => first | exact True.intro | assumption | omega | (refine ⟨?_, ?_⟩ <;> omega) | fail "ct: pre"); (case zqkd => ktr_room); (case zqku => ktr_units); k_whole; intro t9 h9 tk9 F9 N9; (try dsimp only); (try k_fold))))
  k_with "call ref" => ((k_here; k_dflt (refine' Ct.use (c_meets _ _ _ _) ?zqk1 ?zqk2 ?zqk3 ?zqk4 ?zqk5 ?zqkK ?zqkp ?zqkd ?zqku ?_; (case zqk1 => k_asm); (case zqk2 => k_asm); (case zqk3 => k_asm); (case zqk4 => k_asm); (case zqk5 => k_asm); (case zqkK => first | exact rfl | assumption); (case zqkp => first | exact True.intro | assumption | omega | (refine ⟨?_, ?_⟩ <;> omega) | fail "ct: pre"); (case zqkd => ktr_room); (case zqku => ktr_units); k_whole; intro t9 h9 tk9 F9 N9; (try dsimp only); (try k_fold))))
  k_with "call builtin:issubclass" => ((k_here; k_dflt (refine' issub_pair ?zqk1 ?_; (case zqk1 => exact kto_N (by k_asm) (by k_mem)); k_whole; intro _; (try dsimp only))))
  k_with "call type:type" => ((k_here; (with_reducible show wpAny _ _ (call _ [Value.bytes _ _]) _ _ _); k_dflt (refine call_type_of (Tx := "bytes") rfl (by decide +kernel) ?_)))
  k_with "eval ListComp" => ((k_here; (with_reducible show wpAny _ _ (eval (Expr.ListComp _ [Comprehension.mk _ _ [] _] _ _) _) _ _ _); k_dflt (refine lc_gen (F₀ := by k_asm) (by with_unfolding_all rfl) (by decide) (by rfl) (by decide) (by rfl) ?_)))
  k_with "eval ListComp" => ((k_here; (with_reducible show wpAny _ _ (eval (Expr.ListComp _ [Comprehension.mk _ _ [_] _] _ _) _) _ _ _); k_dflt (refine lc_genT (F₀ := by k_asm) (by with_unfolding_all rfl) (by decide) (by rfl) (by decide) (by rfl) ?_)))
  k_with "exec Assign cons ListComp" => ((k_here; k_dflt (refine lc_genA (F₀ := by k_asm) (by rfl) (by with_unfolding_all rfl) (by with_unfolding_all rfl) (by decide) (by rfl) (by decide) (by rfl) (by rfl) (by rfl) ?_)))
  k_with "CompEnd" => ((refine compEnd_at (by k_asm) (by k_asm) (by intro p9 hp9; (repeat (first | exact hp9 | refine List.mem_cons_of_mem _ ?_))) (by first | assumption | (simp only [LCg.Off3, and_true]; assumption) | lcg_off) (by first | exact trivial | assumption | exact Or.inr ⟨_, by k_mem, rfl, _, rfl⟩) ?_))
  k_with "call builtin:chr" => ((k_here; refine chr_byte ?_; intro t9; (try dsimp only)))
  k_with "call builtin:str.join" => ((k_here; (with_reducible show wpAny _ _ (call (Value.builtin "str.join") [Value.str _ _, Value.ref _]) _ _ _); k_dflt (refine' join_led ?zqN ?zqm ?zqi ?zqs ?zqw ?_; (case zqN => k_asm); (case zqm => k_mem); (case zqi => assumption); (case zqs => decide); (case zqw => first | assumption | omega); k_whole; intro t9 k9; (try dsimp only))))
  k_with "exec For Name Name cons nil" => ((k_here; (rename Fr _ _ _ _ => lF'); (with_unfolding_all refine' For_invVF lF' ?zqk1 ?zqk2 ?_; (case zqk1 => exact rfl); (case zqk2 => exact rfl); k_whole)))
  k_with "call builtin:str.join" => ((k_here; (with_reducible show wpAny _ _ (call (Value.builtin "str.join") [Value.str _ _, Value.ref _]) _ _ _); k_dflt (refine' join_chars_led ?zqN ?zqm ?zqi ?zqw ?zqx ?_; (case zqN => k_asm); (case zqm => k_mem); (case zqi => assumption); (case zqw => first | assumption | omega | ((try simp only [List.length_append, List.length_replicate, List.length_cons, List.length_nil]); omega)); (case zqx => first | with_reducible exact ofS_slash | with_reducible exact ofS_A | with_reducible exact ofS_nil | with_reducible exact ofS_dot | with_reducible exact ofS_hex | with_reducible exact ofS_b64 | with_reducible exact mkS_rfl _); k_whole; intro t9 k9; (try dsimp only))))
  k_with "call builtin:len" => ((k_here; (with_reducible show wpAny _ _ (call _ [Value.str _ _]) _ _ _); k_dflt (refine' len_mk ?zqx ?zql ?_; (case zqx => first | with_reducible exact ofS_slash | with_reducible exact ofS_A | with_reducible exact ofS_nil | with_reducible exact ofS_dot | with_reducible exact ofS_hex | with_reducible exact ofS_b64 | with_reducible exact mkS_rfl _); (case zql => first | assumption | omega | ((try simp only [List.length_append, List.length_replicate, List.length_cons, List.length_nil]); omega)); k_whole; intro t9 k9; (try dsimp only))))
  k_with "truthy str" => ((k_here; k_dflt (refine' truthy_mk ?zqx ?zql ?_; (case zqx => first | with_reducible exact ofS_slash | with_reducible exact ofS_A | with_reducible exact ofS_nil | with_reducible exact ofS_dot | with_reducible exact ofS_hex | with_reducible exact ofS_b64 | with_reducible exact mkS_rfl _); (case zql => first | assumption | omega | ((try simp only [List.length_append, List.length_replicate, List.length_cons, List.length_nil]); omega)); k_whole; intro k9; (try dsimp only))))
  k_with "binaryOp Add str str" => ((k_here; k_dflt (refine' add_mk ?zqx ?zqy ?zql ?_; (case zqx => first | with_reducible exact ofS_slash | with_reducible exact ofS_A | with_reducible exact ofS_nil | with_reducible exact ofS_dot | with_reducible exact ofS_hex | with_reducible exact ofS_b64 | with_reducible exact mkS_rfl _); (case zqy => first | with_reducible exact ofS_slash | with_reducible exact ofS_A | with_reducible exact ofS_nil | with_reducible exact ofS_dot | with_reducible exact ofS_hex | with_reducible exact ofS_b64 | with_reducible exact mkS_rfl _); (case zql => first | assumption | omega | ((try simp only [List.length_append, List.length_replicate, List.length_cons, List.length_nil]); omega)); k_whole; intro t9 k9; (try dsimp only))))
  k_with "inplaceOp Add str str" => ((k_here; k_dflt (refine' iadd_mk ?zqx ?zqy ?zql ?_; (case zqx => first | with_reducible exact ofS_slash | with_reducible exact ofS_A | with_reducible exact ofS_nil | with_reducible exact ofS_dot | with_reducible exact ofS_hex | with_reducible exact ofS_b64 | with_reducible exact mkS_rfl _); (case zqy => first | with_reducible exact ofS_slash | with_reducible exact ofS_A | with_reducible exact ofS_nil | with_reducible exact ofS_dot | with_reducible exact ofS_hex | with_reducible exact ofS_b64 | with_reducible exact mkS_rfl _); (case zql => first | assumption | omega | ((try simp only [List.length_append, List.length_replicate, List.length_cons, List.length_nil]); omega)); k_whole; intro t9 k9; (try dsimp only))))
  k_with "binaryOp Mult str int" => ((k_here; k_dflt (refine' mul_mk ?zqx ?zqa ?zqb ?_; (case zqx => first | with_reducible exact ofS_slash | with_reducible exact ofS_A | with_reducible exact ofS_nil | with_reducible exact ofS_dot | with_reducible exact ofS_hex | with_reducible exact ofS_b64 | with_reducible exact mkS_rfl _); (case zqa => first | assumption | omega | ((try simp only [List.length_append, List.length_replicate, List.length_cons, List.length_nil]); omega)); (case zqb => first | assumption | omega | ((try simp only [List.length_append, List.length_replicate, List.length_cons, List.length_nil]); omega)); k_whole; intro t9 k9; (try dsimp only))))
  k_with "compareOp Eq str str" => ((k_here; k_dflt (refine' eq_mk ?zqx ?zqy ?_; (case zqx => first | with_reducible exact ofS_slash | with_reducible exact ofS_A | with_reducible exact ofS_nil | with_reducible exact ofS_dot | with_reducible exact ofS_hex | with_reducible exact ofS_b64 | with_reducible exact mkS_rfl _); (case zqy => first | with_reducible exact ofS_slash | with_reducible exact ofS_A | with_reducible exact ofS_nil | with_reducible exact ofS_dot | with_reducible exact ofS_hex | with_reducible exact ofS_b64 | with_reducible exact mkS_rfl _); k_whole)))
  k_with "subscriptTail Name Slice str ref" => ((k_here; (with_reducible rename Fr _ _ _ _ => F'); (with_reducible rename News _ _ _ _ => N'); first
    | ((refine slice_ss (s := ⟨_, _, _, _, _⟩) F' N' (by first | with_reducible exact ofS_slash | with_reducible exact ofS_A | with_reducible exact ofS_nil | with_reducible exact ofS_dot | with_reducible exact ofS_hex | with_reducible exact ofS_b64 | with_reducible exact mkS_rfl _) (by first | assumption | omega | ((try simp only [List.length_append, List.length_replicate, List.length_cons, List.length_nil]); omega)) (by first | assumption | omega | ((try simp only [List.length_append, List.length_replicate, List.length_cons, List.length_nil]); omega)) (by first | assumption | omega | ((try simp only [List.length_append, List.length_replicate, List.length_cons, List.length_nil]); omega)) ?_); intro _ _ _ _ _; (try dsimp only))
    | ((refine slice_ns (s := ⟨_, _, _, _, _⟩) F' N' (by first | with_reducible exact ofS_slash | with_reducible exact ofS_A | with_reducible exact ofS_nil | with_reducible exact ofS_dot | with_reducible exact ofS_hex | with_reducible exact ofS_b64 | with_reducible exact mkS_rfl _) (by first | assumption | omega | ((try simp only [List.length_append, List.length_replicate, List.length_cons, List.length_nil]); omega)) (by first | assumption | omega | ((try simp only [List.length_append, List.length_replicate, List.length_cons, List.length_nil]); omega)) ?_); intro _ _ _ _ _; (try dsimp only))
    | ((refine slice_sn (s := ⟨_, _, _, _, _⟩) F' N' (by first | with_reducible exact ofS_slash | with_reducible exact ofS_A | with_reducible exact ofS_nil | with_reducible exact ofS_dot | with_reducible exact ofS_hex | with_reducible exact ofS_b64 | with_reducible exact mkS_rfl _) (by first | assumption | omega | ((try simp only [List.length_append, List.length_replicate, List.length_cons, List.length_nil]); omega)) (by first | assumption | omega | ((try simp only [List.length_append, List.length_replicate, List.length_cons, List.length_nil]); omega)) ?_); intro _ _ _ _ _; (try dsimp only))))
  k_with "call ref" => ((k_here; (with_reducible show wpAny _ _ (call _ (_ :: (_ ++ []))) _ _ _); rw [List.append_nil]))
  k_with "StarOf ref" => ((k_here; k_dflt (refine' star_seq ?zqk1 ?zqk2 ?zqm ?zqc ?zqd ?zqT ?zqe ?zqz ?_; (case zqk1 => k_asm); (case zqk2 => k_asm); (case zqm => k_mem); (case zqc => exact rfl); (case zqd => exact rfl); (case zqT => first | exact .inl rfl | exact .inr rfl); (case zqe => exact rfl); (case zqz => assumption); k_whole); intro h' F' N'; (try k_sweep); try dsimp only [List.nil_append, List.cons_append]))
  k_with "subscriptTail" => ((k_here; (with_reducible show wpAny _ _ (subscriptTail _ _ (Value.str _ _) (Value.int _ _)) _ _ _); k_dflt (refine' tail_of_ItemOn (item_mk ?zqx ?zql ?zqa ?zqb ?_) ?zqhs ?zqht; (case zqx => first | with_reducible exact ofS_slash | with_reducible exact ofS_A | with_reducible exact ofS_nil | with_reducible exact ofS_dot | with_reducible exact ofS_hex | with_reducible exact ofS_b64 | with_reducible exact mkS_rfl _); (case zql => decide); (case zqa => exact fmod_lo (by decide)); (case zqb => exact fmod_hi (by decide) (by decide)); (case zqhs => with_unfolding_all rfl); (case zqht => intro _; with_unfolding_all rfl); intro t9 k9; (try dsimp only))))
  k_with "binaryOp FloorDiv int int" => ((k_here; (with_reducible show wpAny _ _ (binaryOp _ _ (Value.int (_ ^ _) _)) _ _ _); refine div_pow (by decide) (by decide) (by omega) ?_))
  k_with "compareOp NotEq str str" => ((k_here; k_dflt (refine' ne_mk ?zqx ?zqy ?_; (case zqx => first | with_reducible exact ofS_slash | with_reducible exact ofS_A | with_reducible exact ofS_nil | with_reducible exact ofS_dot | with_reducible exact ofS_hex | with_reducible exact ofS_b64 | with_reducible exact mkS_rfl _); (case zqy => first | with_reducible exact ofS_slash | with_reducible exact ofS_A | with_reducible exact ofS_nil | with_reducible exact ofS_dot | with_reducible exact ofS_hex | with_reducible exact ofS_b64 | with_reducible exact mkS_rfl _); k_whole)))
  k_with "binaryOp Pow int int" => ((k_here; refine pow_int_small (by omega) (by omega) (by decide) ?_))
  k_with "binaryOp Mult ref int" => ((k_here; k_dflt (refine' mul_two ?zqF ?zqN ?zqm ?_; (case zqF => k_asm); (case zqN => k_asm); (case zqm => k_mem); k_whole; intro h9 D9 F9 N9; (try dsimp only); (try k_sweep))))
  k_with "compareOp Eq ref ref" => ((k_here; k_dflt (refine' eq_strs ?zqa ?zqb ?zqi ?zqj ?zqu ?zqe ?zqo ?_; (case zqa => exact News.isList (by k_asm) (by k_mem)); (case zqb => exact News.isList (by k_asm) (by k_mem)); (case zqi => (repeat constructor)); (case zqj => (repeat constructor)); (case zqu => ktr_units); (case zqe => first | rfl | (simp only [ofS_slash, ofS_nil]; done) | (simp only [ofS_slash, ofS_nil]; rfl) | (rw [ofS_slash, ofS_nil]; rfl)); (case zqo => first | exact all2 (pathL_ok _ _) (pathL_ok _ _) | exact all3 (pathL_ok _ _) (pathL_ok _ _) (base_ok _ _)); k_whole)))
  k_with "compareOp NotEq ref ref" => ((k_here; k_dflt (refine' ne_strs ?zqa ?zqb ?zqi ?zqj ?zqu ?zqe ?zqo ?_; (case zqa => exact News.isList (by k_asm) (by k_mem)); (case zqb => exact News.isList (by k_asm) (by k_mem)); (case zqi => (repeat constructor)); (case zqj => (repeat constructor)); (case zqu => ktr_units); (case zqe => first | rfl | (simp only [ofS_slash, ofS_nil]; done) | (simp only [ofS_slash, ofS_nil]; rfl) | (rw [ofS_slash, ofS_nil]; rfl)); (case zqo => first | exact all2 (pathL_ok _ _) (pathL_ok _ _) | exact all3 (pathL_ok _ _) (pathL_ok _ _) (base_ok _ _)); k_whole)))
  k_with "call builtin:len" => ((k_here; (with_reducible show wpAny _ _ (call _ [Value.ref _]) _ _ _); k_dflt (refine' len_ints ?zqN ?zqm ?zqi ?zqn ?zql ?_; (case zqN => k_asm); (case zqm => k_mem); (case zqi => assumption); (case zqn => assumption); (case zql => omega); k_whole; intro t9 k9; (try dsimp only))))
  k_with "subscriptTail Name Name ref int" => ((k_here; (with_reducible show wpAny _ _ (subscriptTail _ _ (Value.ref _) (Value.int _ _)) _ _ _); k_dflt (refine' item_ints ?zqN ?zqm ?zqi ?zqa ?zqj ?zqb ?zql ?_ ?zqhs ?zqhg; (case zqN => k_asm); (case zqm => k_mem); (case zqi => assumption); (case zqa => omega); (case zqj => assumption); (case zqb => omega); (case zql => omega); (case zqhs => with_unfolding_all rfl); (case zqhg => intro _; with_unfolding_all rfl); k_whole; intro t9; (try dsimp only))))
  k_with "subscriptTail Name BinOp ref int" => ((k_here; (with_reducible show wpAny _ _ (subscriptTail _ _ (Value.ref _) (Value.int _ _)) _ _ _); k_dflt (refine' item_ints ?zqN ?zqm ?zqi ?zqa ?zqj ?zqb ?zql ?_ ?zqhs ?zqhg; (case zqN => k_asm); (case zqm => k_mem); (case zqi => assumption); (case zqa => omega); (case zqj => assumption); (case zqb => omega); (case zql => omega); (case zqhs => with_unfolding_all rfl); (case zqhg => intro _; with_unfolding_all rfl); k_whole; intro t9; (try dsimp only))))
  w_strict (
  k_go0
  (all_goals try k_fold)
  repeat' (first | (k_unfold; (try dsimp only)) | ((fail_if_success (with_reducible show wpAny _ _ (pyIter _) _ _ _)); walk1) | ((fail_if_success (with_reducible show wpAny _ _ (pyIter _) _ _ _)); dsimp only; walk1) | (leave1; walk_say "STEP leave1"; try dsimp only) | fail "no step")
  rename IntsAre _ (List.take 4 _ ++ _) => hI9
  obtain ⟨Ls, hI8, hLn⟩ := ints_pack hI9 rfl
  clear hI9
  have hI9 := hI8
  clear hI8
  have hzl := hI9.length
  refine' src_list ?zh ?zl ?zz ?zF ?zN ?_
  (case zF => k_asm)
  (case zN => k_asm)
  (case zh => rfl)
  (case zl => exact Or.inr ⟨_, by k_mem, rfl, _, rfl⟩)
  (case zz => exact Nat.le_trans (Nat.le_of_eq hzl) (by rw [sizeLine_eq]; omega))
  intro s₂ hs; obtain ⟨g9, rfl⟩ := hs
  have hfm : ∀ x : Int, 0 ≤ Int.fmod x (2 ^ 48) ∧ Int.fmod x (2 ^ 48) < 2 ^ 48 := fun x => ⟨fmod_lo (by decide), by rw [Int.fmod_eq_emod_of_nonneg _ (by decide)]; exact Int.emod_lt_of_pos _ (by decide)⟩
  refine rest_intsL (Ls.map fun x => Int.fmod x (2 ^ 48)) (hzl.trans (List.length_map ..).symm) ?_ ?_
  · intro i v I oI C oC D m₂ ys h tk E' hi hv hC hx F N off ne
    obtain ⟨k9, t9, rfl, hk9⟩ := IntsAre.at hI9 i v (by simpa using hv)
    repeat' (first | (k_unfold; (try dsimp only)) | ((fail_if_success (with_reducible show wpAny _ _ (pyIter _) _ _ _)); walk1) | ((fail_if_success (with_reducible show wpAny _ _ (pyIter _) _ _ _)); dsimp only; walk1) | (leave1; walk_say "STEP leave1"; try dsimp only) | fail "no step")
    rw [List.getElem?_map, hk9]
    rfl
  · intro ys hys
    have hys2 := hys.length
    rw [List.length_map] at hys2
    have hin : ∀ x ∈ Ls.map (fun x => Int.fmod x (2 ^ 48)), 0 ≤ x ∧ x < 2 ^ 48 := by
      intro x hx
      obtain ⟨y, _, rfl⟩ := List.mem_map.mp hx
      exact hfm y
    have hMl : 5 ≤ (Ls.map (fun x => Int.fmod x (2 ^ 48))).length ∧ (Ls.map (fun x => Int.fmod x (2 ^ 48))).length ≤ 9 := by rw [List.length_map]; exact hLn
    generalize hMs : Ls.map (fun x => Int.fmod x (2 ^ 48)) = Ms at hys hin hMl
    repeat' (first | (k_unfold; (try dsimp only)) | ((fail_if_success (with_reducible show wpAny _ _ (pyIter _) _ _ _)); walk1) | ((fail_if_success (with_reducible show wpAny _ _ (pyIter _) _ _ _)); dsimp only; walk1) | (leave1; walk_say "STEP leave1"; try dsimp only) | fail "no step")
    refine' srcT_list ?zh ?zl ?zz ?zF ?zN ?_
    (case zF => k_asm)
    (case zN => k_asm)
    (case zh => rfl)
    (case zl => exact Or.inr ⟨_, by k_mem, rfl, _, rfl⟩)
    (case zz => rw [sizeLine_eq, List.size_toArray]; omega)
    intro s₂ hs; obtain ⟨g9, rfl⟩ := hs
    refine restT_count (fun _ => false) ?_ ?_
    · intro i v I oI C oC D m₂ ys2 h tk E' hi hv hC hx F N off ne
      obtain ⟨k9, t9, rfl, hk9⟩ := IntsAre.at hys i v (by simpa using hv)
      have hk0 := hin k9 (List.mem_of_getElem? hk9)
      repeat' (first | (k_unfold; (try dsimp only)) | ((fail_if_success (with_reducible show wpAny _ _ (pyIter _) _ _ _)); walk1) | ((fail_if_success (with_reducible show wpAny _ _ (pyIter _) _ _ _)); dsimp only; walk1) | (leave1; walk_say "STEP leave1"; try dsimp only) | fail "no step")
      all_goals exact True.intro
    · intro ys2 hy2
      have hy3 : ys2 = [] := List.length_eq_zero_iff.mp (by rw [hy2]; simp)
      subst hy3
      repeat' (first | (k_unfold; (try dsimp only)) | ((fail_if_success (with_reducible show wpAny _ _ (pyIter _) _ _ _)); walk1) | ((fail_if_success (with_reducible show wpAny _ _ (pyIter _) _ _ _)); dsimp only; walk1) | (leave1; walk_say "STEP leave1"; try dsimp only) | fail "no step")
      rename List.Perm _ Ms => hperm
      rename List.Pairwise _ _ => hsort
      have hpl := hperm.length_eq
      rename IsRange _ _ _ _ _ _ _ _ => hr9
      refine srcT_range (n := ((Ms.length : Int) - 1).toNat) rfl hr9 (sm1 (by omega) (by omega)) (rs1 (by omega)) (by rw [sizeLine_eq]; omega) (by k_asm) (by k_asm) ?_
      intro s₂ hs; obtain ⟨g9, rfl⟩ := hs
      refine restT_count (fun _ => false) ?_ ?_
      · intro i v I oI C oC D m₂ ys2 h tk E' hi hv hC hx F N off ne
        obtain ⟨t9, rfl⟩ := hv
        have hki : (0 + (i : Int) * 1).toNat = i := by omega
        have hki1 : (0 + (i : Int) * 1 + 1).toNat = i + 1 := by omega
        have hpp := sorted_pair hperm hsort hin (i := i) (by omega)
        repeat' (first | (k_unfold; (try dsimp only)) | ((fail_if_success (with_reducible show wpAny _ _ (pyIter _) _ _ _)); walk1) | ((fail_if_success (with_reducible show wpAny _ _ (pyIter _) _ _ _)); dsimp only; walk1) | (leave1; walk_say "STEP leave1"; try dsimp only) | fail "no step")
        all_goals exact True.intro
      · intro ys2 hy2
        have hy3 : ys2 = [] := List.length_eq_zero_iff.mp (by rw [hy2]; simp)
        subst hy3
        repeat' (first | (k_unfold; (try dsimp only)) | ((fail_if_success (with_reducible show wpAny _ _ (pyIter _) _ _ _)); walk1) | ((fail_if_success (with_reducible show wpAny _ _ (pyIter _) _ _ _)); dsimp only; walk1) | (leave1; walk_say "STEP leave1"; try dsimp only) | fail "no step")
        all_goals wrow_close))
end Mine
end
theorem PySem.Challenge.cw_rt0031_01_holds : PySem.Challenge.rw_rt0031_01.Holds := by
  exact Mine.law_holds
