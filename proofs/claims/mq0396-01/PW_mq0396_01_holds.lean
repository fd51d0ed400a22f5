import PyProof.Rows.All
import Wide.All
import OpenK.AllK
import Wide.FinOn
import PySem.Challenge.RW_mq0396_01
open PySem PySem.W PyProof.Rows PySem.Calls
set_option Elab.async false
set_option maxRecDepth 100000
set_option hygiene false
set_option linter.unusedSimpArgs false
set_option linter.unusedVariables false
namespace Mine
section piece_Hd
section
local macro_rules | `(tactic| refine $_) => `(tactic| assumption)
theorem hd (x : (OpenLaw.row PySem.Challenge.rw_mq0396_01).Holds) : (OpenLaw.row PySem.Challenge.rw_mq0396_01).Holds := by
  k_head
end
end piece_Hd
section piece_Hh
noncomputable def kAs : List Addr := [2, 3, 15, 17, 18, 20, 21, 29, 31, 32, 34, 35, 36, 38, 39, 41, 42, 43, 50, 52, 53, 55, 56, 57, 58, 59, 62, 69, 71, 72, 74, 75, 76, 78, 79, 81, 82, 83, 85, 86, 88, 89, 90, 91, 92, 95, 97, 98, 100, 101, 102, 104, 105, 107, 108, 109, 111, 112, 114, 115, 116, 118, 119, 121, 122, 123, 125, 126, 128, 129, 130, 132, 133, 135, 136, 137, 139, 140, 142, 143, 144, 146, 147, 149, 150, 151, 153, 154, 156, 157, 161, 163, 164, 166, 167, 168, 170, 171, 173, 174, 175, 177, 178, 180, 181, 182, 184, 185, 187, 188, 189, 191, 192, 194, 195, 196, 197, 199, 200, 202, 203, 204, 207, 208, 209, 212, 213, 214, 217, 218, 219, 221, 222, 224, 225, 226, 228, 229, 231, 232, 233, 235, 236, 238, 239, 240, 242, 243, 245, 246, 247, 249, 250, 252, 253, 254, 257, 258]
noncomputable abbrev kH : Hook := kHook hd.heap_1 kAs (fun _ => by kernel_rfl)
noncomputable abbrev kTail (b : Bool) (w : World) (s₀ : Shared) : Option Shared := topFrom treeTable PySem.Challenge.pw_mq0396_01 (w.withFollow "special-get-raises" b) 3704 s₀
noncomputable abbrev kXt : Shared → Bool := fun s => xlAt hd.view_1 [] s && recOk (RowW.records (OpenRow.toRowW (OpenLaw.row PySem.Challenge.rw_mq0396_01))) s
noncomputable abbrev kSeen (s : Shared) := openSeen hd.view_1 [Str.ofString "relpath"] (importedModules PySem.Challenge.pw_mq0396_01.main.body) kXt true s
theorem hl_1 (w : World) : (fencedOpening treeTable PySem.Challenge.pw_mq0396_01 w 3704).map (fun s₀ => (kTail false w s₀).map (fun s => (kSeen s, Hook.obs kH s))) = some (some (openGood hd.view_1 [Str.ofString "relpath"], Hook.val kH (w.withFollow "special-get-raises" false))) := by
  kernel_rfl
theorem hl_2 (w : World) : (fencedOpening treeTable PySem.Challenge.pw_mq0396_01 w 3704).map (fun s₀ => (kTail true w s₀).map (fun s => (kSeen s, Hook.obs kH s))) = some (some (openGood hd.view_1 [Str.ofString "relpath"], Hook.val kH (w.withFollow "special-get-raises" true))) := by
  kernel_rfl
theorem map_two {α β γ : Type} {o : Option α} {f : α → β} {g : α → γ} {a : β} {b : γ} (x : o.map f = some a) (y : o.map g = some b) : o.map (fun s => (f s, g s)) = some (a, b) := by
  cases o with
  | none => cases x
  | some s => cases x; cases y; rfl
theorem hl_whole : LeftO PySem.Challenge.pw_mq0396_01 hd.view_1 [Str.ofString "relpath"] kXt (Hook.obs kH) (Hook.val kH) 3704 := by
  refine LeftO.of_split "special-get-raises" ?_
  intro w
  exact map_two (hl_1 w) (hl_2 w)
/-- the looks at the text, each a check of its own -/
theorem law_looks : looksOpen PySem.Challenge.pw_mq0396_01 = true := by
  unfold looksOpen
  repeat' (with_reducible refine look_both ?_ ?_)
  all_goals decide +kernel
theorem law_said : OpenLaw.wellSaid PySem.Challenge.rw_mq0396_01 = true := by
  unfold OpenLaw.wellSaid
  repeat' (with_reducible refine look_both ?_ ?_)
  · unfold OpenRow.wellSaid
    repeat' (with_reducible refine look_both ?_ ?_)
    · unfold OpenRow.partSaid
      repeat' (with_reducible refine look_both ?_ ?_)
      · exact law_looks
      all_goals decide +kernel
    all_goals decide +kernel
  all_goals decide +kernel
end piece_Hh
section piece_C0
/-- the heap only grows -/
noncomputable def Ext (h h' : Heap) : Prop := ∀ b o, h.get? b = some o → h'.get? b = some o
theorem Ext.refl (h : Heap) : Ext h h := fun _ _ e => e
theorem Ext.trans {a b c : Heap} (x : Ext a b) (y : Ext b c) : Ext a c := fun _ _ e => y _ _ (x _ _ e)

/-- what a call wants of the state it is made in -/
inductive Site (w : World) (mean : ExcName → Option Value) (mg mb : Str → Option Value) (A : Around) (s : Shared) : Prop where
  | mk (A₀ : Around) (base h₀ : Heap) (outer : List Env) (env : Env) (L : Addr) (m : Str → Option Value) (B : Below A₀ base outer h₀) (F : Fr h₀ L s.heap m) (X : Frag.In (hd.heap_1 (World.params w)) h₀)
    (T : Top hd.view_1 (looseW hd.view_1 [Str.ofString "relpath"]) mean mg mb h₀) (hA : A.frames = some (env :: outer)) (hh : A.handled = none) (hf : env.frame = some L) (hk : env.scope.kind = .function) : Site w mean mg mb A s

/-- a call's contract: it comes back, the heap only grows, and Out tells the answer -/
noncomputable def Ctr (w : World) (mean : ExcName → Option Value) (mg mb : Str → Option Value) (d u : Nat) (f : Addr) (args : List Value) (Pre : Heap → Prop) (Out : Heap → Heap → Value → Prop) : Prop :=
  ∀ (A : Around) (s : Shared) (Q E : Value → Shared → Prop), Site w mean mg mb A s → A.depth + d < recursionLimit → A.units + u < cLine → Pre s.heap →
    (∀ r h' tk', Ext s.heap h' → Out s.heap h' r → Q r { s with heap := h', toks := tk' }) →
    wpAny (model PySem.Challenge.pw_mq0396_01 w) A (call (.ref f) args) Q E s

theorem Ctr.use {w mean mg mb d u f args Pre Out} (C : Ctr w mean mg mb d u f args Pre Out) {A A₀ : Around} {base h₀ : Heap} {outer : List Env} {env : Env} {L : Addr} {m : Str → Option Value} {s : Shared} {news : List (Addr × Obj)} {Q E : Value → Shared → Prop}
    (B : Below A₀ base outer h₀) (F : Fr h₀ L s.heap m) (X : Frag.In (hd.heap_1 (World.params w)) h₀) (N : News h₀ L s.heap news)
    (T : Top hd.view_1 (looseW hd.view_1 [Str.ofString "relpath"]) mean mg mb h₀)
    (hA : A.frames = some (env :: outer)) (hh : A.handled = none) (hf : env.frame = some L) (hk : env.scope.kind = .function)
    (hd : A.depth + d < recursionLimit) (hu : A.units + u < cLine) (hp : Pre s.heap)
    (h : ∀ r h' tk', Fr h₀ L h' m → News h₀ L h' news → Ext s.heap h' → Out s.heap h' r → Q r { s with heap := h', toks := tk' }) :
    wpAny (model PySem.Challenge.pw_mq0396_01 w) A (call (.ref f) args) Q E s :=
  C A s Q E ⟨_, _, _, _, _, _, _, B, F, X, T, hA, hh, hf, hk⟩ hd hu hp fun r h' tk' e o =>
    h r h' tk' (F.keeps e) (fun p hp => ⟨e _ _ (N p hp).1, (N p hp).2⟩) e o

/-- a contract is shown from its opening on -/
theorem Ctr.opened {w mean mg mb d u f args Pre Out}
    (h : ∀ (dp un : Nat) (gd : Option (List Code)) (s : Shared) (Q E : Value → Shared → Prop) (A₀ : Around) (base h₀ : Heap) (outer : List Env) (env : Env) (L : Addr) (m : Str → Option Value),
      Below A₀ base outer h₀ → Fr h₀ L s.heap m → Frag.In (hd.heap_1 (World.params w)) h₀ → Top hd.view_1 (looseW hd.view_1 [Str.ofString "relpath"]) mean mg mb h₀ → env.frame = some L → env.scope.kind = .function →
      dp + d < recursionLimit → un + u < cLine → Pre s.heap → (∀ r h' tk', Ext s.heap h' → Out s.heap h' r → Q r { s with heap := h', toks := tk' }) →
      wpAny (model PySem.Challenge.pw_mq0396_01 w) ⟨none, dp, some (env :: outer), gd, un⟩ (call (.ref f) args) Q E s) : Ctr w mean mg mb d u f args Pre Out := by
  intro A s Q E st hd hu hp ret
  obtain ⟨A₀, base, h₀, outer, env, L, m, B, F, X, T, hA, hh, hf, hk⟩ := st
  obtain ⟨hdl, dp, fr, gd, un⟩ := A
  simp only at hA hh hd hu
  subst hA hh
  exact h dp un gd s Q E A₀ base h₀ outer env L m B F X T hf hk hd hu hp ret
theorem Ctr.mono {w mean mg mb d u f args Pre Out Out'} (C : Ctr w mean mg mb d u f args Pre Out) (e : ∀ h h' r, Out h h' r → Out' h h' r) : Ctr w mean mg mb d u f args Pre Out' :=
  fun A s Q E st hd hu hp ret => C A s Q E st hd hu hp fun r h' tk' x o => ret r h' tk' x (e _ _ _ o)
theorem Ctr.useE {w mean mg mb d u f args Pre} {v : Value} (C : Ctr w mean mg mb d u f args Pre (fun _ _ r => r = v)) {A A₀ : Around} {base h₀ : Heap} {outer : List Env} {env : Env} {L : Addr} {m : Str → Option Value} {s : Shared} {news : List (Addr × Obj)} {Q E : Value → Shared → Prop}
    (B : Below A₀ base outer h₀) (F : Fr h₀ L s.heap m) (X : Frag.In (hd.heap_1 (World.params w)) h₀) (N : News h₀ L s.heap news)
    (T : Top hd.view_1 (looseW hd.view_1 [Str.ofString "relpath"]) mean mg mb h₀)
    (hA : A.frames = some (env :: outer)) (hh : A.handled = none) (hf : env.frame = some L) (hk : env.scope.kind = .function)
    (hd : A.depth + d < recursionLimit) (hu : A.units + u < cLine) (hp : Pre s.heap)
    (h : ∀ h' tk', Fr h₀ L h' m → News h₀ L h' news → Q v { s with heap := h', toks := tk' }) : wpAny (model PySem.Challenge.pw_mq0396_01 w) A (call (.ref f) args) Q E s :=
  Ctr.use C B F X N T hA hh hf hk hd hu hp fun r h' tk' F' N' _ o => by subst o; exact h h' tk' F' N'
theorem Ctr.useV {w mean mg mb d u f args Pre} {V : Tok → Value} (C : Ctr w mean mg mb d u f args Pre (fun _ _ r => ∃ t, r = V t)) {A A₀ : Around} {base h₀ : Heap} {outer : List Env} {env : Env} {L : Addr} {m : Str → Option Value} {s : Shared} {news : List (Addr × Obj)} {Q E : Value → Shared → Prop}
    (B : Below A₀ base outer h₀) (F : Fr h₀ L s.heap m) (X : Frag.In (hd.heap_1 (World.params w)) h₀) (N : News h₀ L s.heap news)
    (T : Top hd.view_1 (looseW hd.view_1 [Str.ofString "relpath"]) mean mg mb h₀)
    (hA : A.frames = some (env :: outer)) (hh : A.handled = none) (hf : env.frame = some L) (hk : env.scope.kind = .function)
    (hd : A.depth + d < recursionLimit) (hu : A.units + u < cLine) (hp : Pre s.heap)
    (h : ∀ t h' tk', Fr h₀ L h' m → News h₀ L h' news → Q (V t) { s with heap := h', toks := tk' }) : wpAny (model PySem.Challenge.pw_mq0396_01 w) A (call (.ref f) args) Q E s :=
  Ctr.use C B F X N T hA hh hf hk hd hu hp fun r h' tk' F' N' _ o => by obtain ⟨t, rfl⟩ := o; exact h t h' tk' F' N'
theorem Ctr.useVP {w mean mg mb d u f args Pre} {V : Tok → Value} {P : Prop} (C : Ctr w mean mg mb d u f args Pre (fun _ _ r => P ∧ ∃ t, r = V t)) {A A₀ : Around} {base h₀ : Heap} {outer : List Env} {env : Env} {L : Addr} {m : Str → Option Value} {s : Shared} {news : List (Addr × Obj)} {Q E : Value → Shared → Prop}
    (B : Below A₀ base outer h₀) (F : Fr h₀ L s.heap m) (X : Frag.In (hd.heap_1 (World.params w)) h₀) (N : News h₀ L s.heap news)
    (T : Top hd.view_1 (looseW hd.view_1 [Str.ofString "relpath"]) mean mg mb h₀)
    (hA : A.frames = some (env :: outer)) (hh : A.handled = none) (hf : env.frame = some L) (hk : env.scope.kind = .function)
    (hd : A.depth + d < recursionLimit) (hu : A.units + u < cLine) (hp : Pre s.heap)
    (h : ∀ t h' tk', P → Fr h₀ L h' m → News h₀ L h' news → Q (V t) { s with heap := h', toks := tk' }) : wpAny (model PySem.Challenge.pw_mq0396_01 w) A (call (.ref f) args) Q E s :=
  Ctr.use C B F X N T hA hh hf hk hd hu hp fun r h' tk' F' N' _ o => by obtain ⟨p, t, rfl⟩ := o; exact h t h' tk' p F' N'
theorem Ctr.useO {w mean mg mb d u f args Pre} {V : Int → Tok → Value} {P : Prop} {P' : Int → Prop} {v : Value} (C : Ctr w mean mg mb d u f args Pre (fun _ _ r => (P ∧ r = v) ∨ ∃ n t, P' n ∧ r = V n t)) {A A₀ : Around} {base h₀ : Heap} {outer : List Env} {env : Env} {L : Addr} {m : Str → Option Value} {s : Shared} {news : List (Addr × Obj)} {Q E : Value → Shared → Prop}
    (B : Below A₀ base outer h₀) (F : Fr h₀ L s.heap m) (X : Frag.In (hd.heap_1 (World.params w)) h₀) (N : News h₀ L s.heap news)
    (T : Top hd.view_1 (looseW hd.view_1 [Str.ofString "relpath"]) mean mg mb h₀)
    (hA : A.frames = some (env :: outer)) (hh : A.handled = none) (hf : env.frame = some L) (hk : env.scope.kind = .function)
    (hd : A.depth + d < recursionLimit) (hu : A.units + u < cLine) (hp : Pre s.heap)
    (h : ∀ h' tk', P → Fr h₀ L h' m → News h₀ L h' news → Q v { s with heap := h', toks := tk' })
    (h2 : ∀ n t h' tk', P' n → Fr h₀ L h' m → News h₀ L h' news → Q (V n t) { s with heap := h', toks := tk' }) : wpAny (model PySem.Challenge.pw_mq0396_01 w) A (call (.ref f) args) Q E s :=
  Ctr.use C B F X N T hA hh hf hk hd hu hp fun r h' tk' F' N' _ o => by
    rcases o with ⟨p, rfl⟩ | ⟨n, t, p, rfl⟩
    · exact h h' tk' p F' N'
    · exact h2 n t h' tk' p F' N'
theorem Ctr.useVe {w mean mg mb d u f args Pre} {a b : Str} (e : a = b) (C : Ctr w mean mg mb d u f args Pre (fun _ _ r => ∃ t, r = .str a t)) {A A₀ : Around} {base h₀ : Heap} {outer : List Env} {env : Env} {L : Addr} {m : Str → Option Value} {s : Shared} {news : List (Addr × Obj)} {Q E : Value → Shared → Prop}
    (B : Below A₀ base outer h₀) (F : Fr h₀ L s.heap m) (X : Frag.In (hd.heap_1 (World.params w)) h₀) (N : News h₀ L s.heap news)
    (T : Top hd.view_1 (looseW hd.view_1 [Str.ofString "relpath"]) mean mg mb h₀)
    (hA : A.frames = some (env :: outer)) (hh : A.handled = none) (hf : env.frame = some L) (hk : env.scope.kind = .function)
    (hd : A.depth + d < recursionLimit) (hu : A.units + u < cLine) (hp : Pre s.heap)
    (h : ∀ t h' tk', Fr h₀ L h' m → News h₀ L h' news → Q (.str b t) { s with heap := h', toks := tk' }) : wpAny (model PySem.Challenge.pw_mq0396_01 w) A (call (.ref f) args) Q E s := by
  subst e
  exact Ctr.useV C B F X N T hA hh hf hk hd hu hp h
theorem Ctr.useVn {w mean mg mb d u f args Pre} {a b : Nat} (e : a = b) (C : Ctr w mean mg mb d u f args Pre (fun _ _ r => ∃ t, r = .int (a : Int) t)) {A A₀ : Around} {base h₀ : Heap} {outer : List Env} {env : Env} {L : Addr} {m : Str → Option Value} {s : Shared} {news : List (Addr × Obj)} {Q E : Value → Shared → Prop}
    (B : Below A₀ base outer h₀) (F : Fr h₀ L s.heap m) (X : Frag.In (hd.heap_1 (World.params w)) h₀) (N : News h₀ L s.heap news)
    (T : Top hd.view_1 (looseW hd.view_1 [Str.ofString "relpath"]) mean mg mb h₀)
    (hA : A.frames = some (env :: outer)) (hh : A.handled = none) (hf : env.frame = some L) (hk : env.scope.kind = .function)
    (hd : A.depth + d < recursionLimit) (hu : A.units + u < cLine) (hp : Pre s.heap)
    (h : ∀ t h' tk', Fr h₀ L h' m → News h₀ L h' news → Q (.int (b : Int) t) { s with heap := h', toks := tk' }) : wpAny (model PySem.Challenge.pw_mq0396_01 w) A (call (.ref f) args) Q E s := by
  subst e
  exact Ctr.useV C B F X N T hA hh hf hk hd hu hp h
theorem room0 {x a b R : Nat} (h : x + b < R) (e : Nat.ble a b = true) : x + a < R := Nat.lt_of_le_of_lt (Nat.add_le_add_left (Nat.le_of_ble_eq_true e) x) h
theorem room1 {x k a b R : Nat} (h : x + b < R) (e : Nat.ble (k + a) b = true) : x + k + a < R := by rw [Nat.add_assoc]; exact room0 h e
theorem room2 {x j k a b R : Nat} (h : x + b < R) (e : Nat.ble (j + k + a) b = true) : x + j + k + a < R := by rw [Nat.add_assoc x j k]; exact room1 h e
theorem enter {K : Frag} {prog : Program} {w : World} {A A₀ : Around} {s : Shared} {base h₀ : Heap} {outer : List Env} {L : Addr} {m mg mb : Str → Option Value} {env : Env}
    {p : Program} {loose : List Str} {mean : ExcName → Option Value} {Q E : Value → Shared → Prop}
    {name qual : Str} {params : Arguments} {body : List Stmt} {scope : Scope} {dV kV doc pm cdv ct oc : Value} {an od : Option Addr} {osl : Array (Option Value)} {f : Addr} {args : List Value} {binds : List (Str × Value)}
    (B : Below A₀ base outer h₀) (F : Fr h₀ L s.heap m) (X₀ : K.In h₀) (T : Top p loose mean mg mb h₀) (hA : A.frames = some (env :: outer)) (hf : env.frame = some L) (hke : env.scope.kind = .function)
    (ho : K.lookup f = some ⟨oc, od, .func (fnOf name qual params body scope dV kV doc pm an cdv ct), osl⟩) (hcd : codeIn K cdv qual = true) (hroom : A.depth < recursionLimit)
    (hbind : BindsTo s (fnOf name qual params body scope dV kV doc pm an cdv ct) ⟨args, []⟩ binds) (hloc : ∀ y ∈ binds, scope.names.lookup y.1 = some .local)
    (h : ∀ L' h₁, Fr s.heap L' h₁ (fun y => binds.reverse.lookup y) → News s.heap L' h₁ [] → Below A base (env :: outer) s.heap → K.In s.heap → Top p loose mean mg mb s.heap →
      wpAny (model prog w) (A.deeper (envOf qual scope L' f cdv)) (execs body (envOf qual scope L' f cdv))
        (fun fl s' => Q (match fl with | .ret v => v | _ => .none) s')
        (fun e s' => wpAny (model prog w) (A.deeper (envOf qual scope L' f cdv)) (leaving (envOf qual scope L' f cdv) e) (fun _ s'' => E e s'') (fun e' s'' => E e' s'') s')
        { s with heap := h₁, toks := s.toks + binds.length })
    (hco : scope.isCoroutine = false) (hgen : scope.isGenerator = false) (hk : scope.kind = .function)
    (hcell : ∀ x ∈ scope.names, x.2 ≠ .cell) : wpAny (model prog w) A (call (.ref f) args) Q E s := by
  refine wpAny_call ?_
  have B' := pushX B F hf hke
  refine codeAny_call_def (fd := fnOf name qual params body scope dV kV doc pm an cdv ct) (body := body) (binds := binds) hroom ((X₀.keeps F.keep) _ _ ho) rfl (T.nolimit.keeps F.keep) (codeRec_of (X₀.keeps F.keep) hcd) rfl hbind hcell hloc (fun h₁ hns hk₁ => ?_) hco hgen hk
  exact h s.heap.objs.size h₁ ⟨hns, hk₁, Nat.le_refl _⟩ News.nil ⟨hA, B'.stays, B'.frames⟩ (X₀.keeps F.keep) (T.keeps F.keep)
end piece_C0
section piece_S0
/-! the plain readings of the text's functions -/
noncomputable abbrev bnS (x : Str) : Str := Txt.slice x (some (Txt.rfind x (Str.ofString "/") + 1)) none
noncomputable abbrev hdS (x : Str) : Str := Txt.slice x none (some (Txt.rfind x (Str.ofString "/") + 1))
noncomputable def dnS (x : Str) : Str := if (hdS x).length = 0 then hdS x else if hdS x = Txt.mul (Str.ofString "/") (hdS x).length then hdS x else Txt.rstripChars (hdS x) (Str.ofString "/")
theorem dn_a {x : Str} (h1 : ((hdS x).length : Int) ≠ 0) (h2 : (hdS x != Txt.mul (Str.ofString "/") (hdS x).length) = true) : Txt.rstripChars (hdS x) (Str.ofString "/") = dnS x := by
  unfold dnS
  rw [if_neg (by omega), if_neg (by simpa using h2)]
theorem dn_b {x : Str} (h1 : ((hdS x).length : Int) ≠ 0) (h2 : (hdS x != Txt.mul (Str.ofString "/") (hdS x).length) = false) : hdS x = dnS x := by
  unfold dnS
  rw [if_neg (by omega), if_pos (by simpa using h2)]
theorem dn_c {x : Str} (h1 : ((hdS x).length : Int) = 0) : hdS x = dnS x := by
  unfold dnS
  rw [if_pos (by omega)]
/-- a made tuple -/
noncomputable def tupOf (vs : List Value) : Obj := { cls := .type "tuple", data := .seq vs.toArray }
/-- root and tail of a path -/
inductive srR (x : Str) : Str → Str → Prop
  | none (h : (Txt.slice x none (some 1) != (Str.ofString "/")) = true) : srR x (Str.ofString "") x
  | one (h : (Txt.slice x none (some 1) != (Str.ofString "/")) = false) (h2 : (Txt.slice x (some 1) (some 2) != (Str.ofString "/")) = true) : srR x (Str.ofString "/") (Txt.slice x (some 1) none)
  | three (h : (Txt.slice x none (some 1) != (Str.ofString "/")) = false) (h2 : (Txt.slice x (some 1) (some 2) != (Str.ofString "/")) = false) (h3 : (Txt.slice x (some 2) (some 3) == (Str.ofString "/")) = true) : srR x (Str.ofString "/") (Txt.slice x (some 1) none)
  | two (h : (Txt.slice x none (some 1) != (Str.ofString "/")) = false) (h2 : (Txt.slice x (some 1) (some 2) != (Str.ofString "/")) = false) (h3 : (Txt.slice x (some 2) (some 3) == (Str.ofString "/")) = false) : srR x (Txt.slice x none (some 2)) (Txt.slice x (some 2) none)

noncomputable def rootS (x : Str) : Str := if Txt.slice x none (some 1) ≠ Str.ofString "/" then Str.ofString "" else if Txt.slice x (some 1) (some 2) ≠ Str.ofString "/" ∨ Txt.slice x (some 2) (some 3) = Str.ofString "/" then Str.ofString "/" else Txt.slice x none (some 2)
noncomputable def tailS (x : Str) : Str := if Txt.slice x none (some 1) ≠ Str.ofString "/" then x else if Txt.slice x (some 1) (some 2) ≠ Str.ofString "/" ∨ Txt.slice x (some 2) (some 3) = Str.ofString "/" then Txt.slice x (some 1) none else Txt.slice x (some 2) none
theorem srR.eqs {x r t : Str} (h : srR x r t) : r = rootS x ∧ t = tailS x := by
  unfold rootS tailS
  cases h with
  | none h => simp only [bne_iff_ne] at h; simp [h]
  | one h h2 => simp only [bne_iff_ne, bne_eq_false_iff_eq] at h h2; simp [h, h2]
  | three h h2 h3 => simp only [bne_eq_false_iff_eq, beq_iff_eq] at h h2 h3; simp [h, h2, h3]
  | two h h2 h3 => simp only [bne_eq_false_iff_eq, beq_eq_false_iff_ne] at h h2 h3; simp [h, h2, h3]

/-- splitext's two parts -/
inductive sxR (x : Str) : Str → Str → Prop
  | cut (k : Int) (h1 : Txt.rfind x (Str.ofString "/") < k) (h2 : k < Txt.rfind x (Str.ofString ".")) (h : (Txt.slice x (some k) (some (k + 1)) != Str.ofString ".") = true) : sxR x (Txt.slice x none (some (Txt.rfind x (Str.ofString ".")))) (Txt.slice x (some (Txt.rfind x (Str.ofString "."))) none)
  | whole (h : ∀ j, Txt.rfind x (Str.ofString "/") < j → j < Txt.rfind x (Str.ofString ".") → Txt.slice x (some j) (some (j + 1)) = Str.ofString ".") : sxR x x (Txt.slice x none (some 0))
/-- one step of join -/
noncomputable def joinStep (path b : Str) : Str := if Txt.startswith b (Str.ofString "/") = true ∨ path.length = 0 then b else if Txt.endswith path (Str.ofString "/") = true then path ++ b else path ++ (Str.ofString "/" ++ b)
noncomputable def joinS (a : Str) (bs : List Str) : Str := bs.foldl joinStep a
noncomputable def sumLen (bs : List Str) : Nat := (bs.map (·.length)).sum
theorem len_append (x y : Str) : (x ++ y).length = x.length + y.length := PySem.Str.length_append x y
theorem joinStep_len (p b : Str) : (joinStep p b).length ≤ p.length + b.length + 1 := by
  unfold joinStep
  have e : (Str.ofString "/").length = 1 := by decide
  split
  · omega
  · split
    · rw [len_append]; omega
    · rw [len_append, len_append, e]; omega
theorem joinS_snoc (a : Str) (bs : List Str) (b : Str) : joinS a (bs ++ [b]) = joinStep (joinS a bs) b := by
  unfold joinS; rw [List.foldl_append]; rfl
theorem joinS_len (bs : List Str) : ∀ a, (joinS a bs).length ≤ a.length + sumLen bs + bs.length := by
  induction bs with
  | nil => intro a; simp [joinS, sumLen]
  | cons b r ih =>
    intro a
    have h1 := ih (joinStep a b)
    have h2 := joinStep_len a b
    show (joinS (joinStep a b) r).length ≤ _
    simp only [sumLen, List.map_cons, List.sum_cons, List.length_cons] at *
    omega
theorem sumLen_take (bs : List Str) (i : Nat) : sumLen (bs.take i) ≤ sumLen bs := by
  have := congrArg sumLen (List.take_append_drop i bs)
  simp only [sumLen, List.map_append, List.sum_append] at this ⊢
  omega
theorem len_mem {bs : List Str} {i : Nat} {b : Str} (h : bs[i]? = some b) : b.length ≤ sumLen bs := by
  induction bs generalizing i with
  | nil => simp at h
  | cons c r ih =>
    simp only [sumLen, List.map_cons, List.sum_cons] at *
    cases i with
    | zero => simp at h; subst h; omega
    | succ i => simp at h; have := ih h; omega

/-- one step of normpath -/
noncomputable def normStep (root : Str) (acc : List Str) (c : Str) : List Str :=
  if c.length = 0 ∨ c = Str.ofString "." then acc
  else if c ≠ Str.ofString ".." ∨ (root.length = 0 ∧ acc = []) ∨ (acc ≠ [] ∧ acc.getLast? = some (Str.ofString "..")) then acc ++ [c]
  else acc.dropLast
noncomputable def normL (x : Str) : List Str := (Txt.split (tailS x) (Str.ofString "/")).foldl (normStep (rootS x)) []
noncomputable def normS (x : Str) : Str := if x.length = 0 then Str.ofString "." else
  if (rootS x ++ Txt.join (Str.ofString "/") (normL x)).length = 0 then Str.ofString "." else rootS x ++ Txt.join (Str.ofString "/") (normL x)
theorem tailS_len (x : Str) : (tailS x).length ≤ x.length := by
  have h1 := PyProof.Rows.slice_sn_cases x 1 (by decide)
  have h2 := PyProof.Rows.slice_sn_cases x 2 (by decide)
  unfold tailS
  split
  · exact Nat.le_refl _
  · split <;> omega
theorem rootS_len (x : Str) : (rootS x).length ≤ 2 := by
  have h1 := PyProof.Rows.slice_ns_cases x 2 (by decide)
  have e : (Str.ofString "/").length = 1 := by decide
  have e0 : (Str.ofString "").length = 0 := by decide
  unfold rootS
  split
  · omega
  · split <;> omega
theorem tl_fact {h' : Heap} {a9 : Addr} {v t2 t3} {x : Str} (_ : h'.get? a9 = some (tupOf [v, .str (rootS x) t2, .str (tailS x) t3])) : (tailS x).length ≤ x.length ∧ (rootS x).length ≤ 2 := ⟨tailS_len x, rootS_len x⟩
theorem sumLen_nil : sumLen [] = 0 := rfl
theorem sumLen_cons (a : Str) (r : List Str) : sumLen (a :: r) = a.length + sumLen r := by simp [sumLen]
theorem sumLen_append (a b : List Str) : sumLen (a ++ b) = sumLen a + sumLen b := by simp [sumLen]
theorem sumLen_dropLast (a : List Str) : sumLen a.dropLast ≤ sumLen a := by
  rcases List.eq_nil_or_concat a with rfl | ⟨r, y, rfl⟩
  · exact Nat.le_refl _
  · simp [sumLen]
theorem strJoin_len (sep : Str) : ∀ (xs : List Str), xs ≠ [] → (PySem.Str.join sep xs).length + sep.length = sumLen xs + xs.length * sep.length
  | [], h => absurd rfl h
  | [x], _ => by
    show x.length + sep.length = _
    simp [sumLen]
  | x :: y :: r, _ => by
    have h := strJoin_len sep (y :: r) (by simp)
    show (x ++ sep ++ PySem.Str.join sep (y :: r)).length + _ = _
    rw [len_append, len_append, sumLen_cons, List.length_cons, Nat.succ_mul]
    omega
theorem split_ne (x y : Str) : Txt.split x y ≠ [] := by
  unfold Txt.split
  split
  · simp
  · split
    · simp
    · rw [StrLaws.partsBetween_eq]
      obtain ⟨p, r, e⟩ := StrLaws.partsFrom_ne x y.length 0 (Builtin.Str.occurrences x y 0 x.length (x.length + 1))
      rw [e]; simp
theorem split_len (x : Str) : sumLen (Txt.split x (Str.ofString "/")) + (Txt.split x (Str.ofString "/")).length = x.length + 1 := by
  have h := strJoin_len (Str.ofString "/") _ (split_ne x (Str.ofString "/"))
  rw [StrLaws.join_split] at h
  have e : (Str.ofString "/").length = 1 := by decide
  rw [e] at h
  omega
theorem normStep_len (root : Str) (acc : List Str) (c : Str) : (normStep root acc c).length ≤ acc.length + 1 ∧ sumLen (normStep root acc c) ≤ sumLen acc + c.length := by
  unfold normStep
  split
  · exact ⟨by omega, by omega⟩
  · split
    · rw [sumLen_append]; simp [sumLen]
    · have := sumLen_dropLast acc
      rw [List.length_dropLast]; omega
theorem normFold_len (root : Str) (cs : List Str) : ∀ acc, ((cs.foldl (normStep root) acc).length ≤ acc.length + cs.length) ∧ sumLen (cs.foldl (normStep root) acc) ≤ sumLen acc + sumLen cs := by
  induction cs with
  | nil => intro acc; simp [sumLen]
  | cons c r ih =>
    intro acc
    have h1 := normStep_len root acc c
    have h2 := ih (normStep root acc c)
    rw [List.foldl_cons, List.length_cons, sumLen_cons]
    omega
theorem fold_take {α : Type} (f : α → Str → α) (a : α) (cs : List Str) (i : Nat) (c : Str) (h : cs[i]? = some c) : (cs.take (i + 1)).foldl f a = f ((cs.take i).foldl f a) c := by
  rw [List.take_add_one, h, List.foldl_append]; rfl
theorem strs_last {vs : List Value} {ys : List Str} (h : StrsAre vs ys) (hne : vs ≠ []) : ∃ y t, ys.getLast? = some y ∧ vs.getLast? = some (.str y t) := by
  have hl := h.length
  have hp : 0 < vs.length := List.length_pos_iff.mpr hne
  have hy : ys[ys.length - 1]? = some (ys[ys.length - 1]'(by omega)) := List.getElem?_eq_getElem _
  obtain ⟨t, ht⟩ := StrsAre.at h hy
  exact ⟨_, t, by rw [List.getLast?_eq_getElem?]; exact hy, by rw [List.getLast?_eq_getElem?, hl]; exact ht⟩
theorem strs_dropLast {vs : List Value} {ys : List Str} (h : StrsAre vs ys) : StrsAre vs.dropLast ys.dropLast := by
  have := StrsAre.take' h (vs.length - 1)
  rw [← List.dropLast_eq_take, h.length, ← List.dropLast_eq_take] at this
  exact this
theorem strs_snoc {vs : List Value} {ys : List Str} (h : StrsAre vs ys) (y : Str) (t : Tok) : StrsAre (vs ++ [.str y t]) (ys ++ [y]) := StrsAre.append' h (.cons y t .nil)
theorem strs_nil {vs : List Value} {ys : List Str} (h : StrsAre vs ys) : vs = [] ↔ ys = [] := by
  have := h.length
  constructor
  · rintro rfl; exact List.eq_nil_of_length_eq_zero (by simpa using this.symm)
  · rintro rfl; exact List.eq_nil_of_length_eq_zero (by simpa using this)
theorem ns_skip {r c : Str} {a : List Str} (h : c.length = 0 ∨ c = Str.ofString ".") : normStep r a c = a := if_pos h
theorem ns_app {r c : Str} {a : List Str} (h0 : c.length ≠ 0) (h1 : c ≠ Str.ofString ".") (h : c ≠ Str.ofString ".." ∨ (r.length = 0 ∧ a = []) ∨ (a ≠ [] ∧ a.getLast? = some (Str.ofString ".."))) : normStep r a c = a ++ [c] := by
  unfold normStep
  rw [if_neg (by rintro (h | h); exact h0 h; exact h1 h), if_pos h]
theorem ns_pop {r c : Str} {a : List Str} (h0 : c.length ≠ 0) (h1 : c ≠ Str.ofString ".") (h2 : c = Str.ofString "..") (h3 : r.length ≠ 0 ∨ a ≠ []) (h4 : a.getLast? ≠ some (Str.ofString "..")) : normStep r a c = a.dropLast := by
  unfold normStep
  rw [if_neg (by rintro (h | h); exact h0 h; exact h1 h), if_neg (by rintro (h | h | h); exact h h2; rcases h3 with h3 | h3; exact h3 h.1; exact h3 h.2; exact h4 h.2)]
section
variable {r c : Str} {A : List Str} {acc : List Value} {tc : Tok} {y : Str}
theorem ne_app1 (hI : StrsAre acc A) (h0 : (c.length : Int) ≠ 0) (h1 : (c == Str.ofString ".") = false) (h2 : (c != Str.ofString "..") = true) : StrsAre (acc ++ [.str c tc]) (normStep r A c) := by
  rw [ns_app (by omega) (by simpa using h1) (.inl (by simpa using h2))]; exact strs_snoc hI c tc
theorem ne_app2 (hI : StrsAre acc A) (h0 : (c.length : Int) ≠ 0) (h1 : (c == Str.ofString ".") = false) (hr : (r.length : Int) = 0) (he : ¬ acc ≠ []) : StrsAre (acc ++ [.str c tc]) (normStep r A c) := by
  rw [ns_app (by omega) (by simpa using h1) (.inr (.inl ⟨by omega, (strs_nil hI).mp (Classical.not_not.mp he)⟩))]; exact strs_snoc hI c tc
theorem ne_app3 (hI : StrsAre acc A) (h0 : (c.length : Int) ≠ 0) (h1 : (c == Str.ofString ".") = false) (he : acc ≠ []) (hy : A.getLast? = some y) (hd : (y == Str.ofString "..") = true) : StrsAre (acc ++ [.str c tc]) (normStep r A c) := by
  rw [ns_app (by omega) (by simpa using h1) (.inr (.inr ⟨fun e => he ((strs_nil hI).mpr e), by rw [hy, eq_of_beq hd]⟩))]; exact strs_snoc hI c tc
theorem ne_pop (hI : StrsAre acc A) (h0 : (c.length : Int) ≠ 0) (h1 : (c == Str.ofString ".") = false) (h2 : (c != Str.ofString "..") = false) (he : acc ≠ []) (hy : A.getLast? = some y) (hd : (y == Str.ofString "..") = false) : StrsAre acc.dropLast (normStep r A c) := by
  rw [ns_pop (by omega) (by simpa using h1) (by simpa using h2) (.inr fun e => he ((strs_nil hI).mpr e)) (by rw [hy]; intro e; rw [Option.some.inj e] at hd; simp at hd)]; exact strs_dropLast hI
theorem ne_stay (hI : StrsAre acc A) (h0 : (c.length : Int) ≠ 0) (h1 : (c == Str.ofString ".") = false) (h2 : (c != Str.ofString "..") = false) (hr : (r.length : Int) ≠ 0) (he : ¬ acc ≠ []) : StrsAre acc (normStep r A c) := by
  have e := Classical.not_not.mp he
  have e2 := (strs_nil hI).mp e
  subst e e2
  rw [ns_pop (by omega) (by simpa using h1) (by simpa using h2) (.inl (by omega)) (by simp)]; exact .nil
theorem ne_skip1 (hI : StrsAre acc A) (h0 : (c.length : Int) = 0) : StrsAre acc (normStep r A c) := by
  rw [ns_skip (.inl (by omega))]; exact hI
theorem ne_skip2 (hI : StrsAre acc A) (h1 : (c == Str.ofString ".") = true) : StrsAre acc (normStep r A c) := by
  rw [ns_skip (.inr (by simpa using h1))]; exact hI
end
theorem tjoin_len (sep : Str) (xs : List Str) : (Txt.join sep xs).length ≤ sumLen xs + xs.length * sep.length := by
  unfold Txt.join
  rw [StrLaws.glued_eq_join]
  exact StrLaws.join_length_le sep xs
theorem tjoin_len1 (xs : List Str) : (Txt.join (Str.ofString "/") xs).length ≤ sumLen xs + xs.length := by
  have h := tjoin_len (Str.ofString "/") xs
  have e : (Str.ofString "/").length = 1 := by decide
  rw [e] at h; omega
end piece_S0
section piece_L4
section
variable {prog : Program} {w : World} {A : Around} {E : Value → Shared → Prop} {s : Shared} {h₀ : Heap} {L a : Addr} {m : Str → Option Value} {news news' : List (Addr × Obj)} {vs : List Value} {n : Nat}
theorem l_isl (N : News h₀ L s.heap news) (hm : (a, listOf vs.toArray n) ∈ news) : s.heap.IsList a vs.toArray := ⟨_, (N _ hm).1, rfl, n, rfl⟩
theorem l_truthy {Q : Bool → Shared → Prop} (hl : s.heap.IsList a vs.toArray) (hz : vs.length ≤ 1000000) (h : Q (decide (vs ≠ [])) { s with toks := s.toks + 1 + 1 }) : wpAny (model prog w) A (truthy (.ref a)) Q E s := by
  refine wpAny_truthy_list hl (by rw [List.size_toArray]; omega) ?_
  have e : (!vs.toArray.isEmpty) = decide (vs ≠ []) := by cases vs <;> simp
  rw [e]; exact h
theorem l_len {Q : Value → Shared → Prop} (hl : s.heap.IsList a vs.toArray) (hz : vs.length ≤ 1000000) (h : ∀ t k, Q (.int vs.length t) { s with toks := k }) : wpAny (model prog w) A (call (.builtin "len") [.ref a]) Q E s := by
  refine len_list hl (by rw [List.size_toArray]; omega) ?_
  rw [List.size_toArray]; exact h _ _
theorem l_last {value slice : Expr} {u : Tok} {v : Value} {Q : Value → Shared → Prop} (hl : s.heap.IsList a vs.toArray) (hv : vs.getLast? = some v) (h : Q v s)
    (hs : subscripted slice false (.ref a) (.int (-1) u) = operate [.ref a, .int (-1) u] (getItem (.ref a) (.int (-1) u)) := by with_unfolding_all rfl) :
    wpAny (model prog w) A (subscriptTail value slice (.ref a) (.int (-1) u)) Q E s := by
  have hne : vs ≠ [] := by intro e; subst e; cases hv
  have hp : 0 < vs.length := List.length_pos_iff.mpr hne
  refine tail_any hl.typeIs slot_list_getitem.lookup (wpAny_getItem_list_neg hl (by decide) (by rw [List.size_toArray]; omega) (by decide) (x := v) ?_ h) hs
  rw [List.size_toArray]
  have e : (-1 + (vs.length : Int)).toNat = vs.length - 1 := by omega
  rw [e, List.getElem?_toArray, ← List.getLast?_eq_getElem?]
  exact hv
theorem l_item {value slice : Expr} {i : Nat} {u : Tok} {v : Value} {Q : Value → Shared → Prop} (hl : s.heap.IsList a vs.toArray) (hv : vs[i]? = some v) (hz : i ≤ 1000000) (h : Q v s)
    (hs : subscripted slice false (.ref a) (.int (i : Int) u) = operate [.ref a, .int (i : Int) u] (getItem (.ref a) (.int (i : Int) u)) := by with_unfolding_all rfl) :
    wpAny (model prog w) A (subscriptTail value slice (.ref a) (.int (i : Int) u)) Q E s :=
  item_litK hl (by omega) (by omega) (by simpa using hv) h hs
theorem kl_last_snoc (y : Value) : ∀ p : List Value, kl_last (p ++ [y]) = some (p, y)
  | [] => rfl
  | x :: p => by show (match kl_last (p ++ [y]) with | some (p, y) => some (x :: p, y) | none => some ([], x)) = _; rw [kl_last_snoc y p]
theorem l_pop {v : Value} {Q : Value → Shared → Prop} (F : Fr h₀ L s.heap m) (N : News h₀ L s.heap news) (hv : vs.getLast? = some v) (U : Upd a (listOf vs.toArray n) (listOf vs.dropLast.toArray (n + 1)) news news') (hz : vs.length ≤ 1000000)
    (h : ∀ h', Fr h₀ L h' m → News h₀ L h' news' → Q v { s with heap := h' }) : wpAny (model prog w) A (call (.builtin "list.pop") [.ref a]) Q E s := by
  refine kl_pop F N (p := vs.dropLast) (y := v) ?_ U (by rw [sizeLine_eq]; exact Nat.le_trans hz (by decide)) h
  have e : vs = vs.dropLast ++ [v] := by
    obtain ⟨ys, rfl⟩ := List.getLast?_eq_some_iff.mp hv
    simp
  show kl_last vs = _
  rw [e, kl_last_snoc]; simp
theorem l_append {v : Value} {Q : Value → Shared → Prop} (F : Fr h₀ L s.heap m) (N : News h₀ L s.heap news) (U : Upd a (listOf vs.toArray n) (listOf (vs ++ [v]).toArray (n + 1)) news news') (hz : vs.length ≤ 1000000)
    (h : ∀ h', Fr h₀ L h' m → News h₀ L h' news' → Q .none { s with heap := h' }) : wpAny (model prog w) A (call (.builtin "list.append") [.ref a, v]) Q E s := by
  have e : (vs ++ [v]).toArray = vs.toArray.push v := by simp
  rw [e] at U
  exact append_K F N U h (by rw [List.size_toArray, sizeLine_eq]; omega)
theorem l_join {x : Str} {t : Tok} {ys : List Str} {Q : Value → Shared → Prop} (hl : s.heap.IsList a vs.toArray) (hi : StrsAre vs ys) (hx : x.length ≤ 2) (hz : sumLen ys + ys.length ≤ 500000)
    (h : ∀ t' k, Q (.str (Txt.join x ys) t') { s with toks := k }) : wpAny (model prog w) A (call (.builtin "str.join") [.str x t, .ref a]) Q E s :=
  join_list hl hi (by
    have h1 : ys.length * x.length ≤ ys.length * 2 := Nat.mul_le_mul_left _ hx
    unfold sumLen at hz; omega) h
theorem l_lastS {value slice : Expr} {u : Tok} {ys : List Str} {Q : Value → Shared → Prop} (hl : s.heap.IsList a vs.toArray) (hne : vs ≠ []) (hi : StrsAre vs ys) (h : ∀ y t, ys.getLast? = some y → Q (.str y t) s)
    (hs : subscripted slice false (.ref a) (.int (-1) u) = operate [.ref a, .int (-1) u] (getItem (.ref a) (.int (-1) u)) := by with_unfolding_all rfl) :
    wpAny (model prog w) A (subscriptTail value slice (.ref a) (.int (-1) u)) Q E s := by
  obtain ⟨y, t, h1, h2⟩ := strs_last hi hne
  exact l_last hl h2 (h y t h1) hs
theorem l_popS {Q : Value → Shared → Prop} (F : Fr h₀ L s.heap m) (N : News h₀ L s.heap news) (U : Upd a (listOf vs.toArray n) (listOf vs.dropLast.toArray (n + 1)) news news') (hne : vs ≠ []) (hz : vs.length ≤ 1000000)
    (h : ∀ v h', Fr h₀ L h' m → News h₀ L h' news' → Q v { s with heap := h' }) : wpAny (model prog w) A (call (.builtin "list.pop") [.ref a]) Q E s :=
  l_pop F N (v := vs.getLast hne) (by simp [List.getLast?_eq_some_getLast, hne]) U hz (h _)
theorem ne_of_isE {α : Type} {vs : List α} (h : vs.isEmpty = false) : vs ≠ [] := by rintro rfl; cases h
end
end piece_L4
section piece_L5
section
variable {prog : Program} {w : World} {A : Around} {E : Value → Shared → Prop} {s : Shared} {h₀ : Heap} {L a : Addr} {m : Str → Option Value} {news : List (Addr × Obj)} {value slice : Expr} {vs : List Value} {ys : List Str} {vk vl vu : Value} {ops : List Value} {Q : Value → Shared → Prop}
theorem l_rev (F : Fr h₀ L s.heap m) (N : News h₀ L s.heap news) (hl : s.heap.IsList a vs.toArray) (pk : IsPart vk (some (-1))) (hz : vs.length ≤ 1000000)
    (h : ∀ D h', Fr h₀ L h' m → News h₀ L h' ((D, listOf vs.reverse.toArray 0) :: news) → (∀ p ∈ news, p.1 < D) → Q (.ref D) { s with heap := h' })
    (hs : subscripted slice false (.ref a) (.ref s.heap.objs.size) = operate ops (getItem (.ref a) (.ref s.heap.objs.size))) (ht : ∀ r, letTemporaryGo value (.ref a) r = pure ()) :
    wpAny (model prog w) A (subscriptTail value slice (.ref a) (.ref s.heap.objs.size)) Q E { s with heap := s.heap.push { cls := .type "slice", data := .fields #[.none, .none, vk] } } :=
  krv_lit F N hl pk rfl h hs ht (by rw [List.size_toArray, sizeLine_eq]; omega)
theorem l_from {i : Nat} (F : Fr h₀ L s.heap m) (N : News h₀ L s.heap news) (hl : s.heap.IsList a vs.toArray) (pk : IsPart vl (some (i : Int))) (hi : i ≤ vs.length) (hz : vs.length ≤ 1000000)
    (h : ∀ D h', Fr h₀ L h' m → News h₀ L h' ((D, listOf (vs.drop i).toArray 0) :: news) → (∀ p ∈ news, p.1 < D) → Q (.ref D) { s with heap := h' })
    (hs : subscripted slice false (.ref a) (.ref s.heap.objs.size) = operate [.ref s.heap.objs.size, .ref a] (getItem (.ref a) (.ref s.heap.objs.size))) (ht : ∀ r, letTemporaryGo value (.ref a) r = pure ()) :
    wpAny (model prog w) A (subscriptTail value slice (.ref a) (.ref s.heap.objs.size)) Q E { s with heap := s.heap.push { cls := .type "slice", data := .fields #[vl, .none, .none] } } :=
  kmk_slice_lit F N hl pk .none (by rw [slicePick_from _ i (by rw [List.size_toArray]; exact hi)]) h hs ht (by rw [List.size_toArray, sizeLine_eq]; omega)
theorem l_to {i : Nat} (F : Fr h₀ L s.heap m) (N : News h₀ L s.heap news) (hl : s.heap.IsList a vs.toArray) (pk : IsPart vu (some (i : Int))) (hi : i ≤ vs.length) (hz : vs.length ≤ 1000000)
    (h : ∀ D h', Fr h₀ L h' m → News h₀ L h' ((D, listOf (vs.take i).toArray 0) :: news) → (∀ p ∈ news, p.1 < D) → Q (.ref D) { s with heap := h' })
    (hs : subscripted slice false (.ref a) (.ref s.heap.objs.size) = operate [.ref s.heap.objs.size, .ref a] (getItem (.ref a) (.ref s.heap.objs.size))) (ht : ∀ r, letTemporaryGo value (.ref a) r = pure ()) :
    wpAny (model prog w) A (subscriptTail value slice (.ref a) (.ref s.heap.objs.size)) Q E { s with heap := s.heap.push { cls := .type "slice", data := .fields #[.none, vu, .none] } } :=
  kmk_slice_lit F N hl .none pk (by rw [slicePick_upto _ i (by rw [List.size_toArray]; exact hi)]) h hs ht (by rw [List.size_toArray, sizeLine_eq]; omega)
theorem l_lenS (hl : s.heap.IsList a vs.toArray) (hi : StrsAre vs ys) (hz : ys.length ≤ 1000000) (h : ∀ t k, Q (.int ys.length t) { s with toks := k }) : wpAny (model prog w) A (call (.builtin "len") [.ref a]) Q E s :=
  l_len hl (by rw [hi.length]; exact hz) (by rw [hi.length]; exact h)
theorem l_itemS {i : Nat} {u : Tok} (hl : s.heap.IsList a vs.toArray) (hi : StrsAre vs ys) (hlt : (i : Int) < ys.length) (hz : ys.length ≤ 1000000) (h : ∀ y t, ys[i]? = some y → Q (.str y t) s)
    (hs : subscripted slice false (.ref a) (.int (i : Int) u) = operate [.ref a, .int (i : Int) u] (getItem (.ref a) (.int (i : Int) u)) := by with_unfolding_all rfl) :
    wpAny (model prog w) A (subscriptTail value slice (.ref a) (.int (i : Int) u)) Q E s := by
  have hy : ys[i]? = some (ys[i]'(by omega)) := List.getElem?_eq_getElem _
  obtain ⟨t, ht⟩ := StrsAre.at hi hy
  exact l_item hl ht (by omega) (h _ t hy) hs
end
/-- how many items at the front agree -/
noncomputable def alikeS : List Str → List Str → Nat
  | a :: r, b :: t => if a = b then alikeS r t + 1 else 0
  | _, _ => 0
theorem alikeS_le : ∀ a b : List Str, alikeS a b ≤ a.length ∧ alikeS a b ≤ b.length
  | [], b => by simp [alikeS]
  | _ :: _, [] => by simp [alikeS]
  | x :: r, y :: t => by
    have := alikeS_le r t
    simp only [alikeS, List.length_cons]
    split <;> omega
theorem alikeS_step : ∀ (a b : List Str) (i : Nat) (x : Str), i ≤ alikeS a b → a[i]? = some x → b[i]? = some x → i + 1 ≤ alikeS a b
  | [], _, i, x, _, h, _ => by simp at h
  | _ :: _, [], i, x, _, _, h => by simp at h
  | y :: r, z :: t, 0, x, _, h1, h2 => by
    simp at h1 h2
    subst h1 h2
    simp [alikeS]
  | y :: r, z :: t, i + 1, x, h, h1, h2 => by
    simp only [alikeS] at h ⊢
    split at h
    · rename_i e
      rw [if_pos e]
      have := alikeS_step r t i x (by omega) (by simpa using h1) (by simpa using h2)
      omega
    · omega
theorem alikeS_stop : ∀ (a b : List Str) (i : Nat) (x y : Str), i ≤ alikeS a b → a[i]? = some x → b[i]? = some y → x ≠ y → i = alikeS a b
  | [], _, i, x, _, _, h, _, _ => by simp at h
  | _ :: _, [], i, x, _, _, _, h, _ => by simp at h
  | y :: r, z :: t, 0, x, x', _, h1, h2, hne => by
    simp at h1 h2
    subst h1 h2
    simp [alikeS, hne]
  | y :: r, z :: t, i + 1, x, x', h, h1, h2, hne => by
    simp only [alikeS] at h ⊢
    split at h
    · rename_i e
      rw [if_pos e]
      have := alikeS_stop r t i x x' (by omega) (by simpa using h1) (by simpa using h2) hne
      omega
    · omega
theorem dnS_len (x : Str) : (dnS x).length ≤ x.length := by
  have h1 : (hdS x).length ≤ x.length := Txt.slice_le x _ _
  have h2 : (Txt.rstripChars (hdS x) (Str.ofString "/")).length ≤ (hdS x).length := PyProof.Rows.len_rstripChars _ _
  unfold dnS
  split
  · exact h1
  · split
    · exact h1
    · exact Nat.le_trans h2 h1
/-- the climb -/
noncomputable def climbF : Nat → Str → List Str → Str × List Str
  | 0, here, names => (here, names)
  | n + 1, here, names => if (bnS here).length ≠ 0 then climbF n (dnS here) (names ++ [bnS here]) else (here, names)
noncomputable def climbS (x : Str) : Str × List Str := ((climbF (x.length + 1) x []).1, (climbF (x.length + 1) x []).2.reverse)
/-- a whole number's figures -/
noncomputable def figsS (x : Str) : Str := if Txt.slice x none (some 1) = Str.ofString "-" then Txt.slice x (some 1) none else x
noncomputable def digS (c : Nat) : Int := Txt.find (Str.ofString "0123456789") ⟨#[c]⟩
noncomputable def numStep (acc : Option Int) (c : Nat) : Option Int := acc.bind fun v => if digS c < 0 then none else some (v * 10 + digS c)
noncomputable def numS (x : Str) : Option Int := if (figsS x).length = 0 then none else ((figsS x).cps.toList.foldl numStep (some 0)).map fun v => if Txt.slice x none (some 1) = Str.ofString "-" then -v else v
theorem num_take {y : Str} {i c : Nat} {n : Int} (hc : y.cps[i]? = some c) (hI : (y.cps.toList.take i).foldl numStep (some 0) = some n) : (y.cps.toList.take (i + 1)).foldl numStep (some 0) = if digS c < 0 then none else some (n * 10 + digS c) := by
  have e : y.cps.toList[i]? = some c := by rw [Array.getElem?_toList]; exact hc
  rw [List.take_add_one, e, List.foldl_append, hI]
  rfl
theorem numStep_none (l : List Nat) : l.foldl numStep none = none := by
  induction l with
  | nil => rfl
  | cons c r ih => exact ih
theorem num_stuck {y : Str} {i : Nat} (h : (y.cps.toList.take i).foldl numStep (some 0) = none) : y.cps.toList.foldl numStep (some 0) = none := by
  have e := List.take_append_drop i y.cps.toList
  rw [← e, List.foldl_append, h, numStep_none]
theorem bn_fact {r : Value} {x : Str} {t : Tok} (_ : r = .str (bnS x) t) : (bnS x).length ≤ x.length := Txt.slice_le x _ _
theorem dn_fact {r : Value} {x : Str} {t : Tok} (_ : r = .str (dnS x) t) : (dnS x).length ≤ x.length := dnS_len x
theorem sp_fact {h : Heap} {a : Addr} {x : Str} {t1 t2 : Tok} (_ : h.get? a = some (tupOf [.str (dnS x) t1, .str (bnS x) t2])) : (dnS x).length ≤ x.length ∧ (bnS x).length ≤ x.length := ⟨dnS_len x, Txt.slice_le x _ _⟩
theorem num_none1 {x : Str} {i c : Nat} {n : Int} (h : Txt.find (Str.ofString "0123456789") ⟨#[c]⟩ < 0) (hft : ((figsS x).cps.toList.take (i + 1)).foldl numStep (some 0) = if digS c < 0 then none else some (n * 10 + digS c)) : numS x = none := by
  have h' : digS c < 0 := h
  rw [if_pos h'] at hft
  unfold numS
  rw [num_stuck hft]
  split <;> rfl
theorem num_none2 {x : Str} (h : (figsS x == Str.ofString "") = true) : numS x = none := by
  unfold numS
  rw [if_pos (by rw [eq_of_beq h]; decide)]
theorem num_some {x : Str} {n : Int} {k : Nat} (h : (figsS x == Str.ofString "") = false) (hk : k = (figsS x).length) (hI : ((figsS x).cps.toList.take k).foldl numStep (some 0) = some n) : numS x = some (if Txt.slice x none (some 1) = Str.ofString "-" then -n else n) := by
  have hl : (figsS x).length ≠ 0 := by
    intro e
    have : figsS x = Str.ofString "" := PySem.Str.ext' (by
      have e' : (figsS x).cps.size = 0 := e
      rw [Array.eq_empty_of_size_eq_zero e']; decide)
    rw [this] at h; simp at h
  have e : (figsS x).cps.toList.take k = (figsS x).cps.toList := by
    rw [hk]; exact List.take_of_length_le (by rw [Array.length_toList]; exact Nat.le_refl _)
  rw [e] at hI
  unfold numS
  rw [if_neg hl, hI]
  rfl
theorem climb_step {x here : Str} {ns : List Str} (h0 : ((bnS here).length : Int) ≠ 0) (h1 : (ns.length : Int) ≤ x.length) (hI : climbF (x.length + 1 - ns.length) here ns = climbF (x.length + 1) x []) :
    climbF (x.length + 1 - (ns ++ [bnS here]).length) (dnS here) (ns ++ [bnS here]) = climbF (x.length + 1) x [] := by
  rw [← hI, List.length_append]
  have e : x.length + 1 - ns.length = (x.length + 1 - (ns.length + [bnS here].length)) + 1 := by simp only [List.length_cons, List.length_nil]; omega
  rw [e]
  show _ = if (bnS here).length ≠ 0 then _ else _
  rw [if_pos (by omega)]
theorem climb_end1 {x here : Str} {ns : List Str} (h0 : ((bnS here).length : Int) = 0) (hI : climbF (x.length + 1 - ns.length) here ns = climbF (x.length + 1) x []) : climbF (x.length + 1) x [] = (here, ns) := by
  rw [← hI]
  cases x.length + 1 - ns.length with
  | zero => rfl
  | succ k =>
    show (if (bnS here).length ≠ 0 then _ else _) = _
    rw [if_neg (by omega)]
theorem climb_end2 {x here : Str} {ns : List Str} (h1 : ¬ (ns.length : Int) ≤ x.length) (hI : climbF (x.length + 1 - ns.length) here ns = climbF (x.length + 1) x []) : climbF (x.length + 1) x [] = (here, ns) := by
  rw [← hI, show x.length + 1 - ns.length = 0 by omega]
  rfl
theorem strs_rev {vs : List Value} {ys : List Str} (h : StrsAre vs ys) : StrsAre vs.reverse ys.reverse := by
  induction h with
  | nil => exact .nil
  | cons y t _ ih => rw [List.reverse_cons, List.reverse_cons]; exact strs_snoc ih y t
theorem climb_fst {x here : Str} {ns : List Str} (h : climbF (x.length + 1) x [] = (here, ns)) : (climbS x).1 = here ∧ (climbS x).2 = ns.reverse := by
  unfold climbS; rw [h]; exact ⟨rfl, rfl⟩
/-- a place: two whole numbers with one dot between -/
noncomputable def placeS (x : Str) : Option (Int × Int) := if Txt.count x (Str.ofString ".") ≠ 1 then none else
  match numS (Txt.slice x none (some (Txt.find x (Str.ofString ".")))), numS (Txt.slice x (some (Txt.find x (Str.ofString ".") + 1)) none) with
  | some a, some b => some (a, b)
  | _, _ => none
/-- how an answer bears a place -/
noncomputable def PlaceIs (h h' : Heap) (r : Value) (x : Option (Int × Int)) : Prop := match x with
  | none => ∃ t, r = .str (Str.ofString "refused") t
  | some p => ∃ a t1 t2, r = .ref a ∧ h.get? a = none ∧ h'.get? a = some (tupOf [.int p.1 t1, .int p.2 t2])
theorem place_none1 {x : Str} (h : Txt.count x (Str.ofString ".") ≠ 1) : placeS x = none := by unfold placeS; rw [if_pos h]
theorem place_none2 {x : Str} (h : numS (Txt.slice x none (some (Txt.find x (Str.ofString ".")))) = none) : placeS x = none := by unfold placeS; rw [h]; split <;> rfl
theorem place_none3 {x : Str} (h : numS (Txt.slice x (some (Txt.find x (Str.ofString ".") + 1)) none) = none) : placeS x = none := by
  unfold placeS; rw [h]
  split
  · rfl
  · cases numS (Txt.slice x none (some (Txt.find x (Str.ofString ".")))) <;> rfl
theorem place_some {x : Str} {a b : Int} (h : Txt.count x (Str.ofString ".") = 1) (ha : numS (Txt.slice x none (some (Txt.find x (Str.ofString ".")))) = some a) (hb : numS (Txt.slice x (some (Txt.find x (Str.ofString ".") + 1)) none) = some b) : placeS x = some (a, b) := by
  unfold placeS; rw [if_neg (by omega), ha, hb]
end piece_L5
section piece_L6
/-- the signs that the law's texts are made of: - . / 0..9 a -/
noncomputable abbrev Sg (c : Nat) : Prop := c = 97 ∨ (45 ≤ c ∧ c ≤ 57)
noncomputable abbrev Al (x : Str) : Prop := ∀ c ∈ x.cps.toList, Sg c
theorem al_app {x y : Str} (hx : Al x) (hy : Al y) : Al (x ++ y) := by
  intro c hc
  rw [PyProof.Rows.cps_toList_append, List.mem_append] at hc
  rcases hc with h | h
  · exact hx c h
  · exact hy c h
theorem al_num {n : Int} (h0 : 0 ≤ n) : Al (Str.ofString (toString n)) := by
  obtain ⟨k, rfl⟩ := Int.eq_ofNat_of_zero_le h0
  intro c hc
  have e : (PySem.Str.ofString (toString ((k : Nat) : Int))).cps.toList = (Nat.toDigits 10 k).map Char.toNat := PySem.W.KIN.signs_num k
  rw [e] at hc
  obtain ⟨ch, hch, rfl⟩ := List.mem_map.mp hc
  have r := digit_range (Nat.isDigit_of_mem_toDigits (by decide) (by decide) hch)
  exact .inr ⟨by omega, by omega⟩
/-- what a script's parts are -/
noncomputable def PartsOk (i : Nat) (xs : List Str) : Prop := xs ≠ [] ∧ xs.length ≤ i + 1 ∧ sumLen xs ≤ 8 * i + 6 ∧ ∀ x ∈ xs, Al x
theorem parts_first {x : Str} (h : x ∈ [Str.ofString "3.1", Str.ofString "/3.1", Str.ofString "//3.1", Str.ofString "///3.1"]) : PartsOk 0 [x] := by
  simp only [List.mem_cons, List.not_mem_nil, or_false] at h
  rcases h with rfl | rfl | rfl | rfl <;> refine ⟨by simp, by simp, by decide, by decide⟩
theorem parts_new {i : Nat} {xs : List Str} (h : PartsOk i xs) : PartsOk (i + 1) (xs ++ [Str.ofString ""]) := by
  obtain ⟨h1, h2, h3, h4⟩ := h
  refine ⟨by simp, by simp; omega, ?_, ?_⟩
  · rw [sumLen_append]
    have : sumLen [Str.ofString ""] = 0 := by decide
    omega
  · intro x hx
    rcases List.mem_append.mp hx with h | h
    · exact h4 x h
    · rw [List.mem_singleton.mp h]; decide
theorem parts_more {i : Nat} {xs : List Str} {y z : Str} (h : PartsOk i xs) (hy : xs.getLast? = some y) (hz : Al z) (hl : z.length ≤ 8) : PartsOk (i + 1) (xs.dropLast ++ [y ++ z]) := by
  obtain ⟨h1, h2, h3, h4⟩ := h
  obtain ⟨ys, rfl⟩ := List.getLast?_eq_some_iff.mp hy
  refine ⟨by simp, ?_, ?_, ?_⟩
  · simp only [List.dropLast_concat, List.length_append, List.length_cons, List.length_nil] at h2 ⊢; omega
  · rw [sumLen_append] at h3 ⊢
    rw [List.dropLast_concat]
    have e1 : sumLen [y ++ z] = y.length + z.length := by rw [sumLen_cons, sumLen_nil, len_append]; omega
    have e2 : sumLen [y] = y.length := by rw [sumLen_cons, sumLen_nil]; omega
    omega
  · intro x hx
    rw [List.dropLast_concat] at hx
    rcases List.mem_append.mp hx with h | h
    · exact h4 x (List.mem_append_left _ h)
    · rw [List.mem_singleton.mp h]; exact al_app (h4 y (List.mem_append_right _ (.head _))) hz
theorem num_le {n : Int} (h0 : 0 ≤ n) (h : n < 10 ^ 3) : (Str.ofString (toString n)).length ≤ 3 := PyProof.Rows.toString_length_le h0 (by decide) h
/-- a token of the script: a written one, or one made of two small numbers -/
theorem token_ok {a b c : Int} (ha : 0 ≤ a ∧ a < 10 ^ 3) (hb : 0 ≤ b ∧ b < 10 ^ 3) (hc : 0 ≤ c ∧ c < 10 ^ 3) {x : Str} (h : x ∈ [Str.ofString "", Str.ofString "/", Str.ofString "/", Str.ofString ".", Str.ofString "/../", Str.ofString "-", Str.ofString "a", Str.ofString (toString a), (Str.ofString (toString b) ++ Str.ofString ".") ++ Str.ofString (toString c), Str.ofString "/" ++ ((Str.ofString (toString b) ++ Str.ofString ".") ++ Str.ofString (toString c)), Str.ofString "..", Str.ofString "0"]) : Al x ∧ x.length ≤ 8 := by
  have la := num_le ha.1 ha.2
  have lb := num_le hb.1 hb.2
  have lc := num_le hc.1 hc.2
  have l1 : (Str.ofString ".").length = 1 := by decide
  have l2 : (Str.ofString "/").length = 1 := by decide
  have A1 : Al (Str.ofString ".") := by decide
  have A2 : Al (Str.ofString "/") := by decide
  have Ab := al_app (al_app (al_num hb.1) A1) (al_num hc.1)
  simp only [List.mem_cons, List.not_mem_nil, or_false] at h
  rcases h with rfl | rfl | rfl | rfl | rfl | rfl | rfl | rfl | rfl | rfl | rfl | rfl
  · exact ⟨by decide, by decide⟩
  · exact ⟨by decide, by decide⟩
  · exact ⟨by decide, by decide⟩
  · exact ⟨by decide, by decide⟩
  · exact ⟨by decide, by decide⟩
  · exact ⟨by decide, by decide⟩
  · exact ⟨by decide, by decide⟩
  · exact ⟨al_num ha.1, by omega⟩
  · exact ⟨Ab, by rw [len_append, len_append]; omega⟩
  · exact ⟨al_app A2 Ab, by rw [len_append, len_append, len_append]; omega⟩
  · exact ⟨by decide, by decide⟩
  · exact ⟨by decide, by decide⟩
section
variable {prog : Program} {w : World} {A : Around} {E : Value → Shared → Prop} {s : Shared} {h₀ : Heap} {L a : Addr} {m : Str → Option Value} {news news' : List (Addr × Obj)} {vs : List Value} {n : Nat}
theorem t_itemS {value slice : Expr} {ys : List Str} {k : Int} {u : Tok} {Q : Value → Shared → Prop} (hl : IsTup s.heap a vs.toArray) (hi : StrsAre vs ys)
    (h0 : 0 ≤ k) (hk : k < ys.length) (hfit : k < 2 ^ 63) (h : ∀ y t', y ∈ ys → Q (.str y t') s)
    (hs : subscripted slice false (.ref a) (.int k u) = operate [.ref a, .int k u] (getItem (.ref a) (.int k u)) := by with_unfolding_all rfl) :
    wpAny (model prog w) A (subscriptTail value slice (.ref a) (.int k u)) Q E s := by
  have hlt : k.toNat < ys.length := by omega
  have e : ys[k.toNat]? = some (ys.getD k.toNat Str.empty) := by simp [List.getD, hlt]
  obtain ⟨t, ht⟩ := hi.at e
  have hj : seqIndex? k vs.length = some k.toNat := by
    rw [hi.len_eq]
    exact StrLaws.seqIndex_nonneg h0 hk
  refine item_tupleT hl (by omega) hfit hj ht (h _ t ?_) hs
  exact List.mem_of_getElem? e
theorem setL_last (v y : Value) : ∀ p : List Value, ki_setL (p ++ [y]) p.length v = some (p ++ [v])
  | [] => rfl
  | x :: p => by show (match ki_setL (p ++ [y]) p.length v with | some q => some (x :: q) | none => none) = _; rw [setL_last v y p]; rfl
/-- the last item of a made list is set -/
theorem l_setLast {v : Value} {u : Tok} {Q : Unit → Shared → Prop} (F : Fr h₀ L s.heap m) (N : News h₀ L s.heap news) (hne : vs ≠ []) (U : Upd a (listOf vs.toArray n) (listOf (vs.dropLast ++ [v]).toArray n) news news')
    (h : ∀ h', Fr h₀ L h' m → News h₀ L h' news' → Q () { s with heap := h' }) : wpAny (model prog w) A (setItem (.ref a) (.int (-1) u) v) Q E s := by
  have hp : 0 < vs.length := List.length_pos_iff.mpr hne
  refine ki_setNeg F N (by decide) (by decide) (j := vs.length - 1) ?_ ?_ U h
  · rw [List.size_toArray]
    unfold seqIndex?
    simp only [show (-1 : Int) < 0 by decide, if_true]
    rw [if_pos (by simp only [Bool.and_eq_true, decide_eq_true_eq]; omega)]
    congr 1; omega
  · have e : vs = vs.dropLast ++ [vs.getLast hne] := (List.dropLast_concat_getLast hne).symm
    have el : vs.dropLast.length = vs.length - 1 := List.length_dropLast
    have := setL_last v (vs.getLast hne) vs.dropLast
    rw [← e, el] at this
    exact this
end
theorem parts_mono {i j : Nat} {xs : List Str} (h : PartsOk i xs) (hij : i ≤ j) : PartsOk j xs := by
  obtain ⟨h1, h2, h3, h4⟩ := h
  exact ⟨h1, by omega, by omega, h4⟩
theorem last_len {xs : List Str} {y : Str} (h : xs.getLast? = some y) : y.length ≤ sumLen xs := by
  rw [List.getLast?_eq_getElem?] at h
  exact len_mem h
theorem cell_ok {ns : List Int} {i : Nat} {z : Int} (h : (List.map (fun k' => (if k' < 0 then -k' else k').fmod (10 ^ Int.toNat 6)) ns)[i]? = some z) : 0 ≤ z ∧ z < 1000000 := by
  rw [List.getElem?_map] at h
  obtain ⟨k, _, rfl⟩ := Option.map_eq_some_iff.mp h
  exact ⟨fmod_lo _ (by decide), Int.lt_of_lt_of_le (fmod_hi _ (by decide)) (by decide)⟩
/-- the answer of the reading of a script -/
noncomputable def PartsAre (h h' : Heap) (r : Value) : Prop := ∃ a vs xs n, r = .ref a ∧ h.get? a = none ∧ h'.get? a = some (listOf vs.toArray n) ∧ StrsAre vs xs ∧ PartsOk 24 xs
theorem ints_item {vs : List Value} {ns : List Int} (h : IntsAre vs ns) : ∀ (i : Nat) (v : Value), vs[i]? = some v → ∃ z t, v = .int z t ∧ ns[i]? = some z := by
  induction h with
  | nil => intro i v hv; cases hv
  | cons z t _ ih =>
    intro i v hv
    cases i with
    | zero => cases hv; exact ⟨z, t, rfl, rfl⟩
    | succ i => exact ih i v hv
end piece_L6
section piece_L7
/-- the place of the last part that opens with a slash -/
noncomputable def fstN (xs : List Str) : Nat → Nat
  | 0 => 0
  | i + 1 => if Txt.slice (xs.getD i Str.empty) none (some 1) = Str.ofString "/" then i else fstN xs i
noncomputable def fstS (xs : List Str) : Nat := fstN xs xs.length
theorem fstN_lt (xs : List Str) : ∀ i, i ≠ 0 → fstN xs i < i
  | 0, h => absurd rfl h
  | 1, _ => by show (if _ then 0 else 0) < 1; split <;> decide
  | i + 2, _ => by
    show (if _ then i + 1 else fstN xs (i + 1)) < i + 2
    split
    · exact Nat.lt_succ_self (i + 1)
    · exact Nat.lt_succ_of_lt (fstN_lt xs (i + 1) (Nat.succ_ne_zero i))
theorem fstN_le (xs : List Str) (i : Nat) : fstN xs i ≤ i := by
  cases i with
  | zero => exact Nat.le_refl _
  | succ i => exact Nat.le_of_lt (fstN_lt xs (i + 1) (by omega))
theorem getD_of {xs : List Str} {i : Nat} {y : Str} (h : xs[i]? = some y) : xs.getD i Str.empty = y := by simp [List.getD, h]
theorem fst_yes {xs : List Str} {i : Nat} {y : Str} (h : xs[i]? = some y) (hy : Txt.slice y none (some 1) = Str.ofString "/") : fstN xs (i + 1) = i := if_pos (by rw [getD_of h]; exact hy)
theorem fst_no {xs : List Str} {i : Nat} {y : Str} (h : xs[i]? = some y) (hy : ¬ Txt.slice y none (some 1) = Str.ofString "/") : fstN xs (i + 1) = fstN xs i := if_neg (by rw [getD_of h]; exact hy)
/-- the count of slashes at the head -/
noncomputable def slN (x : Str) : Nat := (x.cps.toList.takeWhile (· == 47)).length
noncomputable def rtS (n : Nat) : Str := if n = 2 then Str.ofString "//" else if n ≠ 0 then Str.ofString "/" else Str.ofString ""
/-- the pieces read from the end: what is kept, and the count of .. that still take one -/
noncomputable def strStep (c : List Str × Nat) (p : Str) : List Str × Nat :=
  if p = Str.ofString ".." then (c.1, c.2 + 1)
  else if p ≠ Str.ofString "" ∧ p ≠ Str.ofString "." then (if c.2 ≠ 0 then (c.1, c.2 - 1) else (c.1 ++ [p], c.2))
  else c
noncomputable def piecesS (xs : List Str) : List Str := (xs.drop (fstS xs)).flatMap fun p => Txt.split p (Str.ofString "/")
noncomputable def sroot (xs : List Str) : Str := rtS (slN (xs.getD (fstS xs) Str.empty))
noncomputable def skept (xs : List Str) : List Str × Nat := (piecesS xs).reverse.foldl strStep ([], 0)
noncomputable def spieces (xs : List Str) : List Str :=
  (if sroot xs = Str.ofString "" then (skept xs).1 ++ List.replicate (skept xs).2 (Str.ofString "..") else (skept xs).1).reverse
/-- a tuple of a text and a list of texts -/
noncomputable def RootList (h h' : Heap) (r : Value) (x : Str) (ys : List Str) : Prop := ∃ a b vs n t1, r = .ref a ∧ h.get? a = none ∧ h'.get? a = some (tupOf [.str x t1, .ref b]) ∧ h.get? b = none ∧ h'.get? b = some (listOf vs.toArray n) ∧ StrsAre vs ys
section
variable {M : Model} {A : Around} {E : Value → Shared → Prop} {s : Shared}
noncomputable def IsTxt (X : Str) (s : Shared) (v : Value) (s' : Shared) : Prop := ∃ t tk, v = .str X t ∧ s' = { s with toks := tk }
theorem IsTxt.mk {X Y : Str} {s : Shared} {t : Tok} {tk : Nat} (h : Y = X) : IsTxt X s (.str Y t) { s with toks := tk } := ⟨t, tk, by rw [h], rfl⟩
/-- a part of the walk that answers one text and touches no heap is walked apart -/
theorem cut_str {a : Sem Value} {Q : Value → Shared → Prop} (X : Str) (h1 : wpAny M A a (fun v s' => IsTxt X s v s') E s) (h2 : ∀ t tk, Q (.str X t) { s with toks := tk }) : wpAny M A a Q E s :=
  wpAny_mono h1 (fun v s' h => by obtain ⟨t, tk, rfl, rfl⟩ := h; exact h2 t tk) (fun _ _ h => h)
end
theorem rt2 {n : Nat} (h : (n : Int) = 2) : Str.ofString "//" = rtS n := (if_pos (by omega)).symm
theorem rt1 {n : Nat} (h : (n : Int) ≠ 2) (h0 : (n : Int) ≠ 0) : Str.ofString "/" = rtS n := by
  unfold rtS; rw [if_neg (by omega), if_pos (by omega)]
theorem rt0 {n : Nat} (h0 : (n : Int) = 0) : Str.ofString "" = rtS n := by
  unfold rtS; rw [if_neg (by omega), if_neg (by omega)]
noncomputable def CutMark : Prop := True
theorem CutMark.mk : CutMark := trivial
theorem strs_drop {vs : List Value} {ys : List Str} (h : StrsAre vs ys) : ∀ k : Nat, StrsAre (vs.drop k) (ys.drop k) := by
  induction h with
  | nil => intro k; rw [List.drop_nil, List.drop_nil]; exact .nil
  | cons y t hr ih =>
    intro k
    cases k with
    | zero => exact .cons y t hr
    | succ k => exact ih k
theorem sumLen_drop (xs : List Str) (k : Nat) : sumLen (xs.drop k) ≤ sumLen xs := by
  have e := List.take_append_drop k xs
  have h : sumLen xs = sumLen (xs.take k) + sumLen (xs.drop k) := by rw [← sumLen_append, e]
  omega
theorem pieces_len : ∀ xs : List Str, (xs.flatMap fun p => Txt.split p (Str.ofString "/")).length ≤ xs.length + sumLen xs
  | [] => Nat.zero_le _
  | x :: r => by
    have h1 := split_len x
    have h2 := pieces_len r
    rw [List.flatMap_cons, List.length_append, List.length_cons, sumLen_cons]
    omega
theorem str_take {xs : List Str} {i : Nat} {p : Str} {c : List Str × Nat} (h : xs[i]? = some p) (hI : (xs.take i).foldl strStep ([], 0) = c) : (xs.take (i + 1)).foldl strStep ([], 0) = strStep c p := by
  rw [List.take_add_one, h, List.foldl_append, hI]; rfl
theorem str_dd {c : List Str × Nat} {p : Str} (h : (p == Str.ofString "..") = true) : strStep c p = (c.1, c.2 + 1) := if_pos (eq_of_beq h)
theorem str_skip1 {c : List Str × Nat} {p : Str} (h : (p == Str.ofString "..") = false) (h2 : (p != Str.ofString "") = false) : strStep c p = c := by
  unfold strStep; rw [if_neg (ne_of_beq_false h), if_neg (fun e => e.1 (by simpa using h2))]
theorem str_skip2 {c : List Str × Nat} {p : Str} (h : (p == Str.ofString "..") = false) (h2 : (p != Str.ofString ".") = false) : strStep c p = c := by
  unfold strStep; rw [if_neg (ne_of_beq_false h), if_neg (fun e => e.2 (by simpa using h2))]
theorem str_pay {c : List Str × Nat} {p : Str} (h : (p == Str.ofString "..") = false) (h2 : (p != Str.ofString "") = true) (h3 : (p != Str.ofString ".") = true) (h4 : (c.2 : Int) ≠ 0) : strStep c p = (c.1, c.2 - 1) := by
  unfold strStep; rw [if_neg (ne_of_beq_false h), if_pos ⟨by simpa using h2, by simpa using h3⟩, if_pos (by omega)]
theorem str_keep {c : List Str × Nat} {p : Str} (h : (p == Str.ofString "..") = false) (h2 : (p != Str.ofString "") = true) (h3 : (p != Str.ofString ".") = true) (h4 : (c.2 : Int) = 0) : strStep c p = (c.1 ++ [p], c.2) := by
  unfold strStep; rw [if_neg (ne_of_beq_false h), if_pos ⟨by simpa using h2, by simpa using h3⟩, if_neg (by omega)]
theorem strStep_len (c : List Str × Nat) (p : Str) : (strStep c p).1.length ≤ c.1.length + 1 ∧ (strStep c p).2 ≤ c.2 + 1 := by
  unfold strStep
  split
  · exact ⟨Nat.le_succ _, Nat.le_refl _⟩
  · split
    · split
      · exact ⟨Nat.le_succ _, by show c.2 - 1 ≤ c.2 + 1; omega⟩
      · exact ⟨by simp, Nat.le_succ _⟩
    · exact ⟨Nat.le_succ _, Nat.le_succ _⟩
theorem strFold_len : ∀ (xs : List Str) (c : List Str × Nat), (xs.foldl strStep c).1.length ≤ c.1.length + xs.length ∧ (xs.foldl strStep c).2 ≤ c.2 + xs.length
  | [], c => ⟨Nat.le_refl _, Nat.le_refl _⟩
  | x :: r, c => by
    have h1 := strStep_len c x
    have h2 := strFold_len r (strStep c x)
    simp only [List.foldl_cons, List.length_cons]
    omega
theorem news_swap {h₀ h : Heap} {L : Addr} {p q : Addr × Obj} {rest : List (Addr × Obj)} (N : News h₀ L h (p :: q :: rest)) : News h₀ L h (q :: p :: rest) := fun r hr => N r (by
  rcases List.mem_cons.mp hr with rfl | hr
  · exact List.Mem.tail _ (List.Mem.head _)
  · rcases List.mem_cons.mp hr with rfl | hr
    · exact List.Mem.head _
    · exact List.Mem.tail _ (List.Mem.tail _ hr))
theorem strs_rep (x : Str) (t : Tok) (k : Nat) : StrsAre (List.replicate ((k : Nat) : Int).toNat (#[Value.str x t] : Array Value).toList).flatten (List.replicate k x) := by
  rw [Int.toNat_natCast]
  induction k with
  | zero => exact .nil
  | succ k ih =>
    rw [List.replicate_succ, List.replicate_succ, List.flatten_cons]
    exact .cons x t ih
section
variable {prog : Program} {w : World} {A : Around} {E : Value → Shared → Prop} {s : Shared} {h₀ : Heap} {L a b : Addr} {m : Str → Option Value} {news news' : List (Addr × Obj)} {vs ws : List Value} {ys zs : List Str} {n : Nat}
theorem l_catS {Q : Value → Shared → Prop} (F : Fr h₀ L s.heap m) (N : News h₀ L s.heap news) (ha : s.heap.IsList a vs.toArray) (hb : s.heap.IsList b ws.toArray) (hi : StrsAre vs ys) (hj : StrsAre ws zs) (hz : ys.length + zs.length ≤ 1000000)
    (h : ∀ D h', Fr h₀ L h' m → News h₀ L h' ((D, listOf (vs ++ ws).toArray 0) :: news) → (∀ p ∈ news, p.1 < D) → StrsAre (vs ++ ws) (ys ++ zs) → (vs ++ ws).length ≤ 1000000 → Q (.ref D) { s with heap := h' }) :
    wpAny (model prog w) A (binaryOp .Add (.ref a) (.ref b)) Q E s := by
  have h1 := hi.length
  have h2 := hj.length
  refine kmk_add_lit F N ha hb (zs := vs ++ ws) (by simp) (fun D h' F' N' l1 => h D h' F' N' l1 (StrsAre.append' hi hj) (by rw [List.length_append]; omega)) ?_
  rw [sizeLine_eq]
  simp only [List.size_toArray]
  omega
end
end piece_L7
section piece_L1
theorem kind_isub : builtinKind "issubclass" = none := by decide +kernel
theorem plain_isub : plainId "issubclass" = true := by decide +kernel
theorem args_isub (a b : Value) : argsOk "issubclass" ⟨[a, b], []⟩ := by unfold argsOk; kernel_rfl
theorem entry_isub : entryFor table "issubclass" = some Builtin.«issubclass» := entryFor_of_tree (by kernel_rfl)
theorem kind_isubn : builtinKind "issubclass.nested" = none := by decide +kernel
theorem plain_isubn : plainId "issubclass.nested" = true := by decide +kernel
theorem args_isubn (a b c : Value) : argsOk "issubclass.nested" ⟨[a, b, c], []⟩ := by unfold argsOk; kernel_rfl
theorem entry_isubn : entryFor table "issubclass.nested" = some Builtin.«issubclass.nested» := entryFor_of_tree (by kernel_rfl)
theorem type_str_is : typeOf (.type "str") = pure (.type "type") := by
  kernel_rfl

section
variable {prog : Program} {w : World} {A : Around} {E : Value → Shared → Prop}
theorem isub_inner {dep : Int} {tk : Tok} {s : Shared} {Q : Fin → Shared → Prop} (hq : Q (.done (.ret (.bool true))) s) :
    wpAny (model prog w) A (Builtin.«issubclass.nested» ⟨[.type "str", .type "str", .int dep tk], []⟩) Q E s := by
  obtain ⟨h, g, d, t, os⟩ := s
  have f1 : isSubtype (.type "str") (.type "str") = pure true := by rw [isSubtype_type]; kernel_rfl
  have f2 := type_str_is
  repeat (any_goals (first | assumption | wp_step))

theorem isub_items {cs : List Value} {tp : Addr} {tk : Tok} {s : Shared} {Q : Fin → Shared → Prop} (hcs : cs = [.type "str", .type "bytes"]) (htp : s.heap.get? tp = some { cls := .type "tuple", data := .seq cs.toArray })
    (hq : ∀ tk, Q (.done (.ret (.bool true))) { s with toks := tk }) :
    wpAny (model prog w) A (Builtin.«issubclass.nested» ⟨[.type "str", .ref tp, .int 0 tk], []⟩) Q E s := by
  obtain ⟨h, g, d, t, os⟩ := s
  have hT2 : (⟨h, g, d, t, os⟩ : Shared).TypeIs (.ref tp) "tuple" := ⟨_, htp, rfl⟩
  have f1 := F.isi_sub_tuple
  repeat (any_goals (first | assumption | wp_step))
  refine wpAny_arrayLoop ?_
  subst hcs
  simp only [Option.getD_some, List.toList_toArray]
  rw [List.forIn_cons]
  refine wpAny_bind (wpAny_bind (call_function_meets (S := fun _ R s => R (.ok (.ret (.bool true))) s) kind_isubn plain_isubn entry_isubn (args_isubn _ _ _) (fun prog w A R s h => isub_inner h) ?_))
  show wpAny _ _ (truthy (.bool true) >>= _) _ _ _
  refine wpAny_bind (m := truthy (.bool true)) (wpAny_pure ?_)
  repeat (any_goals (first | assumption | wp_step))
  exact hq t
theorem isub_str {tp : Addr} {s : Shared} {Q : Value → Shared → Prop} (htp : s.heap.get? tp = some { cls := .type "tuple", data := .seq #[.type "str", .type "bytes"] })
    (hq : ∀ tk, Q (.bool true) { s with toks := tk }) :
    wpAny (model prog w) A (call (.builtin "issubclass") [.type "str", .ref tp]) Q E s := by
  refine call_function_meets (S := fun _ R s => s.heap.get? tp = some { cls := .type "tuple", data := .seq #[.type "str", .type "bytes"] } ∧ ∀ tk, R (.ok (.ret (.bool true))) { s with toks := tk }) kind_isub plain_isub entry_isub (args_isub _ _) (fun prog w A R s h => ?_) ⟨htp, hq⟩
  repeat (any_goals (first | assumption | wp_step))
  refine ⟨Code.quiet_builtin _ (by decide +kernel), codeAny_builtin entry_isubn ?_⟩
  rw [Around.under_plain (show (Code.builtin "issubclass.nested" ⟨[.type "str", .ref tp, rawInt 0], []⟩).weight = 0 from rfl) rfl]
  exact isub_items rfl h.1 h.2
end
end piece_L1
section piece_L3
theorem news_add {h₀ h h' : Heap} {L a : Addr} {m : Str → Option Value} {news : List (Addr × Obj)} {o : Obj} (F : Fr h₀ L h m) (N : News h₀ L h' news) (hn : h.get? a = none) (hg : h'.get? a = some o) : News h₀ L h' ((a, o) :: news) := by
  intro p hp
  rcases List.mem_cons.mp hp with rfl | hp
  · refine ⟨hg, fun e => ?_, ?_⟩
    · obtain ⟨oL, _, _, hL, _⟩ := F.ns
      simp only at e
      rw [← e, hn] at hL; cases hL
    · cases q : h₀.get? a with
      | none => rfl
      | some o' => have := F.keep _ _ q; rw [hn] at this; cases this
  · exact N p hp
theorem news_ne {h₀ h : Heap} {L a : Addr} {news : List (Addr × Obj)} (N : News h₀ L h news) (hn : h.get? a = none) : ∀ p ∈ news, p.1 ≠ a := by
  intro p hp e
  have := (N p hp).1
  rw [e, hn] at this; cases this

theorem wp_peek1E {α : Type} {K : Frag} {M : Model} {A : Around} {E : Value → Shared → Prop} {Q : α → Shared → Prop} {s : Shared} {o : Obj} {r : Addr → α}
    (X : K.In s.heap) (q : Q (r s.heap.objs.size) { s with heap := s.heap.push o }) :
    ∀ (t : Sem α) (g : Addr → Option α), peek1 K ⟨M.prog, M.w.params⟩ t = some (o, g) → (∀ D, g D = some (r D)) → wpAny M A t Q E s := by
  intro t
  induction t with
  | rule _ k ih => intro g e hg Γ p hΓ; exact ih () g e hg Γ p hΓ
  | point _ k ih => intro g e hg Γ p hΓ; exact ih () g e hg Γ p hΓ
  | ask k ih => intro g e hg Γ p hΓ; exact ih _ g e hg Γ p hΓ
  | load a _ k ih =>
    intro g e hg Γ p hΓ
    simp only [peek1] at e
    split at e
    · rename_i ob ho; exact ⟨ob, X _ _ ho, ih ob g e hg Γ p hΓ⟩
    · cases e
  | alloc ob k _ =>
    intro g e hg
    have e : some (ob, fun D => peek K ⟨M.prog, M.w.params⟩ (k D)) = some (o, g) := e
    obtain ⟨e1, e2⟩ := Prod.mk.inj (Option.some.inj e)
    subst e1
    subst e2
    have X' : K.In (s.heap.push ob) := X.keeps fun b x hb => Heap.get?_push_of_some _ hb
    show wpAny M A (alloc ob >>= k) Q E s
    refine wpAny_bind (wpAny_alloc ?_)
    exact (Looks.of_peek (M := M) (h := s.heap.push ob) X' (hg s.heap.objs.size)).here (s := { s with heap := s.heap.push ob }) q
  | _ => intro g e; cases e

theorem enter_rest {K : Frag} {prog : Program} {w : World} {A A₀ : Around} {s : Shared} {base h₀ : Heap} {outer : List Env} {L : Addr} {m mg mb : Str → Option Value} {env : Env}
    {p : Program} {loose : List Str} {mean : ExcName → Option Value} {Q E : Value → Shared → Prop}
    {name qual : Str} {params : Arguments} {body : List Stmt} {scope : Scope} {dV kV doc pm cdv ct oc : Value} {an od : Option Addr} {osl : Array (Option Value)} {f : Addr} {args vs : List Value} {g₁ : Addr → Option (List (Str × Value))} {binds : Addr → List (Str × Value)}
    (B : Below A₀ base outer h₀) (F : Fr h₀ L s.heap m) (X₀ : K.In h₀) (T : Top p loose mean mg mb h₀) (hA : A.frames = some (env :: outer)) (hf : env.frame = some L) (hke : env.scope.kind = .function)
    (ho : K.lookup f = some ⟨oc, od, .func (fnOf name qual params body scope dV kV doc pm an cdv ct), osl⟩) (hcd : codeIn K cdv qual = true) (hroom : A.depth < recursionLimit)
    (hp : peek1 K ⟨prog, w.params⟩ (bindArgs (fnOf name qual params body scope dV kV doc pm an cdv ct) ⟨args, []⟩) = some (tupOf vs, g₁))
    (hg : ∀ D, g₁ D = some (binds D)) (hloc : ∀ D, ∀ y ∈ binds D, scope.names.lookup y.1 = some .local)
    (h : ∀ D hT L' h₁, Ext s.heap hT → s.heap.get? D = none → hT.get? D = some (tupOf vs) → Fr hT L' h₁ (fun y => (binds D).reverse.lookup y) → News hT L' h₁ [] → Below A base (env :: outer) hT → K.In hT → Top p loose mean mg mb hT →
      wpAny (model prog w) (A.deeper (envOf qual scope L' f cdv)) (execs body (envOf qual scope L' f cdv))
        (fun fl s' => Q (match fl with | .ret v => v | _ => .none) s')
        (fun e s' => wpAny (model prog w) (A.deeper (envOf qual scope L' f cdv)) (leaving (envOf qual scope L' f cdv) e) (fun _ s'' => E e s'') (fun e' s'' => E e' s'') s')
        { s with heap := h₁, toks := s.toks + (binds D).length })
    (hco : scope.isCoroutine = false) (hgen : scope.isGenerator = false) (hk : scope.kind = .function)
    (hcell : ∀ x ∈ scope.names, x.2 ≠ .cell) : wpAny (model prog w) A (call (.ref f) args) Q E s := by
  refine wpAny_call (codeAny_call_function (fd := fnOf name qual params body scope dV kV doc pm an cdv ct) (body := body) hroom ((X₀.keeps F.keep) _ _ ho) rfl hco hgen rfl (codeRec_of (X₀.keeps F.keep) hcd) ?_)
  refine wp_peek1E (o := tupOf vs) (X₀.keeps F.keep) ?_ _ g₁ hp hg
  have e1 : Ext s.heap (s.heap.push (tupOf vs)) := fun b o e => Heap.get?_push_of_some _ e
  have F1 : Fr h₀ L (s.heap.push (tupOf vs)) m := F.push _
  have B' := pushX B F1 hf hke
  refine wpAny_newFunctionEnv hcell (hloc _) (fun h₁ hns hsb => ⟨(T.nolimit.keeps F1.keep).fresh _ hsb, codeAny_func ?_⟩) hk
  have hk₁ : ∀ b o, (s.heap.push (tupOf vs)).get? b = some o → h₁.get? b = some o := fun b o e => hsb.extBut b o (Nat.ne_of_lt (Heap.lt_size e)) (Heap.get?_push_of_some _ e)
  refine h s.heap.objs.size (s.heap.push (tupOf vs)) _ h₁ e1 ?_ (Heap.get?_push_size _ rfl) ⟨hns, hk₁, Nat.le_refl _⟩ News.nil ⟨hA, B'.stays, B'.frames⟩ (X₀.keeps F1.keep) (T.keeps F1.keep)
  cases q : s.heap.get? s.heap.objs.size with
  | none => rfl
  | some o => exact absurd (Heap.lt_size q) (Nat.lt_irrefl _)
noncomputable def AllNe (d : Nat) : List (Addr × Obj) → Prop
  | [] => True
  | p :: r => @Ne Nat p.1 d ∧ AllNe d r
theorem allNe_of {d : Addr} : ∀ {l : List (Addr × Obj)}, (∀ p ∈ l, p.1 ≠ d) → AllNe d l
  | [], _ => trivial
  | p :: _, h => ⟨h p (.head _), allNe_of fun q hq => h q (.tail _ hq)⟩
theorem Ctr.useT2 {w mean mg mb d u f args Pre} {O : Tok → Tok → Obj} {P : Prop} (C : Ctr w mean mg mb d u f args Pre (fun h h' r => P ∧ ∃ a t1 t2, r = .ref a ∧ h.get? a = none ∧ h'.get? a = some (O t1 t2))) {A A₀ : Around} {base h₀ : Heap} {outer : List Env} {env : Env} {L : Addr} {m : Str → Option Value} {s : Shared} {news : List (Addr × Obj)} {Q E : Value → Shared → Prop}
    (B : Below A₀ base outer h₀) (F : Fr h₀ L s.heap m) (X : Frag.In (hd.heap_1 (World.params w)) h₀) (N : News h₀ L s.heap news)
    (T : Top hd.view_1 (looseW hd.view_1 [Str.ofString "relpath"]) mean mg mb h₀)
    (hA : A.frames = some (env :: outer)) (hh : A.handled = none) (hf : env.frame = some L) (hk : env.scope.kind = .function)
    (hd : A.depth + d < recursionLimit) (hu : A.units + u < cLine) (hp : Pre s.heap)
    (h : ∀ (a : Addr) t1 t2 h' tk', P → Fr h₀ L h' m → AllNe a news → News h₀ L h' ((a, O t1 t2) :: news) → Q (.ref a) { s with heap := h', toks := tk' }) : wpAny (model PySem.Challenge.pw_mq0396_01 w) A (call (.ref f) args) Q E s :=
  Ctr.use C B F X N T hA hh hf hk hd hu hp fun r h' tk' F' N' _ o => by obtain ⟨p, a, t1, t2, rfl, o1, o2⟩ := o; exact h a t1 t2 h' tk' p F' (allNe_of (news_ne N o1)) (news_add F N' o1 o2)
theorem Ctr.useT3 {w mean mg mb d u f args Pre} {O : Tok → Tok → Tok → Obj} {P : Prop} (C : Ctr w mean mg mb d u f args Pre (fun h h' r => P ∧ ∃ a t1 t2 t3, r = .ref a ∧ h.get? a = none ∧ h'.get? a = some (O t1 t2 t3))) {A A₀ : Around} {base h₀ : Heap} {outer : List Env} {env : Env} {L : Addr} {m : Str → Option Value} {s : Shared} {news : List (Addr × Obj)} {Q E : Value → Shared → Prop}
    (B : Below A₀ base outer h₀) (F : Fr h₀ L s.heap m) (X : Frag.In (hd.heap_1 (World.params w)) h₀) (N : News h₀ L s.heap news)
    (T : Top hd.view_1 (looseW hd.view_1 [Str.ofString "relpath"]) mean mg mb h₀)
    (hA : A.frames = some (env :: outer)) (hh : A.handled = none) (hf : env.frame = some L) (hk : env.scope.kind = .function)
    (hd : A.depth + d < recursionLimit) (hu : A.units + u < cLine) (hp : Pre s.heap)
    (h : ∀ (a : Addr) t1 t2 t3 h' tk', P → Fr h₀ L h' m → AllNe a news → News h₀ L h' ((a, O t1 t2 t3) :: news) → Q (.ref a) { s with heap := h', toks := tk' }) : wpAny (model PySem.Challenge.pw_mq0396_01 w) A (call (.ref f) args) Q E s :=
  Ctr.use C B F X N T hA hh hf hk hd hu hp fun r h' tk' F' N' _ o => by obtain ⟨p, a, t1, t2, t3, rfl, o1, o2⟩ := o; exact h a t1 t2 t3 h' tk' p F' (allNe_of (news_ne N o1)) (news_add F N' o1 o2)
theorem Ctr.useT5 {w mean mg mb d u f args Pre} {O : Str → Str → Tok → Tok → Obj} {P : Str → Str → Prop} (C : Ctr w mean mg mb d u f args Pre (fun h h' r => ∃ a b e t1 t2, r = .ref a ∧ h.get? a = none ∧ h'.get? a = some (O b e t1 t2) ∧ P b e)) {A A₀ : Around} {base h₀ : Heap} {outer : List Env} {env : Env} {L : Addr} {m : Str → Option Value} {s : Shared} {news : List (Addr × Obj)} {Q E : Value → Shared → Prop}
    (B : Below A₀ base outer h₀) (F : Fr h₀ L s.heap m) (X : Frag.In (hd.heap_1 (World.params w)) h₀) (N : News h₀ L s.heap news)
    (T : Top hd.view_1 (looseW hd.view_1 [Str.ofString "relpath"]) mean mg mb h₀)
    (hA : A.frames = some (env :: outer)) (hh : A.handled = none) (hf : env.frame = some L) (hk : env.scope.kind = .function)
    (hd : A.depth + d < recursionLimit) (hu : A.units + u < cLine) (hp : Pre s.heap)
    (h : ∀ (a : Addr) b e t1 t2 h' tk', Fr h₀ L h' m → AllNe a news → News h₀ L h' ((a, O b e t1 t2) :: news) → P b e → Q (.ref a) { s with heap := h', toks := tk' }) : wpAny (model PySem.Challenge.pw_mq0396_01 w) A (call (.ref f) args) Q E s :=
  Ctr.use C B F X N T hA hh hf hk hd hu hp fun r h' tk' F' N' _ o => by obtain ⟨a, b, e, t1, t2, rfl, o1, o2, o3⟩ := o; exact h a b e t1 t2 h' tk' F' (allNe_of (news_ne N o1)) (news_add F N' o1 o2) o3
end piece_L3
section piece_L2
section
open PySem.Spec
/-- a frame's map behind a loop: the named places, the forgotten names, the rest -/
noncomputable def frM (m u : Str → Option Value) (junk : List Str) (ps : List (Str × Value)) : Str → Option Value := kstB (fun z => if junk.contains z then u z else m z) ps
theorem frM_eq {m m₁ : Str → Option Value} {junk : List Str} {ps : List (Str × Value)} (h1 : ∀ p ∈ ps, m₁ p.1 = some p.2) (h2 : ∀ z, junk.contains z = false → (∀ p ∈ ps, z ≠ p.1) → m₁ z = m z) : frM m m₁ junk ps = m₁ := by
  funext z
  refine kstB_eq h1 fun hn => ?_
  show (if junk.contains z = true then m₁ z else m z) = m₁ z
  cases h3 : junk.contains z with
  | true => simp
  | false => simp only [Bool.false_eq_true, if_false]; exact (h2 z h3 hn).symm

variable {prog : Program} {w : World} {A : Around} {E : Value → Shared → Prop} {Q : Flow → Shared → Prop} {s : Shared} {env : Env} {h₀ : Heap} {L : Addr}

/-- a turn's end -/
inductive LEnd {σ : Type} (h₀ : Heap) (L : Addr) (m : Str → Option Value) (junk : List Str) (ps : σ → List (Str × Value)) (Led : σ → List (Addr × Obj)) (own : List (Addr × Obj)) (Inv : σ → Prop) (s₁ : Shared) : Shared → Prop
  | intro (c' : σ) (h' : Heap) (tk' : Nat) (m' : Str → Option Value) (news' : List (Addr × Obj)) (F : Fr h₀ L h' m') (N : News h₀ L h' news') (a : ∀ p ∈ Led c', p ∈ news') (b : ∀ p ∈ own, p ∈ news') (d : ∀ p ∈ ps c', m' p.1 = some p.2) (e : ∀ z, junk.contains z = false → (∀ p ∈ ps c', z ≠ p.1) → m' z = m z) (i : Inv c') :
    LEnd h₀ L m junk ps Led own Inv s₁ { s₁ with heap := h', toks := tk' }
noncomputable def LPost {σ : Type} (h₀ : Heap) (L : Addr) (m : Str → Option Value) (junk : List Str) (ps : σ → List (Str × Value)) (Led : σ → List (Addr × Obj)) (own : List (Addr × Obj)) (Inv : σ → Prop) (s₁ : Shared) (Q : Flow → Shared → Prop) (f : Flow) (s₂ : Shared) : Prop :=
  match f with
  | .ret v => Q (.ret v) s₂
  | .brk => Q .next s₂
  | _ => LEnd h₀ L m junk ps Led own Inv s₁ s₂
theorem LEnd.mk' {σ : Type} {m m' : Str → Option Value} {junk : List Str} {ps : σ → List (Str × Value)} {Led : σ → List (Addr × Obj)} {own news' : List (Addr × Obj)} {Inv : σ → Prop} {s₁ : Shared} {h' : Heap} {tk' : Nat} (c' : σ)
    (F : Fr h₀ L h' m') (N : News h₀ L h' news') (a : ∀ p ∈ Led c', p ∈ news') (b : ∀ p ∈ own, p ∈ news') (d : ∀ p ∈ ps c', m' p.1 = some p.2) (e : ∀ z, junk.contains z = false → (∀ p ∈ ps c', z ≠ p.1) → m' z = m z) (i : Inv c') :
    LEnd h₀ L m junk ps Led own Inv s₁ { s₁ with heap := h', toks := tk' } := .intro c' h' tk' m' news' F N a b d e i

theorem LEnd.mk2 {σ : Type} {m m' : Str → Option Value} {junk : List Str} {ps : σ → List (Str × Value)} {Led : σ → List (Addr × Obj)} {own news' : List (Addr × Obj)} {Inv : σ → Prop} {s₁ : Shared} {h' : Heap} {tk' : Nat} (c' : σ)
    (F : Fr h₀ L h' m') (N : News h₀ L h' news') (d : ∀ p ∈ ps c', m' p.1 = some p.2) (a : ∀ p ∈ Led c', p ∈ news') (b : ∀ p ∈ own, p ∈ news') (e : ∀ z, junk.contains z = false → (∀ p ∈ ps c', z ≠ p.1) → m' z = m z) (i : Inv c') :
    LEnd h₀ L m junk ps Led own Inv s₁ { s₁ with heap := h', toks := tk' } := .intro c' h' tk' m' news' F N a b d e i

inductive WInv {σ : Type} (h₀ : Heap) (L : Addr) (s : Shared) (m : Str → Option Value) (rest : List (Addr × Obj)) (ps : σ → List (Str × Value)) (Led : σ → List (Addr × Obj)) (junk : List Str) (Inv : σ → Prop) (μ : σ → Nat) : Nat → Shared → Prop
  | mk (c : σ) (h₁ : Heap) (tk₁ : Nat) (m₁ : Str → Option Value) (F : Fr h₀ L h₁ m₁) (N : News h₀ L h₁ (Led c ++ rest)) (p : ∀ p ∈ ps c, m₁ p.1 = some p.2) (q : ∀ z, junk.contains z = false → (∀ p ∈ ps c, z ≠ p.1) → m₁ z = m z) (I : Inv c) : WInv h₀ L s m rest ps Led junk Inv μ (μ c) { s with heap := h₁, toks := tk₁ }
theorem while_st {σ : Type} {test : Expr} {body : List Stmt} {pos : Pos} {m : Str → Option Value} {rest : List (Addr × Obj)} (ps : σ → List (Str × Value)) (Led : σ → List (Addr × Obj)) (junk : List Str) (Inv : σ → Prop) (μ : σ → Nat) (c₀ : σ)
    (F : Fr h₀ L s.heap m) (N : News h₀ L s.heap (Led c₀ ++ rest)) (hps : ∀ p ∈ ps c₀, m p.1 = some p.2) (hI : Inv c₀)
    (turn : ∀ c u h₁ tk₁, Inv c → Fr h₀ L h₁ (frM m u junk (ps c)) → News h₀ L h₁ (Led c ++ rest) →
      wpAny (model prog w) A (isTrue test env (eval test env)) (fun b s₂ =>
        if b = true then wpAny (model prog w) A (execs body env) (LPost h₀ L m junk ps Led rest (fun c' => Inv c' ∧ μ c' < μ c) { s with heap := h₁, toks := tk₁ } Q) E s₂ else Q .next s₂) E { s with heap := h₁, toks := tk₁ })
    (hE : PassesOwn (model prog w) A env E := by passes_own) :
    wpAny (model prog w) A (exec (.While test body [] pos) env) Q E s := by
  refine wpAny_While (codeAny_whileLoop (WInv h₀ L s m rest ps Led junk Inv μ) ?_ (μ c₀)
    (.mk c₀ s.heap s.toks m F N hps (fun _ _ _ => rfl) hI))
  rintro n s' ⟨c, h₁, tk₁, m₁, F₁, N₁, p₁, q₁, I₁⟩
  have e := frM_eq p₁ q₁
  refine wpAny_mono (turn c m₁ h₁ tk₁ I₁ (by rw [e]; exact F₁) N₁) (fun b s₂ h₂ => ?_) hE
  cases b with
  | false =>
    simp only [Bool.false_eq_true, if_false] at h₂ ⊢
    exact wpAny_execs_nil h₂
  | true =>
    simp only [if_true] at h₂ ⊢
    refine wpAny_mono h₂ (fun f s₃ h₃ => ?_) hE
    have fin : LEnd h₀ L m junk ps Led rest (fun c' => Inv c' ∧ μ c' < μ c) { s with heap := h₁, toks := tk₁ } s₃ →
        ∃ n', n' < μ c ∧ WInv h₀ L s m rest ps Led junk Inv μ n' s₃ := by
      rintro ⟨c', h', tk', m', news', F', N', a, b, d, e', i1, i2⟩
      exact ⟨_, i2, .mk c' h' tk' m' F' (fun p hp => N' p ((List.mem_append.mp hp).elim (a p) (b p))) d e' i1⟩
    cases f with
    | ret v => exact h₃
    | brk => exact h₃
    | next => exact fin h₃
    | cont => exact fin h₃

theorem for_st {σ : Type} {x : Str} {body : List Stmt} {It : Addr} {fp wr : List Addr} {n : Nat} {P : Nat → Value → Prop} {St : Nat → Heap → Prop} {m : Str → Option Value} {rest : List (Addr × Obj)} (ps : σ → List (Str × Value)) (Led : σ → List (Addr × Obj)) (junk : List Str) (Inv : Nat → σ → Prop) (c₀ : σ)
    (W : Walks prog w A It fp wr n P St) (hLf : env.locals ∉ fp) (hwr : ∀ b ∈ wr, h₀.get? b = none) (hst : St 0 s.heap)
    (F : Fr h₀ env.locals s.heap m) (N : News h₀ env.locals s.heap (Led c₀ ++ rest)) (hof : ∀ c, ∀ p ∈ Led c, p.1 ∉ fp) (hor : ∀ p ∈ rest, p.1 ∉ wr) (hps : ∀ p ∈ ps c₀, m p.1 = some p.2) (hI : Inv 0 c₀)
    (turn : ∀ i v c u h₁ tk₁ own, i < n → P i v → Inv i c → (∀ c, ∀ p ∈ own, ∀ q ∈ Led c, p.1 ≠ q.1) → Fr h₀ env.locals h₁ (frM m u (x :: junk) ((x, v) :: ps c)) → News h₀ env.locals h₁ (Led c ++ (rest ++ own)) →
      wpAny (model prog w) A (execs body env) (LPost h₀ env.locals m (x :: junk) ps Led (rest ++ own) (Inv (i + 1)) { s with heap := h₁, toks := tk₁ } Q) E { s with heap := h₁, toks := tk₁ })
    (done : ∀ c u h₁ tk₁, Inv n c → Fr h₀ env.locals h₁ (frM m u (x :: junk) (ps c)) → News h₀ env.locals h₁ (Led c ++ rest) → Q .next { s with heap := h₁, toks := tk₁ }) :
    LoopAtV prog w A h₀ env x body Q E (.ref It) s := by
  refine ⟨It, fp, wr, n, P, St, m, Led c₀ ++ rest, fun i m₁ news₁ => ∃ c, news₁ = Led c ++ rest ∧ (∀ p ∈ ps c, m₁ p.1 = some p.2) ∧ (∀ z, (x :: junk).contains z = false → (∀ p ∈ ps c, z ≠ p.1) → m₁ z = m z) ∧ Inv i c, rfl, W, hLf, hwr, ?_, hst, F, N, ⟨c₀, rfl, hps, fun _ _ _ => rfl, hI⟩, ?_, ?_⟩
  · intro p hp
    exact (List.mem_append.mp hp).elim (fun h h' => hof c₀ p h (W.sub _ h')) (hor p)
  · rintro i v m₁ news₁ s₁ own ⟨h, tk, rfl⟩ hi hP ⟨c, rfl, p₁, q₁, I₁⟩ hnw hofp hget hall hst₁ F₁ N₁
    have e : frM m m₁ (x :: junk) ((x, v) :: ps c) = fun y => if y = x then some v else m₁ y := by
      show (fun z => if z = x then some v else frM m m₁ (x :: junk) (ps c) z) = _
      rw [frM_eq p₁ q₁]
    have N₂ : News h₀ env.locals h (Led c ++ (rest ++ own)) := fun p hp => N₁ p (by simp only [List.mem_append] at hp ⊢; rcases hp with h | h | h <;> simp [h])
    refine wpAny_mono (turn i v c m₁ h tk own hi hP I₁ (fun c p hp q hq e => hof c q hq (e ▸ hofp p hp)) (by rw [e]; exact F₁) N₂) (fun f s₂ h₂ => ?_) fun _ _ e => e
    have fin : LEnd h₀ env.locals m (x :: junk) ps Led (rest ++ own) (Inv (i + 1)) { s with heap := h, toks := tk } s₂ → LoopStepU h₀ env.locals wr own (fun m₁ news₁ => ∃ c, news₁ = Led c ++ rest ∧ (∀ p ∈ ps c, m₁ p.1 = some p.2) ∧ (∀ z, (x :: junk).contains z = false → (∀ p ∈ ps c, z ≠ p.1) → m₁ z = m z) ∧ Inv (i + 1) c) { s with heap := h, toks := tk } .next s₂ := by
      rintro ⟨c', h', tk', m', news', F', N', a, b, d, e', i1⟩
      refine .intro F' (news₂ := Led c' ++ rest) (fun p hp => N' p ?_) (fun p hp => ?_) ⟨c', rfl, d, e', i1⟩
      · simp only [List.mem_append] at hp
        rcases hp with h | h | h
        · exact b p (List.mem_append_right _ h)
        · exact a p h
        · exact b p (List.mem_append_left _ h)
      · exact (List.mem_append.mp hp).elim (fun h h' => hof c' p h (W.sub _ h')) (hor p)
    cases f with
    | ret v => exact .ret h₂
    | brk => exact .brk h₂
    | next => exact .next (fin h₂)
    | cont => exact .cont (fin h₂)
  · rintro h' tk m' news' F' N' hnw ⟨c, rfl, p₁, q₁, I₁⟩
    exact done c m' h' tk I₁ (by rw [frM_eq p₁ q₁]; exact F') N'

/-- a for over a new iterator -/
theorem for_new {σ : Type} {x : Str} {body : List Stmt} {o : Obj} {lo : List Addr} {n : Nat} {P : Nat → Value → Prop} {St : Nat → Heap → Prop} {m : Str → Option Value} {rest : List (Addr × Obj)} (ps : σ → List (Str × Value)) (Led : σ → List (Addr × Obj)) (junk : List Str) (Inv : Nat → σ → Prop) (c₀ : σ)
    (W : Walks prog w A s.heap.objs.size (s.heap.objs.size :: lo) [s.heap.objs.size] n P St) (hst : St 0 (s.heap.push o)) (hlL : ∀ l ∈ lo, l ≠ env.locals)
    (F : Fr h₀ env.locals s.heap m) (N : News h₀ env.locals s.heap (Led c₀ ++ rest)) (hadr : ∀ c, (Led c).map (·.1) = (Led c₀).map (·.1)) (hof : ∀ p ∈ Led c₀, ∀ l ∈ lo, p.1 ≠ l) (hps : ∀ p ∈ ps c₀, m p.1 = some p.2) (hI : Inv 0 c₀)
    (turn : ∀ i v c u h₁ tk₁ own, i < n → P i v → Inv i c → (∀ c, ∀ p ∈ own, ∀ q ∈ Led c, p.1 ≠ q.1) → Fr h₀ env.locals h₁ (frM m u (x :: junk) ((x, v) :: ps c)) → News h₀ env.locals h₁ (Led c ++ (rest ++ own)) →
      wpAny (model prog w) A (execs body env) (LPost h₀ env.locals m (x :: junk) ps Led (rest ++ own) (Inv (i + 1)) { s with heap := h₁, toks := tk₁ } Q) E { s with heap := h₁, toks := tk₁ })
    (done : ∀ c u h₁ tk₁, Inv n c → Fr h₀ env.locals h₁ (frM m u (x :: junk) (ps c)) → News h₀ env.locals h₁ (Led c ++ rest) → Q .next { s with heap := h₁, toks := tk₁ }) :
    LoopAtV prog w A h₀ env x body Q E (.ref s.heap.objs.size) { s with heap := s.heap.push o } := by
  have hlt : ∀ c, ∀ p ∈ Led c, p.1 ≠ s.heap.objs.size ∧ ∀ l ∈ lo, p.1 ≠ l := by
    intro c p hp
    have : p.1 ∈ (Led c₀).map (·.1) := hadr c ▸ List.mem_map_of_mem hp
    obtain ⟨q, hq, e⟩ := List.mem_map.mp this
    rw [← e]
    exact ⟨Nat.ne_of_lt (Heap.lt_size (N q (List.mem_append_left _ hq)).1), hof q hq⟩
  refine for_st ps Led junk Inv c₀ W ?_ ?_ hst (F.push _) (fun p hp => ⟨Heap.get?_push_of_some _ (N p hp).1, (N p hp).2⟩) ?_ ?_ hps hI turn done
  · intro hm
    rcases List.mem_cons.mp hm with e | hm
    · exact absurd F.ns.lt (e ▸ Nat.lt_irrefl _)
    · exact hlL _ hm rfl
  · intro b hb
    rw [List.mem_singleton.mp hb]
    exact next_is_new F
  · intro c p hp hm
    rcases List.mem_cons.mp hm with e | hm
    · exact (hlt c p hp).1 e
    · exact (hlt c p hp).2 _ hm rfl
  · intro p hp hm
    exact Nat.ne_of_lt (Heap.lt_size (N p (List.mem_append_right _ hp)).1) (List.mem_singleton.mp hm)

/-- a for over a list or a made list -/
theorem for_list {σ : Type} {x : Str} {body : List Stmt} {l : Addr} {vs : List Value} {m : Str → Option Value} {rest : List (Addr × Obj)} (ps : σ → List (Str × Value)) (Led : σ → List (Addr × Obj)) (junk : List Str) (Inv : Nat → σ → Prop) (c₀ : σ)
    (hh : A.handled = none) (hl : s.heap.IsList l vs.toArray) (hlL : l ≠ env.locals)
    (F : Fr h₀ env.locals s.heap m) (N : News h₀ env.locals s.heap (Led c₀ ++ rest)) (hadr : ∀ c, (Led c).map (·.1) = (Led c₀).map (·.1)) (hof : ∀ p ∈ Led c₀, p.1 ≠ l) (hps : ∀ p ∈ ps c₀, m p.1 = some p.2) (hI : Inv 0 c₀)
    (turn : ∀ i v c u h₁ tk₁ own, vs[i]? = some v → Inv i c → (∀ c, ∀ p ∈ own, ∀ q ∈ Led c, p.1 ≠ q.1) → Fr h₀ env.locals h₁ (frM m u (x :: junk) ((x, v) :: ps c)) → News h₀ env.locals h₁ (Led c ++ (rest ++ own)) →
      wpAny (model prog w) A (execs body env) (LPost h₀ env.locals m (x :: junk) ps Led (rest ++ own) (Inv (i + 1)) { s with heap := h₁, toks := tk₁ } Q) E { s with heap := h₁, toks := tk₁ })
    (done : ∀ c u h₁ tk₁, Inv vs.length c → Fr h₀ env.locals h₁ (frM m u (x :: junk) (ps c)) → News h₀ env.locals h₁ (Led c ++ rest) → Q .next { s with heap := h₁, toks := tk₁ }) :
    wpAny (model prog w) A (pyIter (.ref l)) (fun it s₂ => LoopAtV prog w A h₀ env x body Q E it s₂) E s := by
  refine wpAny_pyIter_list hl ?_
  obtain ⟨ol, hol, _⟩ := id hl
  have W := Walks.list (prog := prog) (w := w) hh s.heap.objs.size l (Nat.ne_of_lt (Heap.lt_size hol)) vs.toArray
  rw [List.size_toArray] at W
  simp only [List.getElem?_toArray] at W
  exact for_new (lo := [l]) ps Led junk Inv c₀ W ⟨⟨_, Heap.get?_push_size _ rfl, rfl, rfl⟩, hl.at fun o e => Heap.get?_push_of_some _ e⟩ (fun b hb => (List.mem_singleton.mp hb) ▸ hlL) F N hadr (fun p hp b hb => (List.mem_singleton.mp hb) ▸ hof p hp) hps hI (fun i v c u h₁ tk₁ own _ hP => turn i v c u h₁ tk₁ own hP) done

/-- a for over a list, one made object is turned -/
theorem for_list1 {σ : Type} {x : Str} {body : List Stmt} {l a : Addr} {vs : List Value} {m : Str → Option Value} {rest : List (Addr × Obj)} (ps : σ → List (Str × Value)) (Lo : σ → Obj) (junk : List Str) (Inv : Nat → σ → Prop) (c₀ : σ)
    (hh : A.handled = none) (hl : s.heap.IsList l vs.toArray) (hlL : l ≠ env.locals)
    (F : Fr h₀ env.locals s.heap m) (N : News h₀ env.locals s.heap ((a, Lo c₀) :: rest)) (hof : a ≠ l) (hps : ∀ p ∈ ps c₀, m p.1 = some p.2) (hI : Inv 0 c₀)
    (turn : ∀ i v c u h₁ tk₁ own, vs[i]? = some v → Inv i c → OwnOff own [a] → Fr h₀ env.locals h₁ (frM m u (x :: junk) ((x, v) :: ps c)) → News h₀ env.locals h₁ ((a, Lo c) :: (rest ++ own)) →
      wpAny (model prog w) A (execs body env) (LPost h₀ env.locals m (x :: junk) ps (fun c => [(a, Lo c)]) (rest ++ own) (Inv (i + 1)) { s with heap := h₁, toks := tk₁ } Q) E { s with heap := h₁, toks := tk₁ })
    (done : ∀ c u h₁ tk₁, Inv vs.length c → Fr h₀ env.locals h₁ (frM m u (x :: junk) (ps c)) → News h₀ env.locals h₁ ((a, Lo c) :: rest) → Q .next { s with heap := h₁, toks := tk₁ }) :
    wpAny (model prog w) A (pyIter (.ref l)) (fun it s₂ => LoopAtV prog w A h₀ env x body Q E it s₂) E s :=
  for_list ps (fun c => [(a, Lo c)]) junk Inv c₀ hh hl hlL F N (fun _ => rfl) (fun p hp => by rw [List.mem_singleton.mp hp]; exact hof) hps hI
    (fun i v c u h₁ tk₁ own hv hI ho F N => turn i v c u h₁ tk₁ own hv hI (fun p hp b hb => by rw [List.mem_singleton.mp hb]; exact ho c p hp _ (.head _)) F N) done

theorem while_st1 {σ : Type} {test : Expr} {body : List Stmt} {pos : Pos} {a : Addr} {m : Str → Option Value} {rest : List (Addr × Obj)} (ps : σ → List (Str × Value)) (Lo : σ → Obj) (junk : List Str) (Inv : σ → Prop) (μ : σ → Nat) (c₀ : σ)
    (F : Fr h₀ L s.heap m) (N : News h₀ L s.heap ((a, Lo c₀) :: rest)) (hps : ∀ p ∈ ps c₀, m p.1 = some p.2) (hI : Inv c₀)
    (turn : ∀ c u h₁ tk₁, Inv c → Fr h₀ L h₁ (frM m u junk (ps c)) → News h₀ L h₁ ((a, Lo c) :: rest) →
      wpAny (model prog w) A (isTrue test env (eval test env)) (fun b s₂ =>
        if b = true then wpAny (model prog w) A (execs body env) (LPost h₀ L m junk ps (fun c => [(a, Lo c)]) rest (fun c' => Inv c' ∧ μ c' < μ c) { s with heap := h₁, toks := tk₁ } Q) E s₂ else Q .next s₂) E { s with heap := h₁, toks := tk₁ })
    (hE : PassesOwn (model prog w) A env E := by passes_own) :
    wpAny (model prog w) A (exec (.While test body [] pos) env) Q E s :=
  while_st ps (fun c => [(a, Lo c)]) junk Inv μ c₀ F N hps hI turn hE

/-- a for over a tuple -/
theorem for_tuple {σ : Type} {x : Str} {body : List Stmt} {l : Addr} {vs : List Value} {m : Str → Option Value} {rest : List (Addr × Obj)} (ps : σ → List (Str × Value)) (Led : σ → List (Addr × Obj)) (junk : List Str) (Inv : Nat → σ → Prop) (c₀ : σ)
    (hh : A.handled = none) (hl : s.heap.IsTuple l vs.toArray) (hlL : l ≠ env.locals)
    (F : Fr h₀ env.locals s.heap m) (N : News h₀ env.locals s.heap (Led c₀ ++ rest)) (hadr : ∀ c, (Led c).map (·.1) = (Led c₀).map (·.1)) (hof : ∀ p ∈ Led c₀, p.1 ≠ l) (hps : ∀ p ∈ ps c₀, m p.1 = some p.2) (hI : Inv 0 c₀)
    (turn : ∀ i v c u h₁ tk₁ own, vs[i]? = some v → Inv i c → (∀ c, ∀ p ∈ own, ∀ q ∈ Led c, p.1 ≠ q.1) → Fr h₀ env.locals h₁ (frM m u (x :: junk) ((x, v) :: ps c)) → News h₀ env.locals h₁ (Led c ++ (rest ++ own)) →
      wpAny (model prog w) A (execs body env) (LPost h₀ env.locals m (x :: junk) ps Led (rest ++ own) (Inv (i + 1)) { s with heap := h₁, toks := tk₁ } Q) E { s with heap := h₁, toks := tk₁ })
    (done : ∀ c u h₁ tk₁, Inv vs.length c → Fr h₀ env.locals h₁ (frM m u (x :: junk) (ps c)) → News h₀ env.locals h₁ (Led c ++ rest) → Q .next { s with heap := h₁, toks := tk₁ }) :
    wpAny (model prog w) A (pyIter (.ref l)) (fun it s₂ => LoopAtV prog w A h₀ env x body Q E it s₂) E s := by
  refine wpAny_pyIter_tuple hl ?_
  obtain ⟨ol, hol, r⟩ := id hl
  have W := Walks.tuple (prog := prog) (w := w) hh s.heap.objs.size l (Nat.ne_of_lt (Heap.lt_size hol)) vs.toArray
  rw [List.size_toArray] at W
  simp only [List.getElem?_toArray] at W
  exact for_new (lo := [l]) ps Led junk Inv c₀ W ⟨⟨_, Heap.get?_push_size _ rfl, rfl, rfl⟩, ⟨ol, Heap.get?_push_of_some _ hol, r⟩⟩ (fun b hb => (List.mem_singleton.mp hb) ▸ hlL) F N hadr (fun p hp b hb => (List.mem_singleton.mp hb) ▸ hof p hp) hps hI (fun i v c u h₁ tk₁ own _ hP => turn i v c u h₁ tk₁ own hP) done

/-- a for over a text's signs -/
theorem for_str {σ : Type} {x : Str} {body : List Stmt} {y : Str} {t : Tok} {m : Str → Option Value} {rest : List (Addr × Obj)} (ps : σ → List (Str × Value)) (Led : σ → List (Addr × Obj)) (junk : List Str) (Inv : Nat → σ → Prop) (c₀ : σ)
    (hh : A.handled = none)
    (F : Fr h₀ env.locals s.heap m) (N : News h₀ env.locals s.heap (Led c₀ ++ rest)) (hadr : ∀ c, (Led c).map (·.1) = (Led c₀).map (·.1)) (hps : ∀ p ∈ ps c₀, m p.1 = some p.2) (hI : Inv 0 c₀)
    (turn : ∀ i v c u h₁ tk₁ own, i < y.length → SignAt y i v → Inv i c → (∀ c, ∀ p ∈ own, ∀ q ∈ Led c, p.1 ≠ q.1) → Fr h₀ env.locals h₁ (frM m u (x :: junk) ((x, v) :: ps c)) → News h₀ env.locals h₁ (Led c ++ (rest ++ own)) →
      wpAny (model prog w) A (execs body env) (LPost h₀ env.locals m (x :: junk) ps Led (rest ++ own) (Inv (i + 1)) { s with heap := h₁, toks := tk₁ } Q) E { s with heap := h₁, toks := tk₁ })
    (done : ∀ c u h₁ tk₁, Inv y.length c → Fr h₀ env.locals h₁ (frM m u (x :: junk) (ps c)) → News h₀ env.locals h₁ (Led c ++ rest) → Q .next { s with heap := h₁, toks := tk₁ }) :
    wpAny (model prog w) A (pyIter (.str y t)) (fun it s₂ => LoopAtV prog w A h₀ env x body Q E it s₂) E s := by
  refine wpAny_pyIter_str fun o St W hst => ?_
  exact for_new (lo := []) ps Led junk Inv c₀ (W A hh) hst (fun _ hb => nomatch hb) F N hadr (fun _ _ _ hb => nomatch hb) hps hI turn done

/-- a for over a range that goes up by one -/
theorem for_range {σ : Type} {x : Str} {body : List Stmt} {r : Addr} {n : Nat} {t u v : Tok} {m : Str → Option Value} {rest : List (Addr × Obj)} (ps : σ → List (Str × Value)) (Led : σ → List (Addr × Obj)) (junk : List Str) (Inv : Nat → σ → Prop) (c₀ : σ)
    (hh : A.handled = none) (hr : IsRange s.heap r 0 (n : Int) 1 t u v) (hn : n < 1000000)
    (F : Fr h₀ env.locals s.heap m) (N : News h₀ env.locals s.heap (Led c₀ ++ rest)) (hadr : ∀ c, (Led c).map (·.1) = (Led c₀).map (·.1)) (hps : ∀ p ∈ ps c₀, m p.1 = some p.2) (hI : Inv 0 c₀)
    (turn : ∀ (i : Nat) t c u h₁ tk₁ own, i < n → Inv i c → (∀ c, ∀ p ∈ own, ∀ q ∈ Led c, p.1 ≠ q.1) → Fr h₀ env.locals h₁ (frM m u (x :: junk) ((x, .int i t) :: ps c)) → News h₀ env.locals h₁ (Led c ++ (rest ++ own)) →
      wpAny (model prog w) A (execs body env) (LPost h₀ env.locals m (x :: junk) ps Led (rest ++ own) (Inv (i + 1)) { s with heap := h₁, toks := tk₁ } Q) E { s with heap := h₁, toks := tk₁ })
    (done : ∀ c u h₁ tk₁, Inv n c → Fr h₀ env.locals h₁ (frM m u (x :: junk) (ps c)) → News h₀ env.locals h₁ (Led c ++ rest) → Q .next { s with heap := h₁, toks := tk₁ }) :
    wpAny (model prog w) A (pyIter (.ref r)) (fun it s₂ => LoopAtV prog w A h₀ env x body Q E it s₂) E s := by
  have hs : Builtin.Range.rangeSize 0 (n : Int) 1 = n := by
    simp only [Builtin.Range.rangeSize]
    (repeat' split) <;> omega
  have hf : ∀ i : Int, -5 ≤ i → i < 2000000 → Builtin.Range.rangeFitsLong i = true := by
    intro i h1 h2
    simp only [Builtin.Range.rangeFitsLong, Bool.and_eq_true, decide_eq_true_eq]
    omega
  refine wpAny_pyIter_range hr ?_ ?_
  · unfold Builtin.Range.small
    rw [hs, hf 0 (by omega) (by omega), hf n (by omega) (by omega), hf 1 (by omega) (by omega), hf (n + (1 - 1)) (by omega) (by omega)]
    simp
  · rw [hs]
    exact for_new (lo := []) ps Led junk Inv c₀ (Walks.range (prog := prog) (w := w) hh s.heap.objs.size 0 1 n) (by
      show Heap.get? _ _ = _
      rw [show (0 : Int) + ((0 : Nat) : Int) * 1 = 0 from rfl, show ((n : Int) - ((0 : Nat) : Int)) = n by omega]
      exact Heap.get?_push_size _ rfl) (fun _ hb => nomatch hb) F N hadr (fun _ _ _ hb => nomatch hb) hps hI (fun i v c u h₁ tk₁ own hi hP hI ho F N => by
        obtain ⟨t, rfl⟩ := hP
        have e : (0 : Int) + (i : Int) * 1 = i := by omega
        rw [e] at F
        exact turn i t c u h₁ tk₁ own hi hI ho F N) done
end
noncomputable def Stop (P : Prop) : Prop := P
theorem stop_here {P : Prop} (h : Stop P) : P := h
theorem Stop.go {P : Prop} (h : P) : Stop P := h
end piece_L2
section piece_P1
open Builtin Builtin.Str
/-- a text's signs -/
noncomputable abbrev cl (x : Str) : List Nat := x.cps.toList
theorem cl_ext {x y : Str} (h : cl x = cl y) : x = y := PySem.Str.ext' (Array.toList_inj.mp h)
theorem cl_app (x y : Str) : cl (x ++ y) = cl x ++ cl y := PyProof.Rows.cps_toList_append x y
theorem cl_len (x : Str) : (cl x).length = x.length := Array.length_toList
theorem idx_clip (a b len : Nat) : strSliceIndices (some (a : Int)) (some (b : Int)) 1 len = strSliceIndices (some ((min a len : Nat) : Int)) (some ((min b len : Nat) : Int)) 1 len := by
  unfold strSliceIndices
  have h1 : ¬ ((a : Int) < 0) := by omega
  have h2 : ¬ ((b : Int) < 0) := by omega
  have h3 : ¬ (((min a len : Nat) : Int) < 0) := by omega
  have h4 : ¬ (((min b len : Nat) : Int) < 0) := by omega
  simp only [h1, h2, h3, h4, if_false, show ((1 : Int) > 0) = True from by simp, if_true]
  congr 1 <;> omega
theorem slice_text (x : Str) (l u : Option Int) : Txt.slice x l u = StrLaws.sliceText x l u := rfl
theorem cl_slice (x : Str) (a b : Nat) : cl (Txt.slice x (some (a : Int)) (some (b : Int))) = ((cl x).drop a).take (b - a) := by
  have e : Txt.slice x (some (a : Int)) (some (b : Int)) = Txt.slice x (some ((min a x.length : Nat) : Int)) (some ((min b x.length : Nat) : Int)) := by
    rw [slice_text, slice_text]
    unfold StrLaws.sliceText
    rw [idx_clip a b]
  rw [e, slice_text]
  by_cases hab : min a x.length ≤ min b x.length
  · rw [StrLaws.sliceText_nat x hab (by omega)]
    show ((cl x).drop (min a x.length)).take (min b x.length - min a x.length) = _
    apply List.ext_getElem?
    intro i
    have hl := cl_len x
    rw [List.getElem?_take, List.getElem?_take, List.getElem?_drop, List.getElem?_drop]
    by_cases h1 : a ≤ x.length
    · rw [Nat.min_eq_left h1]
      by_cases h2 : b ≤ x.length
      · rw [Nat.min_eq_left h2]
      · rw [Nat.min_eq_right (by omega)]
        by_cases h3 : i < x.length - a
        · rw [if_pos h3, if_pos (by omega)]
        · rw [if_neg h3]
          split
          · rw [List.getElem?_eq_none (by omega)]
          · rfl
    · have e2 : min b x.length - min a x.length = 0 := by omega
      rw [e2, if_neg (by omega)]
      split
      · rw [List.getElem?_eq_none (by omega)]
      · rfl
  · have hb : b - a = 0 := by omega
    rw [hb, List.take_zero]
    have e3 : StrLaws.sliceText x (some ((min a x.length : Nat) : Int)) (some ((min b x.length : Nat) : Int)) = Str.empty := by
      unfold StrLaws.sliceText
      have hi : strSliceIndices (some ((min a x.length : Nat) : Int)) (some ((min b x.length : Nat) : Int)) 1 x.length = [] := by
        unfold strSliceIndices
        have h3 : ¬ (((min a x.length : Nat) : Int) < 0) := by omega
        have h4 : ¬ (((min b x.length : Nat) : Int) < 0) := by omega
        simp only [h3, h4, if_false, show ((1 : Int) > 0) = True from by simp, if_true]
        unfold sliceRange
        simp only [show ((1 : Int) > 0) = True from by simp, if_true]
        rw [if_neg (by omega)]
        rfl
      rw [hi]
      split
      · rename_i hc
        have h9 : 0 = x.length := by simpa using hc
        have : x.length = 0 := h9.symm
        exact PySem.Str.ext' (Array.eq_empty_of_size_eq_zero this)
      · rfl
    rw [e3]; rfl
theorem cl_to (x : Str) (b : Nat) : cl (Txt.slice x none (some (b : Int))) = (cl x).take b := by
  have e : Txt.slice x none (some (b : Int)) = Txt.slice x (some ((0 : Nat) : Int)) (some (b : Int)) := by
    rw [slice_text, slice_text]; unfold StrLaws.sliceText; rw [StrLaws.sliceIdx_none_lo]; rfl
  rw [e, cl_slice, List.drop_zero, Nat.sub_zero]
theorem cl_from (x : Str) (a : Nat) : cl (Txt.slice x (some (a : Int)) none) = (cl x).drop a := by
  have e : Txt.slice x (some (a : Int)) none = Txt.slice x (some (a : Int)) (some ((x.length : Nat) : Int)) := by
    rw [slice_text, slice_text]; unfold StrLaws.sliceText; rw [StrLaws.sliceIdx_none_hi]
  rw [e, cl_slice]
  apply List.take_of_length_le
  rw [List.length_drop, cl_len]
  exact Nat.le_refl _
theorem slash_iff (x : Str) (n : Nat) : Txt.slice x (some (n : Int)) (some ((n : Int) + 1)) = Str.ofString "/" ↔ (cl x)[n]? = some 47 := by
  have e : Txt.slice x (some (n : Int)) (some ((n : Int) + 1)) = Txt.slice x (some (n : Int)) (some ((n + 1 : Nat) : Int)) := rfl
  rw [e]
  have h1 : cl (Txt.slice x (some (n : Int)) (some ((n + 1 : Nat) : Int))) = ((cl x).drop n).take 1 := by rw [cl_slice, Nat.add_sub_cancel_left]
  constructor
  · intro h
    rw [h] at h1
    have h2 : ((cl x).drop n)[0]? = some 47 := by
      have h3 : (((cl x).drop n).take 1)[0]? = some 47 := by rw [← h1]; rfl
      rwa [List.getElem?_take, if_pos (by decide)] at h3
    rwa [List.getElem?_drop, Nat.add_zero] at h2
  · intro h
    apply cl_ext
    rw [h1]
    have hlt := (List.getElem?_eq_some_iff.mp h)
    obtain ⟨hl, he⟩ := hlt
    rw [List.drop_eq_getElem_cons hl, he]
    rfl
theorem first_iff (x : Str) : Txt.slice x none (some 1) = Str.ofString "/" ↔ (cl x)[0]? = some 47 := by
  rw [← slash_iff]
  have e : Txt.slice x none (some 1) = Txt.slice x (some ((0 : Nat) : Int)) (some (((0 : Nat) : Int) + 1)) := by
    rw [slice_text, slice_text]; unfold StrLaws.sliceText; rw [StrLaws.sliceIdx_none_lo]; rfl
  rw [e]
theorem tw_step : ∀ (l : List Nat) (n : Nat), n ≤ (l.takeWhile (· == 47)).length → l[n]? = some 47 → n + 1 ≤ (l.takeWhile (· == 47)).length
  | [], n, h, h2 => by simp at h2
  | a :: r, 0, h, h2 => by
    have e : a = 47 := by simpa using h2
    subst e; simp
  | a :: r, n + 1, h, h2 => by
    by_cases e : a = 47
    · subst e
      simp only [List.takeWhile_cons, beq_self_eq_true, if_true, List.length_cons] at h ⊢
      have := tw_step r n (by omega) (by simpa using h2)
      omega
    · simp [List.takeWhile_cons, e] at h
theorem tw_stop : ∀ (l : List Nat) (n : Nat), n ≤ (l.takeWhile (· == 47)).length → ¬ l[n]? = some 47 → n = (l.takeWhile (· == 47)).length
  | [], n, h, _ => by simpa using h
  | a :: r, 0, h, h2 => by
    have e : a ≠ 47 := by simpa using h2
    simp [List.takeWhile_cons, e]
  | a :: r, n + 1, h, h2 => by
    by_cases e : a = 47
    · subst e
      simp only [List.takeWhile_cons, beq_self_eq_true, if_true, List.length_cons] at h ⊢
      have := tw_stop r n (by omega) (by simpa using h2)
      omega
    · simp [List.takeWhile_cons, e] at h
theorem sl_step {x : Str} {n : Nat} (h : n ≤ slN x) (h2 : Txt.slice x (some (n : Int)) (some ((n : Int) + 1)) = Str.ofString "/") : n + 1 ≤ slN x := tw_step (cl x) n h ((slash_iff x n).mp h2)
theorem sl_stop {x : Str} {n : Nat} (h : n ≤ slN x) (h2 : ¬ Txt.slice x (some (n : Int)) (some ((n : Int) + 1)) = Str.ofString "/") : n = slN x := tw_stop (cl x) n h (fun e => h2 ((slash_iff x n).mpr e))
theorem sl_le (x : Str) : slN x ≤ x.length := by
  rw [← cl_len]
  exact List.Sublist.length_le (List.takeWhile_sublist _)
end piece_P1
section piece_L10
open PySem.MeetsSeq Builtin AutoSeq1
open AutoSeq1 (wpAny_loadPart')
/-- list < list, of texts -/
noncomputable def ltL : List Str → List Str → Bool
  | [], [] => false
  | [], _ :: _ => true
  | _ :: _, [] => false
  | x :: r, y :: t => if x == y then ltL r t else decide (x.cps.toList < y.cps.toList)
theorem strs_at {vs : List Value} {ys : List Str} (h : StrsAre vs ys) {i : Nat} (hi : i < vs.toArray.size) : ∃ y t, vs.toArray[i] = .str y t ∧ ys.drop i = y :: ys.drop (i + 1) := by
  have hj' : i < vs.length := by rw [List.size_toArray] at hi; exact hi
  obtain ⟨y, t, e, e2⟩ := h.item i vs[i] (List.getElem?_eq_getElem hj')
  refine ⟨y, t, by simpa using e, ?_⟩
  obtain ⟨hl, he⟩ := List.getElem?_eq_some_iff.mp e2
  rw [List.drop_eq_getElem_cons hl, he]
theorem strs_off {vs : List Value} {ys : List Str} (h : StrsAre vs ys) {i : Nat} (hi : ¬ i < vs.toArray.size) : ys.drop i = [] := by
  rw [List.size_toArray, h.length] at hi
  exact List.drop_of_length_le (Nat.not_lt.mp hi)
theorem lt_loop (l b : Addr) (vs ws : List Value) (ys zs : List Str) (n n2 : Nat) (dd dd2 : Option Addr) (sl sl2 : Array (Option Value)) (hi : StrsAre vs ys) (hj : StrsAre ws zs) (k : Nat) :
    ∀ i : Nat, i ≤ vs.toArray.size → i ≤ ws.toArray.size → vs.toArray.size - i = k → Meets (Builtin.«list.__eq__.loop» ⟨[.ref l, .ref b, rawInt i, rawInt 0], []⟩)
      (fun _ R s => s.heap.get? l = some { cls := .type "list", dict := dd, data := .seq vs.toArray n, slots := sl } ∧ s.heap.get? b = some { cls := .type "list", dict := dd2, data := .seq ws.toArray n2, slots := sl2 } ∧
        R (.ok (.ret (.bool (ltL (ys.drop i) (zs.drop i))))) s) := by
  generalize hA : vs.toArray = items
  generalize hB : ws.toArray = items2
  induction k with
  | zero =>
    intro i hle hle2 hk prog w A R s h
    obtain ⟨hp, g, d, tk, os⟩ := s; obtain ⟨hl, hb, h⟩ := h
    wp_walk using wpAny_loadPart' hl, wpAny_loadPart' hb
    have hi1 : items[((i : Nat) : Int).toNat]? = none := by simp; omega
    rw [hi1]
    wp_walk using wpAny_loadPart' hl, wpAny_loadPart' hb
    have e1 : ys.drop i = [] := strs_off hi (by rw [hA]; omega)
    rw [e1] at h
    by_cases hlt2 : i < items2.size
    · obtain ⟨y, u, hy, hyz⟩ := strs_at hj (i := i) (by rw [hB]; exact hlt2)
      rw [hyz] at h
      show R (.ok (.ret (.bool (decide (items.size < items2.size))))) _
      rw [show decide (items.size < items2.size) = true from decide_eq_true (by omega)]
      exact h
    · rw [strs_off hj (by rw [hB]; exact hlt2)] at h
      show R (.ok (.ret (.bool (decide (items.size < items2.size))))) _
      rw [show decide (items.size < items2.size) = false from decide_eq_false (by omega)]
      exact h
  | succ k ih =>
    intro i hle hle2 hk prog w A R s h
    obtain ⟨hp, g, d, tk, os⟩ := s; obtain ⟨hl, hb, h⟩ := h
    wp_walk using wpAny_loadPart' hl, wpAny_loadPart' hb
    have hlt : i < items.size := by omega
    have hi1 : items[((i : Nat) : Int).toNat]? = some items[i] := by simp [hlt]
    have hc : ((i : Int) + 1) = ((i + 1 : Nat) : Int) := by push_cast; rfl
    obtain ⟨x, t, hx, hxz⟩ := strs_at hi (i := i) (by rw [hA]; exact hlt)
    simp only [hA] at hx
    rw [hxz] at h
    rw [hi1]
    by_cases hlt2 : i < items2.size
    · have hi2 : items2[((i : Nat) : Int).toNat]? = some items2[i] := by simp [hlt2]
      rw [hi2]
      obtain ⟨y, u, hy, hyz⟩ := strs_at hj (i := i) (by rw [hB]; exact hlt2)
      simp only [hB] at hy
      rw [hyz] at h
      rw [hx, hy]
      refine wpAny_bind (SeqAt.EqAt.str_str x t y u prog w _ _ ?_)
      cases hb' : (x == y) with
      | true =>
        wp_walk
        rw [hc]
        have hb2 : (y == x) = true := by rw [eq_of_beq hb']; exact beq_self_eq_true _
        exact ⟨plainId_quiet PySem.MeetsSeq3.plain_eq_loop _, codeAny_builtin PySem.MeetsSeq3.entry_eq_loop (by
          rw [Around.under_plainId PySem.MeetsSeq3.plain_eq_loop _]
          exact ih (i + 1) hlt hlt2 (by omega) prog w A R _ ⟨hl, hb, by simpa only [ltL, hb', hb2, if_true] using h⟩)⟩
      | false =>
        have hb2 : (y == x) = false := by rw [beq_eq_false_iff_ne] at hb' ⊢; exact fun e => hb' e.symm
        wp_walk using wpAny_loadPart' hl, wpAny_loadPart' hb
        rw [hi1, hi2, hx, hy]
        refine wpAny_bind ?_
        show wpAny _ _ (compareOp .Lt (.str x t) (.str y u)) _ _ _
        exact PyProof.Rows.lt_str (wpAny_pure (by simpa only [ltL, hb', hb2, Bool.false_eq_true, if_false] using h))
    · have hi2 : items2[((i : Nat) : Int).toNat]? = none := by simp; omega
      rw [hi2]
      rw [strs_off hj (by rw [hB]; exact hlt2)] at h
      wp_walk using wpAny_loadPart' hl, wpAny_loadPart' hb
      show R (.ok (.ret (.bool (decide (items.size < items2.size))))) _
      rw [show decide (items.size < items2.size) = false from decide_eq_false (by omega)]
      exact h
theorem gt_loop (l b : Addr) (vs ws : List Value) (ys zs : List Str) (n n2 : Nat) (dd dd2 : Option Addr) (sl sl2 : Array (Option Value)) (hi : StrsAre vs ys) (hj : StrsAre ws zs) (k : Nat) :
    ∀ i : Nat, i ≤ vs.toArray.size → i ≤ ws.toArray.size → vs.toArray.size - i = k → Meets (Builtin.«list.__eq__.loop» ⟨[.ref l, .ref b, rawInt i, rawInt 4], []⟩)
      (fun _ R s => s.heap.get? l = some { cls := .type "list", dict := dd, data := .seq vs.toArray n, slots := sl } ∧ s.heap.get? b = some { cls := .type "list", dict := dd2, data := .seq ws.toArray n2, slots := sl2 } ∧
        R (.ok (.ret (.bool (ltL (zs.drop i) (ys.drop i))))) s) := by
  generalize hA : vs.toArray = items
  generalize hB : ws.toArray = items2
  induction k with
  | zero =>
    intro i hle hle2 hk prog w A R s h
    obtain ⟨hp, g, d, tk, os⟩ := s; obtain ⟨hl, hb, h⟩ := h
    wp_walk using wpAny_loadPart' hl, wpAny_loadPart' hb
    have hi1 : items[((i : Nat) : Int).toNat]? = none := by simp; omega
    rw [hi1]
    wp_walk using wpAny_loadPart' hl, wpAny_loadPart' hb
    have e1 : ys.drop i = [] := strs_off hi (by rw [hA]; omega)
    rw [e1] at h
    by_cases hlt2 : i < items2.size
    · obtain ⟨y, u, hy, hyz⟩ := strs_at hj (i := i) (by rw [hB]; exact hlt2)
      rw [hyz] at h
      show R (.ok (.ret (.bool (decide (items.size > items2.size))))) _
      rw [show decide (items.size > items2.size) = false from decide_eq_false (by omega)]
      exact h
    · rw [strs_off hj (by rw [hB]; exact hlt2)] at h
      show R (.ok (.ret (.bool (decide (items.size > items2.size))))) _
      rw [show decide (items.size > items2.size) = false from decide_eq_false (by omega)]
      exact h
  | succ k ih =>
    intro i hle hle2 hk prog w A R s h
    obtain ⟨hp, g, d, tk, os⟩ := s; obtain ⟨hl, hb, h⟩ := h
    wp_walk using wpAny_loadPart' hl, wpAny_loadPart' hb
    have hlt : i < items.size := by omega
    have hi1 : items[((i : Nat) : Int).toNat]? = some items[i] := by simp [hlt]
    have hc : ((i : Int) + 1) = ((i + 1 : Nat) : Int) := by push_cast; rfl
    obtain ⟨x, t, hx, hxz⟩ := strs_at hi (i := i) (by rw [hA]; exact hlt)
    simp only [hA] at hx
    rw [hxz] at h
    rw [hi1]
    by_cases hlt2 : i < items2.size
    · have hi2 : items2[((i : Nat) : Int).toNat]? = some items2[i] := by simp [hlt2]
      rw [hi2]
      obtain ⟨y, u, hy, hyz⟩ := strs_at hj (i := i) (by rw [hB]; exact hlt2)
      simp only [hB] at hy
      rw [hyz] at h
      rw [hx, hy]
      refine wpAny_bind (SeqAt.EqAt.str_str x t y u prog w _ _ ?_)
      cases hb' : (x == y) with
      | true =>
        wp_walk
        rw [hc]
        have hb2 : (y == x) = true := by rw [eq_of_beq hb']; exact beq_self_eq_true _
        exact ⟨plainId_quiet PySem.MeetsSeq3.plain_eq_loop _, codeAny_builtin PySem.MeetsSeq3.entry_eq_loop (by
          rw [Around.under_plainId PySem.MeetsSeq3.plain_eq_loop _]
          exact ih (i + 1) hlt hlt2 (by omega) prog w A R _ ⟨hl, hb, by simpa only [ltL, hb', hb2, if_true] using h⟩)⟩
      | false =>
        have hb2 : (y == x) = false := by rw [beq_eq_false_iff_ne] at hb' ⊢; exact fun e => hb' e.symm
        wp_walk using wpAny_loadPart' hl, wpAny_loadPart' hb
        rw [hi1, hi2, hx, hy]
        refine wpAny_bind ?_
        show wpAny _ _ (compareOp .Gt (.str x t) (.str y u)) _ _ _
        exact PySem.P.gt_str (wpAny_pure (by simpa only [ltL, hb', hb2, Bool.false_eq_true, if_false] using h))
    · have hi2 : items2[((i : Nat) : Int).toNat]? = none := by simp; omega
      rw [hi2]
      rw [strs_off hj (by rw [hB]; exact hlt2)] at h
      wp_walk using wpAny_loadPart' hl, wpAny_loadPart' hb
      show R (.ok (.ret (.bool (decide (items.size > items2.size))))) _
      rw [show decide (items.size > items2.size) = true from decide_eq_true (by omega)]
      exact h
theorem list_lt (l b : Addr) (vs ws : List Value) (ys zs : List Str) (n n2 : Nat) (dd dd2 : Option Addr) (sl sl2 : Array (Option Value)) (hi : StrsAre vs ys) (hj : StrsAre ws zs) :
    Meets (Builtin.«list.__lt__» ⟨[.ref l, .ref b], []⟩)
      (fun _ R s => s.heap.get? l = some { cls := .type "list", dict := dd, data := .seq vs.toArray n, slots := sl } ∧ s.heap.get? b = some { cls := .type "list", dict := dd2, data := .seq ws.toArray n2, slots := sl2 } ∧
        R (.ok (.ret (.bool (ltL ys zs)))) s) := by
  intro prog w A R s h
  obtain ⟨hp, g, d, tk, os⟩ := s; obtain ⟨hl, hb, h⟩ := h
  have f3 := AutoSeq1.sub_list_list
  wp_walk using wpAny_loadPart' hl, wpAny_loadPart' hb
  exact ⟨plainId_quiet PySem.MeetsSeq3.plain_eq_loop _, codeAny_builtin PySem.MeetsSeq3.entry_eq_loop (by
    rw [Around.under_plainId PySem.MeetsSeq3.plain_eq_loop _]
    exact lt_loop l b vs ws ys zs n n2 dd dd2 sl sl2 hi hj _ 0 (Nat.zero_le _) (Nat.zero_le _) rfl prog w A R _ ⟨hl, hb, h⟩)⟩
theorem rc_lt {prog : Program} {w : World} {A : Around} {E : Value → Shared → Prop} {s : Shared} {l b : Addr} {vs ws : List Value} {ys zs : List Str} {Q : Value → Shared → Prop} (hl : s.heap.IsList l vs.toArray) (hb : s.heap.IsList b ws.toArray) (hi : StrsAre vs ys) (hj : StrsAre ws zs) (hu : A.units < cLine)
    (h : Q (.bool (ltL ys zs)) s) : wpAny (model prog w) A (richCompare .Lt (.ref l) (.ref b)) Q E s := by
  obtain ⟨⟨cls, dd, data, sl⟩, ho, hc, n, hd⟩ := id hl
  obtain ⟨⟨cls2, dd2, data2, sl2⟩, ho2, hc2, n2, hd2⟩ := id hb
  simp only at hc hd hc2 hd2
  subst hc hd hc2 hd2
  exact richCompare_meets_room (op := .Lt) ⟨_, ho, rfl⟩ ⟨_, ho2, rfl⟩ F.slot_list_lt F.entry_list_lt (F.args_list_lt_2 _ _) (list_lt l b vs ws ys zs n n2 dd dd2 sl sl2 hi hj)
    ⟨ho, ho2, show Value.bool (ltL ys zs) ≠ Value.notImplemented ∧ Q (.bool (ltL ys zs)) s from ⟨(fun x => nomatch x), h⟩⟩ hu
theorem list_gt (l b : Addr) (vs ws : List Value) (ys zs : List Str) (n n2 : Nat) (dd dd2 : Option Addr) (sl sl2 : Array (Option Value)) (hi : StrsAre vs ys) (hj : StrsAre ws zs) :
    Meets (Builtin.«list.__gt__» ⟨[.ref l, .ref b], []⟩)
      (fun _ R s => s.heap.get? l = some { cls := .type "list", dict := dd, data := .seq vs.toArray n, slots := sl } ∧ s.heap.get? b = some { cls := .type "list", dict := dd2, data := .seq ws.toArray n2, slots := sl2 } ∧
        R (.ok (.ret (.bool (ltL zs ys)))) s) := by
  intro prog w A R s h
  obtain ⟨hp, g, d, tk, os⟩ := s; obtain ⟨hl, hb, h⟩ := h
  have f3 := AutoSeq1.sub_list_list
  wp_walk using wpAny_loadPart' hl, wpAny_loadPart' hb
  exact ⟨plainId_quiet PySem.MeetsSeq3.plain_eq_loop _, codeAny_builtin PySem.MeetsSeq3.entry_eq_loop (by
    rw [Around.under_plainId PySem.MeetsSeq3.plain_eq_loop _]
    exact gt_loop l b vs ws ys zs n n2 dd dd2 sl sl2 hi hj _ 0 (Nat.zero_le _) (Nat.zero_le _) rfl prog w A R _ ⟨hl, hb, h⟩)⟩
theorem rc_gt {prog : Program} {w : World} {A : Around} {E : Value → Shared → Prop} {s : Shared} {l b : Addr} {vs ws : List Value} {ys zs : List Str} {Q : Value → Shared → Prop} (hl : s.heap.IsList l vs.toArray) (hb : s.heap.IsList b ws.toArray) (hi : StrsAre vs ys) (hj : StrsAre ws zs) (hu : A.units < cLine)
    (h : Q (.bool (ltL zs ys)) s) : wpAny (model prog w) A (richCompare .Gt (.ref l) (.ref b)) Q E s := by
  obtain ⟨⟨cls, dd, data, sl⟩, ho, hc, n, hd⟩ := id hl
  obtain ⟨⟨cls2, dd2, data2, sl2⟩, ho2, hc2, n2, hd2⟩ := id hb
  simp only at hc hd hc2 hd2
  subst hc hd hc2 hd2
  exact richCompare_meets_room (op := .Gt) ⟨_, ho, rfl⟩ ⟨_, ho2, rfl⟩ F.slot_list_gt F.entry_list_gt (F.args_list_gt_2 _ _) (list_gt l b vs ws ys zs n n2 dd dd2 sl sl2 hi hj)
    ⟨ho, ho2, show Value.bool (ltL zs ys) ≠ Value.notImplemented ∧ Q (.bool (ltL zs ys)) s from ⟨(fun x => nomatch x), h⟩⟩ hu
end piece_L10
section piece_L11
open Builtin
/-- min of a list of two, whose comparing answers some truth value -/
theorem min_two {prog : Program} {w : World} {A : Around} {E : Value → Shared → Prop} {s : Shared} {h₀ : Heap} {L l : Addr} {m : Str → Option Value} {news : List (Addr × Obj)} {v0 v1 : Value} {q : Bool} {Q : Value → Shared → Prop} (hh : A.handled = none) (Fm : Fr h₀ L s.heap m) (N : News h₀ L s.heap news) (hl : s.heap.IsList l [v0, v1].toArray)
    (hcmp : ∀ (s' : Shared) (Q : Value → Shared → Prop) (E : Value → Shared → Prop), (∀ b o, s.heap.get? b = some o → s'.heap.get? b = some o) → Q (.bool q) s' → wpAny (model prog w) A.in1 (richCompare .Lt v1 v0) Q E s')
    (h : ∀ h' tk, Fr h₀ L h' m → News h₀ L h' news → Q (if q = true then v1 else v0) { s with heap := h', toks := tk }) : wpAny (model prog w) A (call (.builtin "min") [.ref l]) Q E s := by
  have hname : (toString "min" ++ toString ".loop" : String) = "min.loop" := by decide
  refine call_function_tree F.kind_min F.plain_min F.entry_min (F.args_min1 _) ?_
  show wpAny _ A.in1 (Builtin.Builtins.bindParams "min" ["key", "default"] 0 ⟨[], []⟩ >>= _) _ _ s
  refine wpAny_bind (wpAny_of_eq (show Builtin.Builtins.bindParams "min" ["key", "default"] 0 ⟨[], []⟩ = pure [none, none] from rfl) ?_)
  refine wpAny_bind (wpAny_pure ?_)
  refine wpAny_bind (wpAny_pyIter_list hl ?_)
  refine wpAny_bind (wpAny_newObj_type ?_)
  rw [hname]
  generalize hH1 : s.heap.push { cls := .type "list_iterator", data := .fields #[.ref l, .int 0 0] } = H1
  have s1 : H1.objs.size = s.heap.objs.size + 1 := by rw [← hH1, Heap.size_push]
  have l01 : s.heap.objs.size < H1.objs.size := by rw [s1]; exact Nat.lt_succ_self _
  have hlt : l < s.heap.objs.size := by obtain ⟨_, e, _⟩ := hl; exact Heap.lt_size e
  have hIS : s.heap.objs.size ≠ H1.objs.size := Nat.ne_of_lt l01
  have W := Walks.list (prog := prog) (w := w) (A := A.in1) hh s.heap.objs.size l (Nat.ne_of_lt hlt) [v0, v1].toArray
  have up : ∀ b o, s.heap.get? b = some o → (H1.push { cls := .type "list", data := .seq #[] }).get? b = some o := fun b o e => Heap.get?_push_of_some _ (hH1 ▸ Heap.get?_push_of_some _ e)
  have hS0 : (H1.push { cls := .type "list", dict := none, data := .seq ([] : List Value).toArray }).get? H1.objs.size = some { cls := .type "list", dict := none, data := .seq #[] 0, slots := #[] } := Heap.get?_push_size _ rfl
  have hI0 : (H1.push { cls := .type "list", dict := none, data := .seq ([] : List Value).toArray }).get? s.heap.objs.size = some { cls := .type "list_iterator", data := .fields #[.ref l, .int 0 0] } := Heap.get?_push_of_some _ (hH1 ▸ Heap.get?_push_size _ rfl)
  have hl0 : (H1.push { cls := .type "list", dict := none, data := .seq ([] : List Value).toArray }).IsList l [v0, v1].toArray := by
    obtain ⟨o, e, r⟩ := hl
    exact ⟨o, up _ _ e, r⟩
  generalize hH2 : H1.push { cls := .type "list", dict := none, data := .seq ([] : List Value).toArray } = H2 at *
  have old : ∀ b o, s.heap.get? b = some o → b ≠ s.heap.objs.size ∧ b ≠ H1.objs.size := fun b o e => ⟨Nat.ne_of_lt (Heap.lt_size e), Nat.ne_of_lt (Nat.lt_trans (Heap.lt_size e) l01)⟩
  have nI : ∀ {b : Addr}, b ≠ s.heap.objs.size → b ∉ [s.heap.objs.size] := fun h => by simpa using h
  -- the end
  have fin : ∀ (s' : Shared) vb c, vb = (if q = true then v1 else v0) → (s'.heap.IsListIter s.heap.objs.size l 2 ∧ s'.heap.IsList l [v0, v1].toArray) → s'.heap.get? H1.objs.size = some { cls := .type "list", dict := none, data := .seq #[vb, vb] c, slots := #[] } → (∀ b o, s.heap.get? b = some o → s'.heap.get? b = some o) → (∃ h tk, s' = { s with heap := h, toks := tk }) →
      codeAny (model prog w) A (.builtin "min.loop" ⟨[.ref s.heap.objs.size, .none, .ref H1.objs.size], []⟩) (wants Q E) s' := by
    rintro s' vb c hv hst hS hk ⟨h', tk', rfl⟩
    refine codeAny_builtin F.entry_min_loop ?_
    rw [Around.under_plainId F.plain_min_loop _]
    show wpAny _ A.in1 (seqItems? (.ref H1.objs.size) >>= _) _ _ _
    refine wpAny_bind (wpAny_seqItems hS rfl ?_)
    show wpAny _ A.in1 (tryCatch (pyNext (.ref s.heap.objs.size)) _ >>= _) _ _ _
    refine wpAny_bind (wpAny_tryCatch (W.done _ _ _ hst fun h₂ tk₂ hk₂ => ?_))
    have hS' := hk₂ _ _ (nI (Ne.symm hIS)) hS
    show wpAny _ A.in1 (updateSeq H1.objs.size (fun _ => #[]) >>= _) _ _ _
    refine wpAny_bind ?_
    refine wpAny_updateSeq hS' rfl (wpAny_bind (wpAny_letGo (wpAny_pure ?_)))
    have k3 : ∀ b o, s.heap.get? b = some o → (h₂.update H1.objs.size (Obj.mapSeq fun _ => #[])).get? b = some o := fun b o e => (Heap.get?_update_other _ _ (Ne.symm (old b o e).2)).trans (hk₂ b o (nI (old b o e).1) (hk b o e))
    rw [hv]
    exact h _ tk₂ (Fm.keeps k3) (N.grown k3)
  have tl0 : ∀ (s' : Shared) c, (s'.heap.IsListIter s.heap.objs.size l 1 ∧ s'.heap.IsList l [v0, v1].toArray) → s'.heap.get? H1.objs.size = some { cls := .type "list", dict := none, data := .seq #[v0, v0] c, slots := #[] } → (∀ b o, s.heap.get? b = some o → s'.heap.get? b = some o) → (∃ h tk, s' = { s with heap := h, toks := tk }) →
      codeAny (model prog w) A (.builtin "min.loop" ⟨[.ref s.heap.objs.size, .none, .ref H1.objs.size], []⟩) (wants Q E) s' := by
    rintro s' c hst hS hk ⟨h', tk', rfl⟩
    refine codeAny_builtin F.entry_min_loop ?_
    rw [Around.under_plainId F.plain_min_loop _]
    show wpAny _ A.in1 (seqItems? (.ref H1.objs.size) >>= _) _ _ _
    refine wpAny_bind (wpAny_seqItems hS rfl ?_)
    show wpAny _ A.in1 (tryCatch (pyNext (.ref s.heap.objs.size)) _ >>= _) _ _ _
    refine wpAny_bind (wpAny_tryCatch (W.item 1 _ _ _ (by simp) hst fun v h₂ tk₂ hP hst₂ hk₂ => ?_))
    obtain rfl : v = v1 := by simpa using hP.symm
    have hS' := hk₂ _ _ (nI (Ne.symm hIS)) hS
    have k2 : ∀ b o, s.heap.get? b = some o → h₂.get? b = some o := fun b o e => hk₂ b o (nI (old b o e).1) (hk b o e)
    show wpAny _ A.in1 (tryCatch (holding [v, v] (richCompare .Lt v v0 >>= _)) _ >>= _) _ _ _
    refine wpAny_bind (wpAny_tryCatch (wpAny_holding (wpAny_bind (hcmp _ _ _ k2 ?_))))
    refine wpAny_bind (wpAny_holding (wpAny_truthy_bool ?_))
    refine wpAny_bind (wpAny_letGo (wpAny_pure ?_))
    cases hq : q with
    | true =>
      simp only [if_true]
      refine wpAny_bind ?_
      refine wpAny_updateSeq hS' rfl (wpAny_bind (wpAny_letGo ?_))
      rw [hname]
      refine wpAny_pure ⟨plainId_quiet F.plain_min_loop _, fin _ v _ (by rw [hq]; rfl) (W.frame _ _ _ hst₂ fun b hbf o e => ?_) (Heap.get?_update_self _ hS' rfl) (fun b o e => ?_) ⟨_, _, rfl⟩⟩
      · refine (Heap.get?_update_other _ _ ?_).trans e
        simp only [List.mem_cons, List.not_mem_nil, or_false] at hbf
        rcases hbf with rfl | rfl
        · exact Ne.symm hIS
        · exact Nat.ne_of_gt (Nat.lt_trans hlt l01)
      · exact (Heap.get?_update_other _ _ (Ne.symm (old b o e).2)).trans (k2 b o e)
    | false =>
      simp only [Bool.false_eq_true, if_false]
      refine wpAny_bind (wpAny_letGo ?_)
      rw [hname]
      exact wpAny_pure ⟨plainId_quiet F.plain_min_loop _, fin _ v0 _ (by rw [hq]; rfl) hst₂ hS' k2 ⟨_, _, rfl⟩⟩
  refine wpAny_pure ⟨plainId_quiet F.plain_min_loop _, ?_⟩
  refine codeAny_builtin F.entry_min_loop ?_
  rw [Around.under_plainId F.plain_min_loop _]
  show wpAny _ A.in1 (seqItems? (.ref H1.objs.size) >>= _) _ _ _
  refine wpAny_bind (wpAny_seqItems hS0 rfl ?_)
  show wpAny _ A.in1 (tryCatch (pyNext (.ref s.heap.objs.size)) _ >>= _) _ _ _
  refine wpAny_bind (wpAny_tryCatch (W.item 0 _ _ _ (by simp) ⟨⟨_, hI0, rfl, rfl⟩, hl0⟩ fun v h₂ tk₂ hP hst₂ hk₂ => ?_))
  obtain rfl : v = v0 := by simpa using hP.symm
  have hS' := hk₂ _ _ (nI (Ne.symm hIS)) hS0
  have k2 : ∀ b o, s.heap.get? b = some o → h₂.get? b = some o := fun b o e => hk₂ b o (nI (old b o e).1) (up b o e)
  show wpAny _ A.in1 (updateSeq H1.objs.size (fun _ => #[v, v]) >>= _) _ _ _
  refine wpAny_bind ?_
  refine wpAny_updateSeq hS' rfl ?_
  rw [hname]
  refine wpAny_pure ⟨plainId_quiet F.plain_min_loop _, tl0 _ _ (W.frame _ _ _ hst₂ fun b hbf o e => ?_) (Heap.get?_update_self _ hS' rfl) (fun b o e => ?_) ⟨_, _, rfl⟩⟩
  · refine (Heap.get?_update_other _ _ ?_).trans e
    simp only [List.mem_cons, List.not_mem_nil, or_false] at hbf
    rcases hbf with rfl | rfl
    · exact Ne.symm hIS
    · exact Nat.ne_of_gt (Nat.lt_trans hlt l01)
  · exact (Heap.get?_update_other _ _ (Ne.symm (old b o e).2)).trans (k2 b o e)
/-- max of a list of two, whose comparing answers some truth value -/
theorem max_two {prog : Program} {w : World} {A : Around} {E : Value → Shared → Prop} {s : Shared} {h₀ : Heap} {L l : Addr} {m : Str → Option Value} {news : List (Addr × Obj)} {v0 v1 : Value} {q : Bool} {Q : Value → Shared → Prop} (hh : A.handled = none) (Fm : Fr h₀ L s.heap m) (N : News h₀ L s.heap news) (hl : s.heap.IsList l [v0, v1].toArray)
    (hcmp : ∀ (s' : Shared) (Q : Value → Shared → Prop) (E : Value → Shared → Prop), (∀ b o, s.heap.get? b = some o → s'.heap.get? b = some o) → Q (.bool q) s' → wpAny (model prog w) A.in1 (richCompare .Gt v1 v0) Q E s')
    (h : ∀ h' tk, Fr h₀ L h' m → News h₀ L h' news → Q (if q = true then v1 else v0) { s with heap := h', toks := tk }) : wpAny (model prog w) A (call (.builtin "max") [.ref l]) Q E s := by
  have hname : (toString "max" ++ toString ".loop" : String) = "max.loop" := by decide
  refine call_function_tree F.kind_max F.plain_max F.entry_max (F.args_max1 _) ?_
  show wpAny _ A.in1 (Builtin.Builtins.bindParams "max" ["key", "default"] 0 ⟨[], []⟩ >>= _) _ _ s
  refine wpAny_bind (wpAny_of_eq (show Builtin.Builtins.bindParams "max" ["key", "default"] 0 ⟨[], []⟩ = pure [none, none] from rfl) ?_)
  refine wpAny_bind (wpAny_pure ?_)
  refine wpAny_bind (wpAny_pyIter_list hl ?_)
  refine wpAny_bind (wpAny_newObj_type ?_)
  rw [hname]
  generalize hH1 : s.heap.push { cls := .type "list_iterator", data := .fields #[.ref l, .int 0 0] } = H1
  have s1 : H1.objs.size = s.heap.objs.size + 1 := by rw [← hH1, Heap.size_push]
  have l01 : s.heap.objs.size < H1.objs.size := by rw [s1]; exact Nat.lt_succ_self _
  have hlt : l < s.heap.objs.size := by obtain ⟨_, e, _⟩ := hl; exact Heap.lt_size e
  have hIS : s.heap.objs.size ≠ H1.objs.size := Nat.ne_of_lt l01
  have W := Walks.list (prog := prog) (w := w) (A := A.in1) hh s.heap.objs.size l (Nat.ne_of_lt hlt) [v0, v1].toArray
  have up : ∀ b o, s.heap.get? b = some o → (H1.push { cls := .type "list", data := .seq #[] }).get? b = some o := fun b o e => Heap.get?_push_of_some _ (hH1 ▸ Heap.get?_push_of_some _ e)
  have hS0 : (H1.push { cls := .type "list", dict := none, data := .seq ([] : List Value).toArray }).get? H1.objs.size = some { cls := .type "list", dict := none, data := .seq #[] 0, slots := #[] } := Heap.get?_push_size _ rfl
  have hI0 : (H1.push { cls := .type "list", dict := none, data := .seq ([] : List Value).toArray }).get? s.heap.objs.size = some { cls := .type "list_iterator", data := .fields #[.ref l, .int 0 0] } := Heap.get?_push_of_some _ (hH1 ▸ Heap.get?_push_size _ rfl)
  have hl0 : (H1.push { cls := .type "list", dict := none, data := .seq ([] : List Value).toArray }).IsList l [v0, v1].toArray := by
    obtain ⟨o, e, r⟩ := hl
    exact ⟨o, up _ _ e, r⟩
  generalize hH2 : H1.push { cls := .type "list", dict := none, data := .seq ([] : List Value).toArray } = H2 at *
  have old : ∀ b o, s.heap.get? b = some o → b ≠ s.heap.objs.size ∧ b ≠ H1.objs.size := fun b o e => ⟨Nat.ne_of_lt (Heap.lt_size e), Nat.ne_of_lt (Nat.lt_trans (Heap.lt_size e) l01)⟩
  have nI : ∀ {b : Addr}, b ≠ s.heap.objs.size → b ∉ [s.heap.objs.size] := fun h => by simpa using h
  -- the end
  have fin : ∀ (s' : Shared) vb c, vb = (if q = true then v1 else v0) → (s'.heap.IsListIter s.heap.objs.size l 2 ∧ s'.heap.IsList l [v0, v1].toArray) → s'.heap.get? H1.objs.size = some { cls := .type "list", dict := none, data := .seq #[vb, vb] c, slots := #[] } → (∀ b o, s.heap.get? b = some o → s'.heap.get? b = some o) → (∃ h tk, s' = { s with heap := h, toks := tk }) →
      codeAny (model prog w) A (.builtin "max.loop" ⟨[.ref s.heap.objs.size, .none, .ref H1.objs.size], []⟩) (wants Q E) s' := by
    rintro s' vb c hv hst hS hk ⟨h', tk', rfl⟩
    refine codeAny_builtin F.entry_max_loop ?_
    rw [Around.under_plainId F.plain_max_loop _]
    show wpAny _ A.in1 (seqItems? (.ref H1.objs.size) >>= _) _ _ _
    refine wpAny_bind (wpAny_seqItems hS rfl ?_)
    show wpAny _ A.in1 (tryCatch (pyNext (.ref s.heap.objs.size)) _ >>= _) _ _ _
    refine wpAny_bind (wpAny_tryCatch (W.done _ _ _ hst fun h₂ tk₂ hk₂ => ?_))
    have hS' := hk₂ _ _ (nI (Ne.symm hIS)) hS
    show wpAny _ A.in1 (updateSeq H1.objs.size (fun _ => #[]) >>= _) _ _ _
    refine wpAny_bind ?_
    refine wpAny_updateSeq hS' rfl (wpAny_bind (wpAny_letGo (wpAny_pure ?_)))
    have k3 : ∀ b o, s.heap.get? b = some o → (h₂.update H1.objs.size (Obj.mapSeq fun _ => #[])).get? b = some o := fun b o e => (Heap.get?_update_other _ _ (Ne.symm (old b o e).2)).trans (hk₂ b o (nI (old b o e).1) (hk b o e))
    rw [hv]
    exact h _ tk₂ (Fm.keeps k3) (N.grown k3)
  have tl0 : ∀ (s' : Shared) c, (s'.heap.IsListIter s.heap.objs.size l 1 ∧ s'.heap.IsList l [v0, v1].toArray) → s'.heap.get? H1.objs.size = some { cls := .type "list", dict := none, data := .seq #[v0, v0] c, slots := #[] } → (∀ b o, s.heap.get? b = some o → s'.heap.get? b = some o) → (∃ h tk, s' = { s with heap := h, toks := tk }) →
      codeAny (model prog w) A (.builtin "max.loop" ⟨[.ref s.heap.objs.size, .none, .ref H1.objs.size], []⟩) (wants Q E) s' := by
    rintro s' c hst hS hk ⟨h', tk', rfl⟩
    refine codeAny_builtin F.entry_max_loop ?_
    rw [Around.under_plainId F.plain_max_loop _]
    show wpAny _ A.in1 (seqItems? (.ref H1.objs.size) >>= _) _ _ _
    refine wpAny_bind (wpAny_seqItems hS rfl ?_)
    show wpAny _ A.in1 (tryCatch (pyNext (.ref s.heap.objs.size)) _ >>= _) _ _ _
    refine wpAny_bind (wpAny_tryCatch (W.item 1 _ _ _ (by simp) hst fun v h₂ tk₂ hP hst₂ hk₂ => ?_))
    obtain rfl : v = v1 := by simpa using hP.symm
    have hS' := hk₂ _ _ (nI (Ne.symm hIS)) hS
    have k2 : ∀ b o, s.heap.get? b = some o → h₂.get? b = some o := fun b o e => hk₂ b o (nI (old b o e).1) (hk b o e)
    show wpAny _ A.in1 (tryCatch (holding [v, v] (richCompare .Gt v v0 >>= _)) _ >>= _) _ _ _
    refine wpAny_bind (wpAny_tryCatch (wpAny_holding (wpAny_bind (hcmp _ _ _ k2 ?_))))
    refine wpAny_bind (wpAny_holding (wpAny_truthy_bool ?_))
    refine wpAny_bind (wpAny_letGo (wpAny_pure ?_))
    cases hq : q with
    | true =>
      simp only [if_true]
      refine wpAny_bind ?_
      refine wpAny_updateSeq hS' rfl (wpAny_bind (wpAny_letGo ?_))
      rw [hname]
      refine wpAny_pure ⟨plainId_quiet F.plain_max_loop _, fin _ v _ (by rw [hq]; rfl) (W.frame _ _ _ hst₂ fun b hbf o e => ?_) (Heap.get?_update_self _ hS' rfl) (fun b o e => ?_) ⟨_, _, rfl⟩⟩
      · refine (Heap.get?_update_other _ _ ?_).trans e
        simp only [List.mem_cons, List.not_mem_nil, or_false] at hbf
        rcases hbf with rfl | rfl
        · exact Ne.symm hIS
        · exact Nat.ne_of_gt (Nat.lt_trans hlt l01)
      · exact (Heap.get?_update_other _ _ (Ne.symm (old b o e).2)).trans (k2 b o e)
    | false =>
      simp only [Bool.false_eq_true, if_false]
      refine wpAny_bind (wpAny_letGo ?_)
      rw [hname]
      exact wpAny_pure ⟨plainId_quiet F.plain_max_loop _, fin _ v0 _ (by rw [hq]; rfl) hst₂ hS' k2 ⟨_, _, rfl⟩⟩
  refine wpAny_pure ⟨plainId_quiet F.plain_max_loop _, ?_⟩
  refine codeAny_builtin F.entry_max_loop ?_
  rw [Around.under_plainId F.plain_max_loop _]
  show wpAny _ A.in1 (seqItems? (.ref H1.objs.size) >>= _) _ _ _
  refine wpAny_bind (wpAny_seqItems hS0 rfl ?_)
  show wpAny _ A.in1 (tryCatch (pyNext (.ref s.heap.objs.size)) _ >>= _) _ _ _
  refine wpAny_bind (wpAny_tryCatch (W.item 0 _ _ _ (by simp) ⟨⟨_, hI0, rfl, rfl⟩, hl0⟩ fun v h₂ tk₂ hP hst₂ hk₂ => ?_))
  obtain rfl : v = v0 := by simpa using hP.symm
  have hS' := hk₂ _ _ (nI (Ne.symm hIS)) hS0
  have k2 : ∀ b o, s.heap.get? b = some o → h₂.get? b = some o := fun b o e => hk₂ b o (nI (old b o e).1) (up b o e)
  show wpAny _ A.in1 (updateSeq H1.objs.size (fun _ => #[v, v]) >>= _) _ _ _
  refine wpAny_bind ?_
  refine wpAny_updateSeq hS' rfl ?_
  rw [hname]
  refine wpAny_pure ⟨plainId_quiet F.plain_max_loop _, tl0 _ _ (W.frame _ _ _ hst₂ fun b hbf o e => ?_) (Heap.get?_update_self _ hS' rfl) (fun b o e => ?_) ⟨_, _, rfl⟩⟩
  · refine (Heap.get?_update_other _ _ ?_).trans e
    simp only [List.mem_cons, List.not_mem_nil, or_false] at hbf
    rcases hbf with rfl | rfl
    · exact Ne.symm hIS
    · exact Nat.ne_of_gt (Nat.lt_trans hlt l01)
  · exact (Heap.get?_update_other _ _ (Ne.symm (old b o e).2)).trans (k2 b o e)
theorem isi_lt {prog : Program} {w : World} {A : Around} {E : Value → Shared → Prop} {s : Shared} {Q : Value → Shared → Prop} {x tp : Addr} {its : Array Value} (hx : s.heap.IsList x its) (ht : s.heap.get? tp = some { cls := .type "tuple", data := .seq [Value.type "list", .type "tuple"].toArray })
    (h : ∀ tk, Q (.bool true) { s with toks := tk }) : wpAny (model prog w) A (call (.builtin "isinstance") [.ref x, .ref tp]) Q E s := by
  obtain ⟨o, ho, hc, _⟩ := hx
  exact IsiPair.tupleOfB (Tx := "list") (b := true) (AnswersAll.cons (Answers.of_true F.isi_meta_list F.sub_list_list) (AnswersAll.cons (Answers.of_false_list (by decide +kernel) F.isi_meta_tuple F.sub_list_tuple) AnswersAll.nil)) ⟨o, ho, hc⟩ ht rfl h
theorem min_ll {prog : Program} {w : World} {A : Around} {E : Value → Shared → Prop} {s : Shared} {h₀ : Heap} {L l a b : Addr} {m : Str → Option Value} {news : List (Addr × Obj)} {va vb : List Value} {xa xb : List Str} {Q : Value → Shared → Prop} (hh : A.handled = none) (Fm : Fr h₀ L s.heap m) (N : News h₀ L s.heap news) (hl : s.heap.IsList l [.ref a, .ref b].toArray) (ha : s.heap.IsList a va.toArray) (hb : s.heap.IsList b vb.toArray) (hi : StrsAre va xa) (hj : StrsAre vb xb) (hu : A.in1.units < cLine)
    (h : ∀ h' tk, Fr h₀ L h' m → News h₀ L h' news → Q (.ref (if ltL xb xa = true then b else a)) { s with heap := h', toks := tk }) : wpAny (model prog w) A (call (.builtin "min") [.ref l]) Q E s :=
  min_two (q := ltL xb xa) hh Fm N hl (fun s' Q E hk hq => rc_lt (by obtain ⟨o, e, r⟩ := hb; exact ⟨o, hk _ _ e, r⟩) (by obtain ⟨o, e, r⟩ := ha; exact ⟨o, hk _ _ e, r⟩) hj hi hu hq) (fun h' tk F' N' => by
    have := h h' tk F' N'
    cases hq : ltL xb xa <;> rw [hq] at this <;> exact this)
theorem max_ll {prog : Program} {w : World} {A : Around} {E : Value → Shared → Prop} {s : Shared} {h₀ : Heap} {L l a b : Addr} {m : Str → Option Value} {news : List (Addr × Obj)} {va vb : List Value} {xa xb : List Str} {Q : Value → Shared → Prop} (hh : A.handled = none) (Fm : Fr h₀ L s.heap m) (N : News h₀ L s.heap news) (hl : s.heap.IsList l [.ref a, .ref b].toArray) (ha : s.heap.IsList a va.toArray) (hb : s.heap.IsList b vb.toArray) (hi : StrsAre va xa) (hj : StrsAre vb xb) (hu : A.in1.units < cLine)
    (h : ∀ h' tk, Fr h₀ L h' m → News h₀ L h' news → Q (.ref (if ltL xa xb = true then b else a)) { s with heap := h', toks := tk }) : wpAny (model prog w) A (call (.builtin "max") [.ref l]) Q E s :=
  max_two (q := ltL xa xb) hh Fm N hl (fun s' Q E hk hq => rc_gt (by obtain ⟨o, e, r⟩ := hb; exact ⟨o, hk _ _ e, r⟩) (by obtain ⟨o, e, r⟩ := ha; exact ⟨o, hk _ _ e, r⟩) hj hi hu hq) (fun h' tk F' N' => by
    have := h h' tk F' N'
    cases hq : ltL xa xb <;> rw [hq] at this <;> exact this)
theorem ltL_irrefl : ∀ x : List Str, ltL x x = false
  | [] => rfl
  | x :: r => by show (if x == x then ltL r r else _) = false; rw [beq_self_eq_true, if_pos rfl]; exact ltL_irrefl r
theorem nat_lex : ∀ x y : List Nat, x ≠ y → (decide (x < y) = !decide (y < x))
  | [], [], h => absurd rfl h
  | [], b :: t, _ => by rw [StrLaws.lt_nil_cons, StrLaws.lt_cons_nil]; rfl
  | a :: r, [], _ => by rw [StrLaws.lt_nil_cons, StrLaws.lt_cons_nil]; rfl
  | a :: r, b :: t, h => by
    rw [StrLaws.lt_cons_cons, StrLaws.lt_cons_cons]
    by_cases e : a = b
    · subst e
      have := nat_lex r t (fun e => h (by rw [e]))
      simp [this]
    · have h1 : (a == b) = false := by simpa using e
      have h2 : (b == a) = false := by simpa using fun x => e x.symm
      rw [h1, h2, Bool.false_and, Bool.false_and, Bool.or_false, Bool.or_false]
      by_cases hl : a < b
      · have : ¬ b < a := by omega
        simp [hl, this]
      · have : b < a := by omega
        simp [hl, this]
theorem ltL_tri : ∀ x y : List Str, x ≠ y → ltL x y = !ltL y x
  | [], [], h => absurd rfl h
  | [], _ :: _, _ => rfl
  | _ :: _, [], _ => rfl
  | x :: r, y :: t, h => by
    show (if x == y then ltL r t else _) = !(if y == x then ltL t r else _)
    by_cases e : x = y
    · subst e
      rw [beq_self_eq_true, if_pos rfl, if_pos rfl]
      exact ltL_tri r t (fun e => h (by rw [e]))
    · have h1 : (x == y) = false := by simpa using e
      have h2 : (y == x) = false := by simpa using fun z => e z.symm
      rw [h1, h2, if_neg Bool.false_ne_true, if_neg Bool.false_ne_true]
      exact nat_lex _ _ (fun z => e (PySem.Str.ext' (Array.toList_inj.mp z)))
theorem alike_comm : ∀ x y : List Str, alikeS x y = alikeS y x
  | [], [] => rfl
  | [], _ :: _ => rfl
  | _ :: _, [] => rfl
  | x :: r, y :: t => by
    show (if x = y then alikeS r t + 1 else 0) = (if y = x then alikeS t r + 1 else 0)
    by_cases e : x = y
    · subst e; rw [if_pos rfl, if_pos rfl, alike_comm r t]
    · rw [if_neg e, if_neg (fun z => e z.symm)]
/-- the two lists, the lesser first -/
inductive TwoSorted0 (h : Heap) (a b : Addr) (xa xb : List Str) : Prop
  | mk (p1 p2 : Addr) (v1 v2 : List Value) (x1 x2 : List Str) (hp1 : (if ltL xb xa = true then b else a) = p1) (hp2 : (if ltL xa xb = true then b else a) = p2) (hl1 : h.IsList p1 v1.toArray) (hl2 : h.IsList p2 v2.toArray) (hx1 : StrsAre v1 x1) (hx2 : StrsAre v2 x2) (hn1 : x1.length = xa.length) (hn2 : x2.length = xa.length) (hal : alikeS x1 x2 = alikeS xa xb) : TwoSorted0 h a b xa xb
theorem two_sortedX {h : Heap} {a b : Addr} {va vb : List Value} {xa xb : List Str} (ha : h.IsList a va.toArray) (hb : h.IsList b vb.toArray) (hi : StrsAre va xa) (hj : StrsAre vb xb) (hz : xa.length = xb.length) :
    ∃ p1 p2 v1 v2 x1 x2, (if ltL xb xa = true then b else a) = p1 ∧ (if ltL xa xb = true then b else a) = p2 ∧ h.IsList p1 v1.toArray ∧ h.IsList p2 v2.toArray ∧ StrsAre v1 x1 ∧ StrsAre v2 x2 ∧ x1.length = xa.length ∧ x2.length = xa.length ∧ alikeS x1 x2 = alikeS xa xb := by
  by_cases e : xa = xb
  · subst e
    rw [ltL_irrefl, if_neg Bool.false_ne_true]
    exact ⟨_, _, _, _, _, _, rfl, rfl, ha, ha, hi, hi, rfl, rfl, rfl⟩
  · have t := ltL_tri xa xb e
    cases q : ltL xb xa with
    | true =>
      rw [q] at t
      rw [if_pos (show true = true from rfl), t, if_neg (by decide)]
      exact ⟨_, _, _, _, _, _, rfl, rfl, hb, ha, hj, hi, hz.symm, rfl, alike_comm _ _⟩
    | false =>
      rw [q] at t
      rw [if_neg Bool.false_ne_true, t, if_pos (show (!false) = true from rfl)]
      exact ⟨_, _, _, _, _, _, rfl, rfl, ha, hb, hi, hj, rfl, hz.symm, rfl⟩
theorem two_sorted {h : Heap} {a b : Addr} {va vb : List Value} {xa xb : List Str} (ha : h.IsList a va.toArray) (hb : h.IsList b vb.toArray) (hi : StrsAre va xa) (hj : StrsAre vb xb) (hz : xa.length = xb.length) :
    TwoSorted0 h a b xa xb := by
  obtain ⟨p1, p2, v1, v2, x1, x2, hp1, hp2, hl1, hl2, hx1, hx2, hn1, hn2, hal⟩ := two_sortedX ha hb hi hj hz
  exact ⟨p1, p2, v1, v2, x1, x2, hp1, hp2, hl1, hl2, hx1, hx2, hn1, hn2, hal⟩
theorem alike_upto {x y : List Str} : ∀ i, (∀ j, j < i → ∃ c, x[j]? = some c ∧ y[j]? = some c) → i ≤ alikeS x y
  | 0, _ => Nat.zero_le _
  | i + 1, h => by
    obtain ⟨c, h1, h2⟩ := h i (Nat.lt_succ_self _)
    exact alikeS_step _ _ _ _ (alike_upto i fun j hj => h j (Nat.lt_succ_of_lt hj)) h1 h2
theorem alike_all {x y : List Str} (h : ∀ p ∈ x.zipIdx, decide (y[p.2]? ≠ some p.1) = false) : alikeS x y = x.length := by
  refine Nat.le_antisymm (alikeS_le x y).1 (alike_upto _ fun j hj => ⟨x[j], List.getElem?_eq_getElem hj, ?_⟩)
  have := h (x[j], j) (by rw [List.mem_zipIdx_iff_getElem?]; simp)
  simpa using this
theorem alike_find {x y : List Str} {a : Str} {i : Nat} (hz : x.length = y.length) (ha : x[i]? = some a) (h : x.zipIdx.find? (fun p => decide (y[p.2]? ≠ some p.1)) = some (a, i)) : alikeS x y = i := by
  obtain ⟨hp, as, bs, e, hall⟩ := List.find?_eq_some_iff_append.mp h
  have hlen : as.length = i := by
    have h1 : (x.zipIdx)[as.length]? = some (a, i) := by rw [e]; simp
    rw [List.getElem?_zipIdx] at h1
    obtain ⟨c, hc1, hc2⟩ := Option.map_eq_some_iff.mp h1
    have := congrArg Prod.snd hc2
    simpa using this
  have hi : i ≤ alikeS x y := alike_upto _ fun j hj => by
    have hxl : i < x.length := (List.getElem?_eq_some_iff.mp ha).1
    have hjx : j < x.length := Nat.lt_trans hj hxl
    refine ⟨x[j], List.getElem?_eq_getElem hjx, ?_⟩
    have hm : (x[j], j) ∈ as := by
      have h1 : (x.zipIdx)[j]? = some (x[j], j) := by rw [List.getElem?_zipIdx, List.getElem?_eq_getElem hjx]; simp
      rw [e, List.getElem?_append_left (by omega)] at h1
      exact List.mem_of_getElem? h1
    have := hall _ hm
    simpa using this
  have hyl : i < y.length := by rw [← hz]; exact (List.getElem?_eq_some_iff.mp ha).1
  refine (alikeS_stop _ _ _ _ _ hi ha (List.getElem?_eq_getElem hyl) ?_).symm
  intro e2
  have hp' : y[i]? ≠ some a := by simpa using hp
  exact hp' (by rw [List.getElem?_eq_getElem hyl, e2])
noncomputable def TestIs (b0 : Bool) (s₁ : Shared) (b : Bool) (s₄ : Shared) : Prop := b = b0 ∧ Keeps s₁ s₄
theorem TestIs.mk {b0 b : Bool} {s₁ : Shared} {tk : Nat} (h : b = b0) : TestIs b0 s₁ b { s₁ with toks := tk } := ⟨h, _, _, rfl, fun _ _ e => e⟩
theorem bne_dec (c y : Str) : (c != y) = decide (some y ≠ some c) := by
  by_cases e : c = y
  · subst e; simp
  · have e2 : ¬ y = c := fun z => e z.symm
    simp [e, e2]
end piece_L11
section piece_L12
/-- the names below the root, as relpath reads them -/
noncomputable def tailL (x : Str) : List Str := if (Txt.lstripChars x (Str.ofString "/")).length = 0 then [] else Txt.split (Txt.lstripChars x (Str.ofString "/")) (Str.ofString "/")
noncomputable def relL (sl pl : List Str) : List Str := List.replicate (sl.length - alikeS sl pl) (Str.ofString "..") ++ pl.drop (alikeS sl pl)
noncomputable def relS (x y : Str) : Str := if relL (tailL (normS y)) (tailL (normS x)) = [] then Str.ofString "." else Txt.join (Str.ofString "/") (relL (tailL (normS y)) (tailL (normS x)))
theorem normS_len (x : Str) : (normS x).length ≤ x.length + 4 := by
  have hz1 := normFold_len (rootS x) (Txt.split (tailS x) (Str.ofString "/")) []
  have hz2 := split_len (tailS x)
  rw [← normL] at hz1
  simp only [sumLen_nil, List.length_nil] at hz1
  have hz3 := tjoin_len1 (normL x)
  have hz4 := tailS_len x
  have hz5 := rootS_len x
  have hd : (Str.ofString ".").length = 1 := by decide
  unfold normS
  split
  · omega
  · try split
    all_goals (try rw [len_append])
    all_goals omega
section
variable {M : Model} {A : Around} {E : Value → Shared → Prop} {s : Shared}
noncomputable def IsLst (h₀ : Heap) (L : Addr) (m : Str → Option Value) (news : List (Addr × Obj)) (Ys : List Str) (s : Shared) (v : Value) (s' : Shared) : Prop :=
  ∃ D vs h' tk, v = .ref D ∧ s' = { s with heap := h', toks := tk } ∧ Fr h₀ L h' m ∧ News h₀ L h' ((D, listOf (List.toArray vs) 0) :: news) ∧ (∀ p ∈ news, p.1 < D) ∧ StrsAre vs Ys
theorem IsLst.mk {h₀ h' : Heap} {L D : Addr} {m : Str → Option Value} {news : List (Addr × Obj)} {Ys Zs : List Str} {s : Shared} {vs : List Value} {tk : Nat} (F : Fr h₀ L h' m) (N : News h₀ L h' ((D, listOf vs.toArray 0) :: news)) (hlt : ∀ p ∈ news, p.1 < D) (hi : StrsAre vs Zs) (h : Zs = Ys) :
    IsLst h₀ L m news Ys s (.ref D) { s with heap := h', toks := tk } := ⟨D, vs, h', tk, rfl, rfl, F, N, hlt, h ▸ hi⟩
/-- a part of the walk that answers a new list of texts is walked apart -/
theorem cut_list {a : Sem Value} {Q : Value → Shared → Prop} {h₀ : Heap} {L : Addr} {m : Str → Option Value} {news : List (Addr × Obj)} (_F₀ : Fr h₀ L s.heap m) (_N₀ : News h₀ L s.heap news) (Ys : List Str) (h1 : wpAny M A a (fun v s' => IsLst h₀ L m news Ys s v s') E s)
    (h2 : ∀ D vs h' tk, Fr h₀ L h' m → News h₀ L h' ((D, listOf (List.toArray vs) 0) :: news) → (∀ p ∈ news, p.1 < D) → StrsAre vs Ys → Q (.ref D) { s with heap := h', toks := tk }) : wpAny M A a Q E s :=
  wpAny_mono h1 (fun v s' h => by obtain ⟨D, vs, h', tk, rfl, rfl, F, N, l, hi⟩ := h; exact h2 D vs h' tk F N l hi) (fun _ _ h => h)
end
theorem tail_some {x : Str} (h : ((Txt.lstripChars x (Str.ofString "/")).length : Int) ≠ 0) : Txt.split (Txt.lstripChars x (Str.ofString "/")) (Str.ofString "/") = tailL x := (if_neg (by omega)).symm
theorem tail_none {x : Str} (h : ((Txt.lstripChars x (Str.ofString "/")).length : Int) = 0) : [] = tailL x := (if_pos (by omega)).symm
theorem tailL_len (x : Str) : (tailL x).length ≤ x.length + 1 ∧ sumLen (tailL x) ≤ x.length + 1 := by
  have h1 : (Txt.lstripChars x (Str.ofString "/")).length ≤ x.length := PyProof.Rows.len_lstripChars _ _
  have h2 := split_len (Txt.lstripChars x (Str.ofString "/"))
  unfold tailL
  split
  · exact ⟨Nat.zero_le _, Nat.zero_le _⟩
  · constructor <;> omega
theorem strs_repI (x : Str) (t : Tok) (k : Int) : StrsAre (List.replicate k.toNat (#[Value.str x t] : Array Value).toList).flatten (List.replicate k.toNat x) := by
  have := strs_rep x t k.toNat
  rw [Int.toNat_natCast] at this
  exact this
theorem relL_eq (sl pl : List Str) : List.replicate ((sl.length : Int) - (alikeS sl pl : Nat)).toNat (Str.ofString "..") ++ pl.drop (alikeS sl pl) = relL sl pl := by
  unfold relL
  have := (alikeS_le sl pl).1
  rw [show ((sl.length : Int) - (alikeS sl pl : Nat)).toNat = sl.length - alikeS sl pl by omega]
theorem relL_len (sl pl : List Str) : (relL sl pl).length ≤ sl.length + pl.length ∧ sumLen (relL sl pl) ≤ 2 * sl.length + sumLen pl := by
  have hr : ∀ k, sumLen (List.replicate k (Str.ofString "..")) = 2 * k := by
    intro k
    induction k with
    | zero => rfl
    | succ k ih =>
      rw [List.replicate_succ, sumLen_cons, ih]
      have : (Str.ofString "..").length = 2 := by decide
      omega
  have hd := sumLen_drop pl (alikeS sl pl)
  unfold relL
  rw [sumLen_append, hr, List.length_append, List.length_replicate, List.length_drop]
  constructor <;> omega
theorem rel_some {x y : Str} (h : relL (tailL (normS y)) (tailL (normS x)) ≠ []) : Txt.join (Str.ofString "/") (relL (tailL (normS y)) (tailL (normS x))) = relS x y := (if_neg h).symm
theorem rel_none {x y : Str} (h : relL (tailL (normS y)) (tailL (normS x)) = []) : Str.ofString "." = relS x y := (if_pos h).symm
end piece_L12
section piece_L17
open PySem.SeqAt
theorem all_true (n : Nat) : (List.range n).all (fun _ => true) = true := by simp
section
variable {prog : Program} {w : World} {A : Around} {E : Value → Shared → Prop} {s : Shared} {a b : Addr} {vs ws : List Value} {Q : Value → Shared → Prop}
theorem eq_lists (ha : s.heap.IsList a vs.toArray) (hb : s.heap.IsList b ws.toArray) (hl : vs.length = ws.length) (hu : A.units < cLine) (he : ∀ (j : Nat) v w, vs[j]? = some v → ws[j]? = some w → EqAt A.in1 s v w true) : EqAt A s (.ref a) (.ref b) true := by
  by_cases hab : a = b
  · subst hab; exact EqAt.same _
  · have := RcAt.lists (e := fun _ => true) ha hb (by simpa using hl) hu (fun j h1 h2 => he j _ _ (by simp) (by simp))
    rw [all_true] at this
    exact .of_refs hab this
theorem ne_lists (ha : s.heap.IsList a vs.toArray) (hb : s.heap.IsList b ws.toArray) (hl : vs.length = ws.length) (hu : A.units < cLine) (he : ∀ (j : Nat) v w, vs[j]? = some v → ws[j]? = some w → EqAt A.in1 s v w true) (h : Q (.bool false) s) : wpAny (model prog w) A (compareOp .NotEq (.ref a) (.ref b)) Q E s := by
  have := RcNeAt.lists (e := fun _ => true) ha hb (by simpa using hl) hu (fun j h1 h2 => he j _ _ (by simp) (by simp))
  rw [all_true] at this
  exact this prog w E Q h
theorem ne_tuples (ha : s.heap.get? a = some (tupOf vs)) (hb : s.heap.get? b = some (tupOf ws)) (hl : vs.length = ws.length) (hu : A.units < cLine) (he : ∀ (j : Nat) v w, vs[j]? = some v → ws[j]? = some w → EqAt A.in1 s v w true) (h : Q (.bool false) s) : wpAny (model prog w) A (compareOp .NotEq (.ref a) (.ref b)) Q E s := by
  have ha' : s.heap.IsTuple a vs.toArray := ⟨_, ha, rfl, 0, rfl⟩
  have hb' : s.heap.IsTuple b ws.toArray := ⟨_, hb, rfl, 0, rfl⟩
  have := RcNeAt.tuples (e := fun _ => true) ha' hb' hu (fun j h1 h2 => he j _ _ (by simp) (by simp))
  rw [all_true, show (vs.toArray.size == ws.toArray.size) = true by simp [hl]] at this
  exact this prog w E Q h
theorem eq_tuples (ha : s.heap.get? a = some (tupOf vs)) (hb : s.heap.get? b = some (tupOf ws)) (hl : vs.length = ws.length) (hu : A.units < cLine) (he : ∀ (j : Nat) v w, vs[j]? = some v → ws[j]? = some w → EqAt A.in1 s v w true) : EqAt A s (.ref a) (.ref b) true := by
  by_cases hab : a = b
  · subst hab; exact EqAt.same _
  have ha' : s.heap.IsTuple a vs.toArray := ⟨_, ha, rfl, 0, rfl⟩
  have hb' : s.heap.IsTuple b ws.toArray := ⟨_, hb, rfl, 0, rfl⟩
  have := RcAt.tuples (e := fun _ => true) ha' hb' hu (fun j h1 h2 => he j _ _ (by simp) (by simp))
  rw [all_true, show (vs.toArray.size == ws.toArray.size) = true by simp [hl]] at this
  exact .of_refs hab this
theorem eq_text (x : Str) (t u : Tok) : EqAt A s (.str x t) (.str x u) true := by
  have := EqAt.str_str (A := A) (s := s) x t x u
  rwa [beq_self_eq_true] at this
theorem eq_num (x : Int) (t u : Tok) : EqAt A s (.int x t) (.int x u) true := by
  have := EqAt.int_int (A := A) (s := s) x t x u
  rwa [beq_self_eq_true] at this
theorem eq_strs {xs : List Str} (hv : StrsAre vs xs) (hw : StrsAre ws xs) : ∀ (j : Nat) v w, vs[j]? = some v → ws[j]? = some w → EqAt A s v w true := by
  intro j v w h1 h2
  obtain ⟨x, t, rfl, e1⟩ := hv.item j v h1
  obtain ⟨y, u, rfl, e2⟩ := hw.item j w h2
  rw [e1] at e2
  cases e2
  exact eq_text _ _ _
theorem eq_two {p q p' q' : Value} (h1 : EqAt A s p p' true) (h2 : EqAt A s q q' true) : ∀ (j : Nat) v w, ([p, q] : List Value)[j]? = some v → ([p', q'] : List Value)[j]? = some w → EqAt A s v w true
  | 0, v, w, e1, e2 => by cases e1; cases e2; exact h1
  | 1, v, w, e1, e2 => by cases e1; cases e2; exact h2
  | j + 2, v, w, e1, _ => by cases e1
theorem eq_three {p q r p' q' r' : Value} (h1 : EqAt A s p p' true) (h2 : EqAt A s q q' true) (h3 : EqAt A s r r' true) : ∀ (j : Nat) v w, ([p, q, r] : List Value)[j]? = some v → ([p', q', r'] : List Value)[j]? = some w → EqAt A s v w true
  | 0, v, w, e1, e2 => by cases e1; cases e2; exact h1
  | 1, v, w, e1, e2 => by cases e1; cases e2; exact h2
  | 2, v, w, e1, e2 => by cases e1; cases e2; exact h3
  | j + 3, v, w, e1, _ => by cases e1
/-- a value that bears a place, out of a ledger -/
noncomputable def PlIn (v : Value) (p : Option (Int × Int)) (news : List (Addr × Obj)) : Prop := match p with
  | none => ∃ t, v = .str (Str.ofString "refused") t
  | some q => ∃ a t1 t2, v = .ref a ∧ (a, tupOf [.int q.1 t1, .int q.2 t2]) ∈ news
noncomputable def PlsIn (ys : List Value) (ps : List (Option (Int × Int))) (news : List (Addr × Obj)) : Prop := ys.length = ps.length ∧ ∀ (j : Nat) p, ps[j]? = some p → ∃ v, ys[j]? = some v ∧ PlIn v p news
theorem PlIn.mono {v : Value} {p : Option (Int × Int)} {news news' : List (Addr × Obj)} (h : PlIn v p news) (e : ∀ p ∈ news, p ∈ news') : PlIn v p news' := by
  cases p with
  | none => exact h
  | some q => obtain ⟨a, t1, t2, h1, h2⟩ := h; exact ⟨a, t1, t2, h1, e _ h2⟩
theorem PlsIn.nil {news : List (Addr × Obj)} : PlsIn [] [] news := ⟨rfl, fun _ _ h => nomatch h⟩
theorem PlsIn.mono {ys : List Value} {ps : List (Option (Int × Int))} {news news' : List (Addr × Obj)} (h : PlsIn ys ps news) (e : ∀ p ∈ news, p ∈ news') : PlsIn ys ps news' := ⟨h.1, fun j p hj => by obtain ⟨v, h1, h2⟩ := h.2 j p hj; exact ⟨v, h1, h2.mono e⟩⟩
theorem PlsIn.snoc {ys : List Value} {ps : List (Option (Int × Int))} {news news' : List (Addr × Obj)} (h : PlsIn ys ps news) (e : ∀ p ∈ news, p ∈ news') {v : Value} {p : Option (Int × Int)} (hv : PlIn v p news') : PlsIn (ys ++ [v]) (ps ++ [p]) news' := by
  refine ⟨by simp [h.1], fun j q hj => ?_⟩
  by_cases hl : j < ps.length
  · rw [List.getElem?_append_left hl] at hj
    obtain ⟨u, h1, h2⟩ := h.2 j q hj
    exact ⟨u, by rw [List.getElem?_append_left (by rw [h.1]; exact hl)]; exact h1, h2.mono e⟩
  · have hj' : j = ps.length := by
      have := (List.getElem?_eq_some_iff.mp hj).1
      rw [List.length_append] at this
      simp only [List.length_cons, List.length_nil] at this
      omega
    subst hj'
    rw [List.getElem?_append_right (Nat.le_refl _), Nat.sub_self] at hj
    cases hj
    exact ⟨v, by rw [List.getElem?_append_right (Nat.le_of_eq h.1), h.1, Nat.sub_self]; rfl, hv⟩
theorem eq_place {h₀ : Heap} {L : Addr} {v w : Value} {p : Option (Int × Int)} {news : List (Addr × Obj)} (N : News h₀ L s.heap news) (hv : PlIn v p news) (hw : PlIn w p news) (hu : A.units < cLine) : EqAt A s v w true := by
  cases p with
  | none => obtain ⟨t, rfl⟩ := hv; obtain ⟨u, rfl⟩ := hw; exact eq_text _ _ _
  | some q =>
    obtain ⟨a, t1, t2, rfl, h1⟩ := hv
    obtain ⟨b, u1, u2, rfl, h2⟩ := hw
    exact eq_tuples (N _ h1).1 (N _ h2).1 rfl hu (eq_two (eq_num _ _ _) (eq_num _ _ _))
theorem eq_places {h₀ : Heap} {L : Addr} {ps : List (Option (Int × Int))} {news : List (Addr × Obj)} (N : News h₀ L s.heap news) (hv : PlsIn vs ps news) (hw : PlsIn ws ps news) (hu : A.units < cLine) : ∀ (j : Nat) v w, vs[j]? = some v → ws[j]? = some w → EqAt A s v w true := by
  intro j v w h1 h2
  have hj : j < ps.length := by rw [← hv.1]; exact (List.getElem?_eq_some_iff.mp h1).1
  obtain ⟨v', e1, k1⟩ := hv.2 j _ (List.getElem?_eq_getElem hj)
  obtain ⟨w', e2, k2⟩ := hw.2 j _ (List.getElem?_eq_getElem hj)
  rw [h1] at e1; cases e1
  rw [h2] at e2; cases e2
  exact eq_place N k1 k2 hu
end
end piece_L17
section piece_Q1
open Builtin Builtin.Str
/-- split at slashes, of signs -/
noncomputable def sp : List Nat → List (List Nat)
  | [] => [[]]
  | c :: r => if c = 47 then [] :: sp r else match sp r with
    | [] => [[c]]
    | p :: t => (c :: p) :: t
noncomputable def jn : List (List Nat) → List Nat
  | [] => []
  | [x] => x
  | x :: y :: r => x ++ 47 :: jn (y :: r)
theorem sp_ne : ∀ l, sp l ≠ []
  | [] => by simp [sp]
  | c :: r => by
    unfold sp
    split
    · simp
    · split <;> simp
theorem sp_slash (r : List Nat) : sp (47 :: r) = [] :: sp r := by simp [sp]
theorem sp_cons {c : Nat} (hc : c ≠ 47) (r : List Nat) : ∃ p t, sp r = p :: t ∧ sp (c :: r) = (c :: p) :: t := by
  cases e : sp r with
  | nil => exact absurd e (sp_ne r)
  | cons p t => exact ⟨p, t, rfl, by simp [sp, hc, e]⟩
theorem sp_cut : ∀ (p : List Nat), 47 ∉ p → ∀ r, sp (p ++ 47 :: r) = p :: sp r
  | [], _, r => sp_slash r
  | c :: p, h, r => by
    have hc : c ≠ 47 := fun e => h (by simp [e])
    have ih := sp_cut p (fun e => h (List.mem_cons_of_mem _ e)) r
    simp [sp, hc, ih]
theorem sp_one : ∀ (p : List Nat), 47 ∉ p → sp p = [p]
  | [], _ => rfl
  | c :: p, h => by
    have hc : c ≠ 47 := fun e => h (by simp [e])
    have ih := sp_one p (fun e => h (List.mem_cons_of_mem _ e))
    simp [sp, hc, ih]
theorem sp_jn : ∀ l : List (List Nat), l ≠ [] → (∀ p ∈ l, 47 ∉ p) → sp (jn l) = l
  | [], h, _ => absurd rfl h
  | [x], _, h => sp_one x (h x (by simp))
  | x :: y :: r, _, h => by
    show sp (x ++ 47 :: jn (y :: r)) = _
    rw [sp_cut x (h x (by simp)), sp_jn (y :: r) (by simp) (fun p hp => h p (List.mem_cons_of_mem _ hp))]
theorem cl_sjoin : ∀ xs : List Str, cl (PySem.Str.join (Str.ofString "/") xs) = jn (xs.map cl)
  | [] => rfl
  | [x] => rfl
  | x :: y :: r => by
    show cl (x ++ Str.ofString "/" ++ PySem.Str.join (Str.ofString "/") (y :: r)) = cl x ++ 47 :: jn ((y :: r).map cl)
    rw [cl_app, cl_app, cl_sjoin (y :: r)]
    have e : cl (Str.ofString "/") = [47] := by decide
    rw [e]; simp
theorem cl_join (xs : List Str) : cl (Txt.join (Str.ofString "/") xs) = jn (xs.map cl) := by
  unfold Txt.join
  rw [StrLaws.glued_eq_join]
  exact cl_sjoin xs
theorem cl_split (x : Str) : (Txt.split x (Str.ofString "/")).map cl = sp (cl x) := by
  have e : (Str.ofString "/") = (⟨#[47]⟩ : Str) := by decide
  have h1 := StrLaws.join_split x (Str.ofString "/")
  have h2 : cl x = jn ((Txt.split x (Str.ofString "/")).map cl) := by rw [← cl_sjoin, h1]
  rw [h2, sp_jn]
  · intro h
    exact split_ne x _ (List.map_eq_nil_iff.mp h)
  · intro p hp
    obtain ⟨q, hq, rfl⟩ := List.mem_map.mp hp
    rw [e] at hq
    exact StrLaws.split_free x 47 q hq
theorem map_cl_inj {a b : List Str} (h : a.map cl = b.map cl) : a = b := by
  induction a generalizing b with
  | nil => cases b with
    | nil => rfl
    | cons y t => simp at h
  | cons x r ih => cases b with
    | nil => simp at h
    | cons y t =>
      simp only [List.map_cons, List.cons.injEq] at h
      rw [cl_ext h.1, ih h.2]
/-! ### the pieces that count -/
/-- neither empty nor a lone dot -/
noncomputable def real (p : List Nat) : Bool := p ≠ [] ∧ p ≠ [46]
noncomputable def nz (l : List (List Nat)) : List (List Nat) := l.filter real
theorem nz_app (a b : List (List Nat)) : nz (a ++ b) = nz a ++ nz b := List.filter_append ..
theorem sp_app_slash : ∀ (a b : List Nat), sp (a ++ 47 :: b) = sp a ++ sp b
  | [], b => sp_slash b
  | c :: a, b => by
    by_cases hc : c = 47
    · subst hc
      rw [List.cons_append, sp_slash, sp_slash, sp_app_slash a b]; rfl
    · obtain ⟨p, t, e1, e2⟩ := sp_cons hc a
      have ih := sp_app_slash a b
      rw [e1] at ih
      have : sp (c :: (a ++ 47 :: b)) = (c :: p) :: (t ++ sp b) := by
        simp [sp, hc, ih]
      rw [List.cons_append, this, e2]; rfl
theorem nz_slash (r : List Nat) : nz (sp (47 :: r)) = nz (sp r) := by rw [sp_slash]; rfl
theorem nz_end (a : List Nat) : nz (sp (a ++ [47])) = nz (sp a) := by
  rw [sp_app_slash, nz_app]; simp [sp, nz, real]
theorem nz_glue (a b : List Nat) : nz (sp (a ++ 47 :: b)) = nz (sp a) ++ nz (sp b) := by rw [sp_app_slash, nz_app]
/-- slashes at the head -/
noncomputable def hs (l : List Nat) : Nat := (l.takeWhile (· == 47)).length
theorem hs_cons (r : List Nat) : hs (47 :: r) = hs r + 1 := by simp [hs]
theorem hs_ne {c : Nat} (h : c ≠ 47) (r : List Nat) : hs (c :: r) = 0 := by simp [hs, h]
theorem hs_nil : hs [] = 0 := rfl
theorem nz_drop : ∀ (l : List Nat) (k : Nat), k ≤ hs l → nz (sp (l.drop k)) = nz (sp l)
  | l, 0, _ => rfl
  | [], k + 1, h => by simp [hs] at h
  | c :: r, k + 1, h => by
    by_cases hc : c = 47
    · subst hc
      rw [hs_cons] at h
      rw [List.drop_succ_cons, nz_slash]
      exact nz_drop r k (by omega)
    · rw [hs_ne hc] at h; omega
/-- joining, of signs -/
noncomputable def jstep (path b : List Nat) : List Nat := if b[0]? = some 47 ∨ path = [] then b else if path.getLast? = some 47 then path ++ b else path ++ 47 :: b
theorem jstep_hs (p b : List Nat) : hs (jstep p b) = if b[0]? = some 47 then hs b else hs p := by
  by_cases h : b[0]? = some 47
  · simp [jstep, h]
  · rw [if_neg h]
    unfold jstep
    have hb : hs b = 0 := by
      cases b with
      | nil => rfl
      | cons c r => exact hs_ne (by simpa using h) r
    by_cases hp : p = []
    · subst hp; simp [hb, hs_nil]
    · rw [if_neg (by simp [h, hp])]
      have key : ∀ (q t : List Nat), (t[0]? ≠ some 47 ∨ ∃ c ∈ q, c ≠ 47) → hs (q ++ t) = hs q := by
        intro q
        induction q with
        | nil =>
          intro t ht
          cases t with
          | nil => rfl
          | cons c r =>
            rcases ht with ht | ⟨c, hc, _⟩
            · simpa [hs_nil] using hs_ne (by simpa using ht) r
            · cases hc
        | cons c q ih =>
          intro t ht
          by_cases hc : c = 47
          · subst hc
            rw [List.cons_append, hs_cons, hs_cons, ih]
            rcases ht with ht | ⟨d, hd, hn⟩
            · exact .inl ht
            · rcases List.mem_cons.mp hd with rfl | hd
              · exact absurd rfl hn
              · exact .inr ⟨d, hd, hn⟩
          · rw [List.cons_append, hs_ne hc, hs_ne hc]
      split
      · exact key p b (.inl h)
      · rename_i hl
        refine key p _ (.inr ⟨p.getLast hp, List.getLast_mem hp, fun e => hl ?_⟩)
        rw [List.getLast?_eq_some_getLast hp, e]
theorem jstep_nz (p b : List Nat) : nz (sp (jstep p b)) = if b[0]? = some 47 then nz (sp b) else nz (sp p) ++ nz (sp b) := by
  by_cases h : b[0]? = some 47
  · simp [jstep, h]
  · rw [if_neg h]
    unfold jstep
    by_cases hp : p = []
    · subst hp; rw [if_pos (.inr rfl)]; rfl
    · rw [if_neg (by simp [h, hp])]
      split
      · rename_i hl
        obtain ⟨q, rfl⟩ := List.getLast?_eq_some_iff.mp hl
        rw [List.append_assoc]
        show nz (sp (q ++ 47 :: b)) = _
        rw [nz_glue, nz_end]
      · exact nz_glue p b
end piece_Q1
section piece_Q2
open Builtin Builtin.Str
noncomputable abbrev dd : Str := Str.ofString ".."
noncomputable def okp (p : Str) : Bool := p ≠ Str.ofString "" ∧ p ≠ Str.ofString "."
noncomputable def nzS (xs : List Str) : List Str := xs.filter okp
theorem cl_empty : cl (Str.ofString "") = [] := by decide
theorem cl_dot : cl (Str.ofString ".") = [46] := by decide
theorem cl_dd : cl dd = [46, 46] := by decide
theorem cl_slash : cl (Str.ofString "/") = [47] := by decide
theorem len_zero {x : Str} : x.length = 0 ↔ x = Str.ofString "" := by
  rw [← cl_len]
  constructor
  · intro h
    exact cl_ext ((List.eq_nil_of_length_eq_zero h).trans cl_empty.symm)
  · rintro rfl; decide
theorem okp_real (p : Str) : okp p = real (cl p) := by
  have h1 : (cl p = []) ↔ p = Str.ofString "" := ⟨fun e => cl_ext (e.trans cl_empty.symm), fun e => e ▸ cl_empty⟩
  have h2 : (cl p = [46]) ↔ p = Str.ofString "." := ⟨fun e => cl_ext (e.trans cl_dot.symm), fun e => e ▸ cl_dot⟩
  unfold okp real
  simp only [ne_eq, h1, h2]
theorem nzS_map (xs : List Str) : (nzS xs).map cl = nz (xs.map cl) := by
  unfold nzS nz
  rw [List.filter_map]
  congr 1
  apply List.filter_congr
  intro p _
  exact okp_real p
theorem okp_iff {p : Str} : okp p = true ↔ p.length ≠ 0 ∧ p ≠ Str.ofString "." := by
  unfold okp
  simp only [decide_eq_true_eq, ne_eq, len_zero]
theorem okp_not {p : Str} (h : okp p = false) : p.length = 0 ∨ p = Str.ofString "." := by
  by_cases h1 : p.length = 0
  · exact .inl h1
  · by_cases h2 : p = Str.ofString "."
    · exact .inr h2
    · rw [okp_iff.mpr ⟨h1, h2⟩] at h; cases h
theorem norm_nz (root : Str) : ∀ (cs acc : List Str), cs.foldl (normStep root) acc = (nzS cs).foldl (normStep root) acc
  | [], _ => rfl
  | c :: r, acc => by
    unfold nzS
    rw [List.foldl_cons, List.filter_cons]
    cases h : okp c with
    | true => exact norm_nz root r _
    | false => rw [ns_skip (okp_not h)]; exact norm_nz root r _
theorem str_nz : ∀ (cs : List Str) (c : List Str × Nat), cs.foldl strStep c = (nzS cs).foldl strStep c
  | [], _ => rfl
  | p :: r, c => by
    unfold nzS
    rw [List.foldl_cons, List.filter_cons]
    cases h : okp p with
    | true => exact str_nz r _
    | false =>
      have e : strStep c p = c := by
        rcases okp_not h with h | h
        · rw [len_zero] at h
          subst h
          unfold strStep
          rw [if_neg (by decide), if_neg (by simp)]
        · subst h
          unfold strStep
          rw [if_neg (by decide), if_neg (by simp)]
      rw [e]; exact str_nz r _
theorem nzS_rev (xs : List Str) : nzS xs.reverse = (nzS xs).reverse := List.filter_reverse ..
theorem st_dd (c : List Str × Nat) : strStep c dd = (c.1, c.2 + 1) := if_pos rfl
theorem st_pay {c : List Str × Nat} {p : Str} (h : okp p = true) (h1 : p ≠ dd) (h2 : c.2 ≠ 0) : strStep c p = (c.1, c.2 - 1) := by
  unfold okp at h
  unfold strStep
  rw [if_neg h1, if_pos (by simpa using h), if_pos h2]
theorem st_keep {c : List Str × Nat} {p : Str} (h : okp p = true) (h1 : p ≠ dd) (h2 : c.2 = 0) : strStep c p = (c.1 ++ [p], c.2) := by
  unfold okp at h
  unfold strStep
  rw [if_neg h1, if_pos (by simpa using h), if_neg (by omega)]
theorem fwd_back (root : Str) : ∀ (r : List Str), (∀ p ∈ r, okp p = true) → ∀ (k : Nat) (ns : List Str), (∀ n ∈ ns, n ≠ dd) → (root.length ≠ 0 → k = 0) →
    r.foldl (normStep root) (List.replicate k dd ++ ns) =
      if (r.reverse.foldl strStep ([], 0)).2 ≤ ns.length then List.replicate k dd ++ (ns.take (ns.length - (r.reverse.foldl strStep ([], 0)).2) ++ (r.reverse.foldl strStep ([], 0)).1.reverse)
      else if root.length = 0 then List.replicate (k + ((r.reverse.foldl strStep ([], 0)).2 - ns.length)) dd ++ (r.reverse.foldl strStep ([], 0)).1.reverse
      else (r.reverse.foldl strStep ([], 0)).1.reverse
  | [], _, k, ns, _, _ => by simp
  | c :: r, hr, k, ns, hns, hk => by
    have hc := hr c (by simp)
    have hr' : ∀ p ∈ r, okp p = true := fun p hp => hr p (List.mem_cons_of_mem _ hp)
    obtain ⟨hc1, hc2⟩ := okp_iff.mp hc
    rw [List.reverse_cons, List.foldl_append, List.foldl_cons, List.foldl_cons, List.foldl_nil]
    generalize hb : r.reverse.foldl strStep ([], 0) = b
    by_cases h : c = dd
    · subst h
      rw [st_dd]
      simp only
      rcases List.eq_nil_or_concat ns with rfl | ⟨q, y, rfl⟩
      · by_cases h0 : root.length = 0
        · have e : normStep root (List.replicate k dd ++ []) dd = List.replicate (k + 1) dd ++ [] := by
            rw [List.append_nil, List.append_nil, ns_app hc1 hc2, List.replicate_succ']
            cases k with
            | zero => exact .inr (.inl ⟨h0, rfl⟩)
            | succ k => exact .inr (.inr ⟨by simp, by rw [List.replicate_succ', List.getLast?_concat]⟩)
          rw [e, fwd_back root r hr' (k + 1) [] (by simp) (fun h => absurd h0 h), hb]
          simp only [List.length_nil, if_pos h0, Nat.sub_zero]
          by_cases hb2 : b.2 = 0
          · rw [if_pos (by omega), if_neg (by omega), hb2]; simp
          · rw [if_neg (by omega), if_neg (by omega)]
            rw [show k + 1 + b.2 = k + (b.2 + 1) by omega]
        · have e0 := hk h0
          subst e0
          have e : normStep root (List.replicate 0 dd ++ []) dd = List.replicate 0 dd ++ [] := by
            rw [ns_pop hc1 hc2 rfl (.inl h0) (by simp)]; rfl
          rw [e, fwd_back root r hr' 0 [] (by simp) (fun _ => rfl), hb]
          simp only [List.length_nil, if_neg h0]
          rw [if_neg (show ¬ b.2 + 1 ≤ 0 by omega)]
          split
          · simp
          · rfl
      · have hy : y ≠ dd := hns y (by simp)
        have e : normStep root (List.replicate k dd ++ q.concat y) dd = List.replicate k dd ++ q := by
          rw [List.concat_eq_append, ← List.append_assoc, ns_pop hc1 hc2 rfl (.inr (by simp)) (by rw [List.getLast?_concat]; simpa using hy), List.dropLast_concat]
        rw [e, fwd_back root r hr' k q (fun n hn => hns n (by simp [hn])) hk, hb]
        simp only [List.length_concat]
        by_cases hle : b.2 ≤ q.length
        · rw [if_pos hle, if_pos (by omega), show q.length + 1 - (b.2 + 1) = q.length - b.2 by omega, List.concat_eq_append, List.take_append_of_le_length (by omega)]
        · rw [if_neg hle, if_neg (show ¬ b.2 + 1 ≤ q.length + 1 by omega), show b.2 + 1 - (q.length + 1) = b.2 - q.length by omega]
    · have e : normStep root (List.replicate k dd ++ ns) c = List.replicate k dd ++ (ns ++ [c]) := by
        rw [ns_app hc1 hc2 (.inl h), List.append_assoc]
      rw [e, fwd_back root r hr' k (ns ++ [c]) (fun n hn => by
        rcases List.mem_append.mp hn with hn | hn
        · exact hns n hn
        · rw [List.mem_singleton.mp hn]; exact h) hk, hb]
      simp only [List.length_append, List.length_cons, List.length_nil, Nat.zero_add]
      by_cases hb2 : b.2 = 0
      · rw [st_keep hc h hb2]
        simp only [hb2]
        rw [if_pos (by omega), if_pos (by omega), Nat.sub_zero, Nat.sub_zero, List.take_of_length_le (by simp), List.take_length, List.reverse_append]
        simp
      · rw [st_pay hc h hb2]
        simp only
        by_cases hle : b.2 ≤ ns.length + 1
        · rw [if_pos hle, if_pos (by omega), show ns.length - (b.2 - 1) = ns.length + 1 - b.2 by omega, List.take_append_of_le_length (by omega)]
        · rw [if_neg hle, if_neg (show ¬ b.2 - 1 ≤ ns.length by omega), show b.2 - 1 - ns.length = b.2 - (ns.length + 1) by omega]
/-- a straight list of names: as many .. at the front as k, k nought where a root is -/
structure Straight (root : Str) (ps : List Str) : Prop where
  root_is : root = Str.ofString "" ∨ root = Str.ofString "/" ∨ root = Str.ofString "//"
  form : ∃ k ns, ps = List.replicate k dd ++ ns ∧ (∀ n ∈ ns, n ≠ dd ∧ okp n = true) ∧ (root.length ≠ 0 → k = 0)
  free : ∀ n ∈ ps, 47 ∉ cl n
theorem Straight.ok {root : Str} {ps : List Str} (h : Straight root ps) : ∀ n ∈ ps, okp n = true := by
  obtain ⟨k, ns, rfl, hns, _⟩ := h.form
  intro n hn
  rcases List.mem_append.mp hn with hn | hn
  · rw [List.eq_of_mem_replicate hn]; decide
  · exact (hns n hn).2
theorem back_mem : ∀ (r : List Str) (c : List Str × Nat), (∀ p ∈ r, okp p = true) → ∀ n ∈ (r.foldl strStep c).1, n ∈ c.1 ∨ (n ∈ r ∧ n ≠ dd)
  | [], c, _, n, hn => .inl hn
  | p :: r, c, hr, n, hn => by
    have hp := hr p (by simp)
    rcases back_mem r _ (fun q hq => hr q (List.mem_cons_of_mem _ hq)) n hn with h | ⟨h, h2⟩
    · by_cases e : p = dd
      · subst e; rw [st_dd] at h; exact .inl h
      · by_cases h0 : c.2 = 0
        · rw [st_keep hp e h0] at h
          rcases List.mem_append.mp h with h | h
          · exact .inl h
          · rw [List.mem_singleton.mp h]; exact .inr ⟨by simp, e⟩
        · rw [st_pay hp e h0] at h; exact .inl h
    · exact .inr ⟨List.mem_cons_of_mem _ h, h2⟩
/-- a straight list is its own reading -/
theorem Straight.norm {root : Str} {ps : List Str} (h : Straight root ps) : ps.foldl (normStep root) [] = ps := by
  obtain ⟨k, ns, rfl, hns, hk⟩ := h.form
  have h1 : ∀ k j : Nat, (root.length ≠ 0 → k = 0) → (List.replicate k dd).foldl (normStep root) (List.replicate j dd) = List.replicate (j + k) dd := by
    intro k
    induction k with
    | zero => intro j _; rfl
    | succ k ih =>
      intro j hj
      have h0 : root.length = 0 := Classical.byContradiction fun h => by have := hj h; omega
      rw [List.replicate_succ, List.foldl_cons, ns_app (by decide) (by decide)]
      · rw [← List.replicate_succ', ih _ (fun h => absurd h0 h)]; congr 1; omega
      · cases j with
        | zero => exact .inr (.inl ⟨h0, rfl⟩)
        | succ j => exact .inr (.inr ⟨by simp, by rw [List.replicate_succ', List.getLast?_concat]⟩)
  have h2 : ∀ (ns acc : List Str), (∀ n ∈ ns, n ≠ dd ∧ okp n = true) → ns.foldl (normStep root) acc = acc ++ ns := by
    intro ns
    induction ns with
    | nil => intro acc _; simp
    | cons c r ih =>
      intro acc hr
      obtain ⟨hc1, hc2⟩ := okp_iff.mp (hr c (by simp)).2
      rw [List.foldl_cons, ns_app hc1 hc2 (.inl (hr c (by simp)).1), ih _ (fun n hn => hr n (List.mem_cons_of_mem _ hn))]
      simp
  rw [List.foldl_append]
  have := h1 k 0 hk
  rw [Nat.zero_add] at this
  rw [show ([] : List Str) = List.replicate 0 dd from rfl, this, h2 _ _ hns]
end piece_Q2
section piece_Q3
open Builtin Builtin.Str
theorem starts_iff (x : Str) : Txt.startswith x (Str.ofString "/") = true ↔ (cl x)[0]? = some 47 := by
  have e : (Str.ofString "/") = (⟨#[47]⟩ : Str) := by decide
  have h := StrLaws.subAt_one x 47 0
  rw [e]
  unfold Txt.startswith
  rw [Bool.and_eq_true, decide_eq_true_eq]
  exact h
theorem starts_false (x : Str) : Txt.startswith x (Str.ofString "/") = false ↔ ¬ (cl x)[0]? = some 47 := by
  rw [← starts_iff]; simp
theorem ends_iff (x : Str) : Txt.endswith x (Str.ofString "/") = true ↔ (cl x).getLast? = some 47 := by
  have e : (Str.ofString "/") = (⟨#[47]⟩ : Str) := by decide
  have h := StrLaws.subAt_one x 47 (x.length - 1)
  have hl := cl_len x
  rw [e]
  unfold Txt.endswith
  rw [Bool.and_eq_true, decide_eq_true_eq, List.getLast?_eq_getElem?, hl, ← h]
  have e1 : (⟨#[47]⟩ : Str).length = 1 := rfl
  rw [e1]
  constructor
  · rintro ⟨h1, h2⟩; exact ⟨by omega, h2⟩
  · rintro ⟨h1, h2⟩
    refine ⟨?_, h2⟩
    omega
theorem cl_joinStep (p b : Str) : cl (joinStep p b) = jstep (cl p) (cl b) := by
  unfold joinStep jstep
  have h0 : p.length = 0 ↔ cl p = [] := by rw [← cl_len]; exact List.length_eq_zero_iff
  simp only [starts_iff, ends_iff, h0]
  split
  · rfl
  · split
    · exact cl_app _ _
    · rw [cl_app, cl_app, cl_slash]; rfl
theorem rfind_none {x : Str} {c : Nat} (h : c ∉ cl x) : Txt.rfind x ⟨#[c]⟩ = -1 := by
  unfold Txt.rfind
  rcases StrLaws.last_spec x ⟨#[c]⟩ with ⟨e, _⟩ | ⟨i, e, h1, _⟩
  · rw [e]
  · exact absurd (List.mem_of_getElem? ((StrLaws.subAt_one x c i).mp h1)) h
theorem rfind_at {x : Str} {c : Nat} {a b : List Nat} (h : cl x = a ++ c :: b) (hb : c ∉ b) : Txt.rfind x ⟨#[c]⟩ = (a.length : Int) := by
  unfold Txt.rfind
  have hat : StrLaws.At x ⟨#[c]⟩ x.length a.length := (StrLaws.subAt_one x c a.length).mpr (by show (cl x)[a.length]? = _; rw [h]; simp)
  rcases StrLaws.last_spec x ⟨#[c]⟩ with ⟨_, hn⟩ | ⟨i, e, h1, h2⟩
  · exact absurd hat (hn _)
  · rw [e]
    have hi : (cl x)[i]? = some c := (StrLaws.subAt_one x c i).mp h1
    have h3 : ¬ i < a.length := fun hlt => h2 _ hlt hat
    have h4 : ¬ a.length < i := fun hlt => hb (by
      rw [h, List.getElem?_append_right (by omega)] at hi
      obtain ⟨k, hk⟩ : ∃ k, i - a.length = k + 1 := ⟨i - a.length - 1, by omega⟩
      rw [hk, List.getElem?_cons_succ] at hi
      exact List.mem_of_getElem? hi)
    show (i : Int) = _
    omega
theorem find_none {x : Str} {c : Nat} (h : c ∉ cl x) : Txt.find x ⟨#[c]⟩ = -1 := by
  unfold Txt.find
  rcases StrLaws.occ_head x ⟨#[c]⟩ 1 (Nat.le_refl _) with ⟨e, _⟩ | ⟨i, r, e, h1, _⟩
  · rw [e]
  · exact absurd (List.mem_of_getElem? ((StrLaws.subAt_one x c i).mp h1)) h
theorem find_at {x : Str} {c : Nat} {a b : List Nat} (h : cl x = a ++ c :: b) (ha : c ∉ a) : Txt.find x ⟨#[c]⟩ = (a.length : Int) := by
  unfold Txt.find
  have hat : StrLaws.At x ⟨#[c]⟩ x.length a.length := (StrLaws.subAt_one x c a.length).mpr (by show (cl x)[a.length]? = _; rw [h]; simp)
  rcases StrLaws.occ_head x ⟨#[c]⟩ 1 (Nat.le_refl _) with ⟨_, hn⟩ | ⟨i, r, e, h1, h2⟩
  · exact absurd hat (hn _)
  · rw [e]
    have hi : (cl x)[i]? = some c := (StrLaws.subAt_one x c i).mp h1
    have h3 : ¬ a.length < i := fun hlt => h2 _ hlt hat
    have h4 : ¬ i < a.length := fun hlt => ha (by
      rw [h, List.getElem?_append_left hlt] at hi
      exact List.mem_of_getElem? hi)
    show (i : Int) = _
    omega
theorem cl_sub (x : Str) (i j : Nat) : cl (strSub x i j) = ((cl x).drop i).take (j - i) := StrLaws.strSub_toList x i j
theorem tw_drop (p : Nat → Bool) : ∀ l : List Nat, l.drop (l.takeWhile p).length = l.dropWhile p
  | [] => rfl
  | c :: r => by
    rw [List.takeWhile_cons, List.dropWhile_cons]
    cases h : p c with
    | true => simpa using tw_drop p r
    | false => simp
theorem cl_lstrip (x : Str) : cl (Txt.lstripChars x (Str.ofString "/")) = (cl x).dropWhile (· == 47) := by
  have e : (fun c => (Str.ofString "/").cps.contains c) = (fun c : Nat => c == 47) := by
    funext c
    have : (Str.ofString "/").cps = #[47] := by decide
    rw [this, Bool.eq_iff_iff]; simp
  unfold Txt.lstripChars
  rw [show (Str.ofString "/").cps.contains = (fun c => (Str.ofString "/").cps.contains c) from rfl, e, PyProof.Rows.stripBy_eq, cl_sub]
  unfold stripHi stripLo
  simp only [if_true, Bool.false_eq_true, if_false]
  rw [List.take_of_length_le (by rw [List.length_drop, cl_len]; exact Nat.le_refl _)]
  exact tw_drop _ _
theorem cl_rstrip (x : Str) : cl (Txt.rstripChars x (Str.ofString "/")) = ((cl x).reverse.dropWhile (· == 47)).reverse := by
  have e : (fun c => (Str.ofString "/").cps.contains c) = (fun c : Nat => c == 47) := by
    funext c
    have : (Str.ofString "/").cps = #[47] := by decide
    rw [this, Bool.eq_iff_iff]; simp
  unfold Txt.rstripChars
  rw [show (Str.ofString "/").cps.contains = (fun c => (Str.ofString "/").cps.contains c) from rfl, e, PyProof.Rows.stripBy_eq, cl_sub]
  unfold stripHi stripLo
  simp only [if_true, Bool.false_eq_true, if_false, List.drop_zero, Nat.sub_zero]
  rw [← tw_drop, List.drop_reverse, List.reverse_reverse, cl_len]
theorem cl_mulSlash (n : Nat) : cl (Txt.mul (Str.ofString "/") (n : Int)) = List.replicate n 47 := by
  have e : (Str.ofString "/").cps = #[47] := by decide
  unfold Txt.mul
  by_cases h0 : n = 0
  · subst h0; rfl
  · rw [if_neg (by omega)]
    by_cases h1 : n = 1
    · subst h1; simp [cl_slash]
    · rw [if_neg (by
        have : (Str.ofString "/").length = 1 := by decide
        rw [this]; simp; omega)]
      have key : ∀ (k : Nat) (a : Array Nat), ((List.replicate k (#[47] : Array Nat)).foldl (· ++ ·) a).toList = a.toList ++ List.replicate k 47 := by
        intro k
        induction k with
        | zero => intro a; simp
        | succ k ih => intro a; rw [List.replicate_succ, List.foldl_cons, ih, List.replicate_succ]; simp
      show (List.foldl (· ++ ·) #[] (List.replicate (n : Int).toNat (Str.ofString "/").cps)).toList = _
      rw [e, key, Int.toNat_natCast]; simp
/-! root and tail -/
theorem cl_hd {x : Str} {a b : List Nat} (h : cl x = a ++ 47 :: b) (hb : 47 ∉ b) : cl (hdS x) = a ++ [47] ∧ cl (bnS x) = b := by
  have e : (Str.ofString "/") = (⟨#[47]⟩ : Str) := by decide
  have hr : Txt.rfind x (Str.ofString "/") + 1 = ((a.length + 1 : Nat) : Int) := by rw [e, rfind_at h hb]; rfl
  unfold hdS bnS
  rw [hr, cl_to, cl_from, h]
  constructor
  · rw [show a ++ 47 :: b = (a ++ [47]) ++ b by simp, List.take_left' (by simp)]
  · rw [show a ++ 47 :: b = (a ++ [47]) ++ b by simp, List.drop_left' (by simp)]
theorem cl_hd0 {x : Str} (h : 47 ∉ cl x) : cl (hdS x) = [] ∧ cl (bnS x) = cl x := by
  have e : (Str.ofString "/") = (⟨#[47]⟩ : Str) := by decide
  have hr : Txt.rfind x (Str.ofString "/") + 1 = ((0 : Nat) : Int) := by rw [e, rfind_none h]; rfl
  unfold hdS bnS
  rw [hr, cl_to, cl_from]
  exact ⟨rfl, rfl⟩
theorem dn_none {x : Str} (h : 47 ∉ cl x) : cl (dnS x) = [] := by
  have h1 := (cl_hd0 h).1
  unfold dnS
  rw [if_pos (by rw [← cl_len, h1]; rfl)]
  exact h1
theorem dn_root {x : Str} {k : Nat} {b : List Nat} (h : cl x = List.replicate (k + 1) 47 ++ b) (hb : 47 ∉ b) : cl (dnS x) = List.replicate (k + 1) 47 := by
  have e : cl x = List.replicate k 47 ++ 47 :: b := by rw [h, List.replicate_succ']; simp
  have h1 := (cl_hd e hb).1
  rw [← List.replicate_succ'] at h1
  have h2 : (hdS x).length = k + 1 := by rw [← cl_len, h1]; simp
  unfold dnS
  rw [if_neg (by omega), if_pos (cl_ext (by rw [cl_mulSlash, h1, h2]))]
  exact h1
theorem dn_cut {x : Str} {a b : List Nat} {c : Nat} (h : cl x = a ++ c :: 47 :: b) (hc : c ≠ 47) (hb : 47 ∉ b) : cl (dnS x) = a ++ [c] := by
  have e : cl x = (a ++ [c]) ++ 47 :: b := by rw [h]; simp
  have h1 := (cl_hd e hb).1
  have h2 : (hdS x).length ≠ 0 := by rw [← cl_len, h1]; simp
  unfold dnS
  rw [if_neg h2, if_neg ?_]
  · rw [cl_rstrip, h1]
    simp [hc]
  · intro hz
    have : c ∈ cl (hdS x) := by rw [h1]; simp
    rw [hz, cl_mulSlash] at this
    exact hc (List.eq_of_mem_replicate this)
theorem slash2 (x : Str) : Txt.slice x (some 1) (some 2) = Str.ofString "/" ↔ (cl x)[1]? = some 47 := slash_iff x 1
theorem slash3 (x : Str) : Txt.slice x (some 2) (some 3) = Str.ofString "/" ↔ (cl x)[2]? = some 47 := slash_iff x 2
theorem cl_rt (n : Nat) : cl (rtS n) = List.replicate (if n = 2 then 2 else if n ≠ 0 then 1 else 0) 47 := by
  unfold rtS
  split
  · decide
  · split <;> decide
theorem hs_form (l : List Nat) : ∃ r, l = List.replicate (hs l) 47 ++ r ∧ r[0]? ≠ some 47 := by
  induction l with
  | nil => exact ⟨[], rfl, by simp⟩
  | cons c l ih =>
    by_cases hc : c = 47
    · subst hc
      obtain ⟨r, e, hr⟩ := ih
      refine ⟨r, ?_, hr⟩
      rw [hs_cons, List.replicate_succ, List.cons_append, ← e]
    · exact ⟨c :: l, by rw [hs_ne hc]; rfl, by simpa using hc⟩
theorem hs_rep (k : Nat) (r : List Nat) (hr : r[0]? ≠ some 47) : hs (List.replicate k 47 ++ r) = k := by
  induction k with
  | zero =>
    cases r with
    | nil => rfl
    | cons c r => exact hs_ne (by simpa using hr) r
  | succ k ih => rw [List.replicate_succ, List.cons_append, hs_cons, ih]
theorem rootS_is (x : Str) : rootS x = rtS (hs (cl x)) := by
  obtain ⟨r, e, hr⟩ := hs_form (cl x)
  generalize hs (cl x) = n at e
  have h1 := first_iff x
  have h2 := slash2 x
  have h3 := slash3 x
  unfold rootS rtS
  simp only [ne_eq, h1, h2, h3]
  match n, e with
  | 0, e =>
    have e' : (cl x)[0]? ≠ some 47 := by rw [e]; exact hr
    rw [if_pos e', if_neg (by decide), if_neg (by decide)]
  | 1, e =>
    have e1 : (cl x)[0]? = some 47 := by rw [e]; rfl
    have e2 : (cl x)[1]? ≠ some 47 := by rw [e]; simpa [List.replicate] using hr
    rw [if_neg (fun h => h e1), if_pos (.inl e2), if_neg (by decide), if_pos (by decide)]
  | 2, e =>
    have e1 : (cl x)[0]? = some 47 := by rw [e]; rfl
    have e2 : (cl x)[1]? = some 47 := by rw [e]; rfl
    have e3 : (cl x)[2]? ≠ some 47 := by rw [e]; simpa [List.replicate] using hr
    simp only [e1, e2, e3, ne_eq, not_true_eq_false, false_or, if_false, if_true]
    apply cl_ext
    rw [show (some 2 : Option Int) = some ((2 : Nat) : Int) from rfl, cl_to, e]
    rfl
  | n + 3, e =>
    have e1 : (cl x)[0]? = some 47 := by rw [e]; rfl
    have e3 : (cl x)[2]? = some 47 := by rw [e]; rfl
    rw [if_neg (by simp [e1]), if_pos (.inr e3), if_neg (by omega), if_pos (by omega)]
theorem tailS_is (x : Str) : cl (tailS x) = (cl x).drop (rootS x).length := by
  have h2 : (Txt.slice x none (some 2)).length = min 2 x.length := by
    rw [← cl_len, show (some 2 : Option Int) = some ((2 : Nat) : Int) from rfl, cl_to, List.length_take, cl_len]
  have e1 : (Str.ofString "/").length = 1 := by decide
  have e0 : (Str.ofString "").length = 0 := by decide
  unfold tailS rootS
  split
  · rw [e0]; rfl
  · split
    · rw [e1]; exact cl_from x 1
    · rw [h2, show (some 2 : Option Int) = some ((2 : Nat) : Int) from rfl, cl_from]
      by_cases h : 2 ≤ x.length
      · rw [Nat.min_eq_left h]
      · rw [Nat.min_eq_right (by omega), ← cl_len, List.drop_length, List.drop_of_length_le (by rw [cl_len]; omega)]
end piece_Q3
section piece_Q4
open Builtin Builtin.Str
/-- a path of a root and names -/
noncomputable def pth (root : Str) (ns : List Str) : Str := root ++ Txt.join (Str.ofString "/") ns
/-- the names that a path shows -/
noncomputable def namesOf (root : Str) (ps : List Str) : List Str := if ps ≠ [] ∨ root ≠ Str.ofString "" then ps else [Str.ofString "."]
/-- a root and names that stand in a path -/
structure NamesOk (root : Str) (ns : List Str) : Prop where
  root_is : root = Str.ofString "" ∨ root = Str.ofString "/" ∨ root = Str.ofString "//"
  free : ∀ n ∈ ns, cl n ≠ [] ∧ 47 ∉ cl n
theorem okp_ne {p : Str} (h : okp p = true) : cl p ≠ [] := by
  intro e
  exact (okp_iff.mp h).1 (by rw [← cl_len, e]; rfl)
theorem Straight.names {root : Str} {ps : List Str} (h : Straight root ps) : NamesOk root (namesOf root ps) := by
  refine ⟨h.root_is, fun n hn => ?_⟩
  unfold namesOf at hn
  split at hn
  · exact ⟨okp_ne (h.ok n hn), h.free n hn⟩
  · rw [List.mem_singleton.mp hn]; decide
theorem root_rep {root : Str} (h : root = Str.ofString "" ∨ root = Str.ofString "/" ∨ root = Str.ofString "//") : ∃ j, j ≤ 2 ∧ cl root = List.replicate j 47 ∧ root.length = j ∧ rtS j = root := by
  rcases h with rfl | rfl | rfl
  · exact ⟨0, by decide, by decide, by decide, by decide⟩
  · exact ⟨1, by decide, by decide, by decide, by decide⟩
  · exact ⟨2, by decide, by decide, by decide, by decide⟩
theorem cl_pth (root : Str) (ns : List Str) : cl (pth root ns) = cl root ++ jn (ns.map cl) := by
  unfold pth; rw [cl_app, cl_join]
theorem jn_head : ∀ l : List (List Nat), (∀ p ∈ l, p ≠ [] ∧ 47 ∉ p) → (jn l)[0]? ≠ some 47
  | [], _ => by simp [jn]
  | [x], h => by
    obtain ⟨h1, h2⟩ := h x (by simp)
    intro e
    exact h2 (List.mem_of_getElem? e)
  | x :: y :: r, h => by
    obtain ⟨h1, h2⟩ := h x (by simp)
    cases x with
    | nil => exact absurd rfl h1
    | cons c x =>
      intro e
      have e' : c = 47 := by simpa [jn] using e
      exact h2 (by simp [e'])
theorem NamesOk.lists {root : Str} {ns : List Str} (h : NamesOk root ns) : ∀ p ∈ ns.map cl, p ≠ [] ∧ 47 ∉ p := by
  intro p hp
  obtain ⟨n, hn, rfl⟩ := List.mem_map.mp hp
  exact h.free n hn
theorem pth_root {root : Str} {ns : List Str} (h : NamesOk root ns) : rootS (pth root ns) = root ∧ tailS (pth root ns) = Txt.join (Str.ofString "/") ns := by
  obtain ⟨j, _, h2, h3, h4⟩ := root_rep h.root_is
  have e : rootS (pth root ns) = root := by
    rw [rootS_is, cl_pth, h2, hs_rep _ _ (jn_head _ h.lists), h4]
  refine ⟨e, cl_ext ?_⟩
  rw [tailS_is, e, cl_pth, cl_join, List.drop_left' (by rw [cl_len])]
theorem jn_last : ∀ l : List (List Nat), l ≠ [] → (∀ p ∈ l, p ≠ [] ∧ 47 ∉ p) → ∃ a c, jn l = a ++ [c] ∧ c ≠ 47
  | [], h, _ => absurd rfl h
  | [x], _, h => by
    obtain ⟨h1, h2⟩ := h x (by simp)
    refine ⟨x.dropLast, x.getLast h1, (List.dropLast_concat_getLast h1).symm, fun e => h2 (e ▸ List.getLast_mem h1)⟩
  | x :: y :: r, _, h => by
    obtain ⟨a, c, e, hc⟩ := jn_last (y :: r) (by simp) (fun p hp => h p (List.mem_cons_of_mem _ hp))
    exact ⟨x ++ 47 :: a, c, by simp [jn, e], hc⟩
theorem jn_snoc : ∀ (l : List (List Nat)) (x : List Nat), l ≠ [] → jn (l ++ [x]) = jn l ++ 47 :: x
  | [], _, h => absurd rfl h
  | [y], x, _ => rfl
  | y :: z :: r, x, _ => by
    show y ++ 47 :: jn (z :: r ++ [x]) = (y ++ 47 :: jn (z :: r)) ++ 47 :: x
    rw [jn_snoc (z :: r) x (by simp)]; simp
theorem climb_top {root : Str} (h : root = Str.ofString "" ∨ root = Str.ofString "/" ∨ root = Str.ofString "//") : (bnS (pth root [])).length = 0 ∧ pth root [] = root := by
  rcases h with rfl | rfl | rfl <;> exact ⟨by decide +kernel, by decide +kernel⟩
theorem climb_last {root x : Str} {q : List Str} (h : NamesOk root (q ++ [x])) : bnS (pth root (q ++ [x])) = x ∧ dnS (pth root (q ++ [x])) = pth root q := by
  obtain ⟨j, _, h2, h3, h4⟩ := root_rep h.root_is
  obtain ⟨hx1, hx2⟩ := h.free x (by simp)
  by_cases hq : q = []
  · subst hq
    have e : cl (pth root ([] ++ [x])) = List.replicate j 47 ++ cl x := by rw [cl_pth, h2]; rfl
    have e0 : cl (pth root []) = List.replicate j 47 := by rw [cl_pth, h2]; exact List.append_nil _
    cases j with
    | zero =>
      have e' : cl (pth root ([] ++ [x])) = cl x := e
      have hf : 47 ∉ cl (pth root ([] ++ [x])) := by rw [e']; exact hx2
      exact ⟨cl_ext ((cl_hd0 hf).2.trans e'), cl_ext ((dn_none hf).trans e0.symm)⟩
    | succ j =>
      have e' : cl (pth root ([] ++ [x])) = List.replicate j 47 ++ 47 :: cl x := by rw [e, List.replicate_succ']; simp
      exact ⟨cl_ext (cl_hd e' hx2).2, cl_ext ((dn_root e hx2).trans e0.symm)⟩
  · have hl := h.lists
    rw [List.map_append] at hl
    obtain ⟨a, c, e1, hc⟩ := jn_last (q.map cl) (by simpa using hq) (fun p hp => hl p (List.mem_append_left _ hp))
    have e : cl (pth root (q ++ [x])) = (cl root ++ a ++ [c]) ++ 47 :: cl x := by
      rw [cl_pth, List.map_append, List.map_singleton, jn_snoc _ _ (by simpa using hq), e1]; simp
    have e2 : cl (pth root (q ++ [x])) = (cl root ++ a) ++ c :: 47 :: cl x := by rw [e]; simp
    refine ⟨cl_ext (cl_hd e hx2).2, cl_ext ((dn_cut e2 hc hx2).trans ?_)⟩
    rw [cl_pth, e1]; simp
theorem climb_all {root : Str} : ∀ (k : Nat) (ns : List Str), ns.length = k → NamesOk root ns → ∀ (n : Nat) (acc : List Str), k < n → climbF n (pth root ns) acc = (root, acc ++ ns.reverse)
  | 0, ns, hk, h, n + 1, acc, _ => by
    obtain rfl := List.eq_nil_of_length_eq_zero hk
    obtain ⟨h1, h2⟩ := climb_top h.root_is
    show (if (bnS (pth root [])).length ≠ 0 then _ else _) = _
    rw [if_neg (by omega), h2]; simp
  | k + 1, ns, hk, h, n + 1, acc, hn => by
    rcases List.eq_nil_or_concat ns with rfl | ⟨q, x, rfl⟩
    · cases hk
    · rw [List.concat_eq_append] at h hk ⊢
      obtain ⟨h1, h2⟩ := climb_last h
      have hx := (h.free x (by simp)).1
      show (if (bnS (pth root (q ++ [x]))).length ≠ 0 then climbF n (dnS (pth root (q ++ [x]))) (acc ++ [bnS (pth root (q ++ [x]))]) else _) = _
      rw [h1, h2, if_pos (by rw [← cl_len]; exact fun e => hx (List.eq_nil_of_length_eq_zero e))]
      rw [climb_all k q (by simpa using hk) ⟨h.root_is, fun n hn => h.free n (by simp [hn])⟩ n _ (by omega)]
      simp
theorem jn_len : ∀ l : List (List Nat), (∀ p ∈ l, p ≠ [] ∧ 47 ∉ p) → l.length ≤ (jn l).length
  | [], _ => Nat.le_refl _
  | [x], h => by
    obtain ⟨h1, _⟩ := h x (by simp)
    exact List.length_pos_iff.mpr h1
  | x :: y :: r, h => by
    have ih := jn_len (y :: r) (fun p hp => h p (List.mem_cons_of_mem _ hp))
    obtain ⟨h1, _⟩ := h x (by simp)
    have := List.length_pos_iff.mpr h1
    show _ ≤ (x ++ 47 :: jn (y :: r)).length
    simp only [List.length_append, List.length_cons] at ih ⊢
    omega
theorem climb_pth {root : Str} {ns : List Str} (h : NamesOk root ns) : climbS (pth root ns) = (root, ns) := by
  have hl : ns.length ≤ (pth root ns).length := by
    rw [← cl_len, cl_pth, List.length_append]
    have := jn_len _ h.lists
    rw [List.length_map] at this
    omega
  unfold climbS
  rw [climb_all ns.length ns rfl h _ [] (by omega)]
  simp
/-! reading a path -/
noncomputable def rl (x : Str) : List Str := nzS (Txt.split x (Str.ofString "/"))
theorem rl_map (x : Str) : (rl x).map cl = nz (sp (cl x)) := by unfold rl; rw [nzS_map, cl_split]
theorem rt_len (n : Nat) : (rtS n).length ≤ n := by
  unfold rtS
  have e2 : (Str.ofString "//").length = 2 := by decide
  have e1 : (Str.ofString "/").length = 1 := by decide
  have e0 : (Str.ofString "").length = 0 := by decide
  split
  · omega
  · split <;> omega
theorem normL_is (x : Str) : normL x = (rl x).foldl (normStep (rootS x)) [] := by
  unfold normL
  rw [norm_nz]
  congr 1
  apply map_cl_inj
  rw [nzS_map, cl_split, rl_map, tailS_is, nz_drop]
  rw [rootS_is]; exact rt_len _
theorem normS_is {x root : Str} {ps : List Str} (h1 : rootS x = root) (h2 : normL x = ps) (hs : Straight root ps) : normS x = pth root (namesOf root ps) := by
  unfold normS
  rw [h1, h2]
  by_cases hp : ps ≠ [] ∨ root ≠ Str.ofString ""
  · have e : namesOf root ps = ps := if_pos hp
    have hn := hs.names
    rw [e] at hn ⊢
    have hne : (pth root ps).length ≠ 0 := by
      rw [← cl_len, cl_pth, List.length_append]
      rcases hp with hp | hp
      · have h3 := jn_len _ hn.lists
        rw [List.length_map] at h3
        have := List.length_pos_iff.mpr hp
        omega
      · rw [ne_eq, ← len_zero, ← cl_len] at hp
        omega
    have hne' : ¬ (root ++ Txt.join (Str.ofString "/") ps).length = 0 := hne
    rw [if_neg ?_, if_neg hne']
    · rfl
    · intro h0
      rw [len_zero] at h0
      subst h0
      have a1 : rootS (Str.ofString "") = Str.ofString "" := by decide +kernel
      have a2 : normL (Str.ofString "") = [] := by decide +kernel
      rw [a1] at h1
      rw [a2] at h2
      rw [← h1, ← h2] at hne
      exact hne (by decide +kernel)
  · have e : namesOf root ps = [Str.ofString "."] := if_neg hp
    rw [e]
    have hp1 : ps = [] := Classical.byContradiction fun h => hp (.inl h)
    have hp2 : root = Str.ofString "" := Classical.byContradiction fun h => hp (.inr h)
    subst hp1 hp2
    have e2 : (Str.ofString "" ++ Txt.join (Str.ofString "/") []).length = 0 := by decide
    rw [if_pos e2]
    split <;> decide
theorem strs_split_free (x : Str) : ∀ p ∈ Txt.split x (Str.ofString "/"), 47 ∉ cl p := by
  have e : (Str.ofString "/") = (⟨#[47]⟩ : Str) := by decide
  rw [e]
  exact StrLaws.split_free x 47
/-- a straight path is its own norm -/
theorem norm_pth {root : Str} {ps : List Str} (h : Straight root ps) : normS (pth root (namesOf root ps)) = pth root (namesOf root ps) := by
  obtain ⟨h1, h2⟩ := pth_root h.names
  refine normS_is h1 ?_ h
  rw [normL_is, h1]
  have e : rl (pth root (namesOf root ps)) = ps := by
    apply map_cl_inj
    rw [rl_map, ← nz_drop _ (rootS (pth root (namesOf root ps))).length (by rw [rootS_is]; exact rt_len _), ← tailS_is, h2, cl_join]
    unfold namesOf
    split
    · by_cases hp : ps = []
      · subst hp; rfl
      · rw [sp_jn _ (by simpa using hp) (fun p hp => by
          obtain ⟨n, hn, rfl⟩ := List.mem_map.mp hp
          exact h.free n hn), ← nzS_map]
        congr 1
        exact List.filter_eq_self.mpr h.ok
    · rename_i hn
      have : ps = [] := Classical.byContradiction fun h => hn (.inl h)
      subst this
      decide +kernel
  rw [e, h.norm]
end piece_Q4
section piece_Q5
open Builtin Builtin.Str
theorem rl_step (p b : Str) : rl (joinStep p b) = if (cl b)[0]? = some 47 then rl b else rl p ++ rl b := by
  apply map_cl_inj
  rw [rl_map, cl_joinStep, jstep_nz]
  split
  · rw [rl_map]
  · rw [List.map_append, rl_map, rl_map]
theorem hs_step (p b : Str) : hs (cl (joinStep p b)) = if (cl b)[0]? = some 47 then hs (cl b) else hs (cl p) := by
  rw [cl_joinStep, jstep_hs]
theorem fstN_app (xs : List Str) (b : Str) : ∀ i, i ≤ xs.length → fstN (xs ++ [b]) i = fstN xs i
  | 0, _ => rfl
  | i + 1, h => by
    show (if Txt.slice ((xs ++ [b]).getD i Str.empty) none (some 1) = Str.ofString "/" then i else fstN (xs ++ [b]) i) = (if Txt.slice (xs.getD i Str.empty) none (some 1) = Str.ofString "/" then i else fstN xs i)
    rw [fstN_app xs b i (by omega)]
    have : (xs ++ [b]).getD i Str.empty = xs.getD i Str.empty := by
      simp only [List.getD]
      rw [List.getElem?_append_left (by omega)]
    rw [this]
theorem fstS_snoc (xs : List Str) (b : Str) : fstS (xs ++ [b]) = if (cl b)[0]? = some 47 then xs.length else fstS xs := by
  unfold fstS
  rw [List.length_append]
  show (if Txt.slice ((xs ++ [b]).getD xs.length Str.empty) none (some 1) = Str.ofString "/" then xs.length else fstN (xs ++ [b]) xs.length) = _
  have e : (xs ++ [b]).getD xs.length Str.empty = b := by simp [List.getD]
  rw [e, fstN_app xs b _ (Nat.le_refl _)]
  simp only [first_iff]
theorem fstS_lt {xs : List Str} (h : xs ≠ []) : fstS xs < xs.length := fstN_lt xs xs.length (fun e => h (List.length_eq_zero_iff.mp e))
theorem join_reads (p : Str) : ∀ (k : Nat) (r : List Str), r.length = k → rl (joinS p r) = nzS (piecesS (p :: r)) ∧ hs (cl (joinS p r)) = hs (cl ((p :: r).getD (fstS (p :: r)) Str.empty))
  | 0, r, hk => by
    obtain rfl := List.eq_nil_of_length_eq_zero hk
    have e : fstS [p] = 0 := by have := fstS_lt (xs := [p]) (by simp); simpa using this
    unfold piecesS
    rw [e]
    refine ⟨?_, rfl⟩
    show nzS (Txt.split p _) = nzS (Txt.split p _ ++ [])
    rw [List.append_nil]
  | k + 1, r, hk => by
    rcases List.eq_nil_or_concat r with rfl | ⟨q, b, rfl⟩
    · cases hk
    · rw [List.concat_eq_append] at hk ⊢
      obtain ⟨h1, h2⟩ := join_reads p k q (by simpa using hk)
      have hlt := fstS_lt (xs := p :: q) (by simp)
      have e : fstS (p :: (q ++ [b])) = if (cl b)[0]? = some 47 then (p :: q).length else fstS (p :: q) := fstS_snoc (p :: q) b
      rw [joinS_snoc, rl_step, hs_step]
      unfold piecesS at h1 ⊢
      rw [e]
      by_cases hb : (cl b)[0]? = some 47
      · rw [if_pos hb, if_pos hb, if_pos hb]
        rw [show p :: (q ++ [b]) = (p :: q) ++ [b] from rfl, List.drop_left]
        constructor
        · show nzS (Txt.split b _) = nzS (Txt.split b _ ++ [])
          rw [List.append_nil]
        · simp [List.getD]
      · rw [if_neg hb, if_neg hb, if_neg hb]
        rw [show p :: (q ++ [b]) = (p :: q) ++ [b] from rfl, List.drop_append_of_le_length (by omega), List.flatMap_append]
        constructor
        · rw [h1]
          unfold nzS rl nzS
          rw [List.filter_append]
          congr 1
          show _ = List.filter okp (Txt.split b _ ++ [])
          rw [List.append_nil]
        · rw [h2]
          simp only [List.getD]
          rw [List.getElem?_append_left hlt]
theorem sroot_is (p : Str) (r : List Str) : rootS (joinS p r) = sroot (p :: r) := by
  rw [rootS_is, (join_reads p _ r rfl).2]; rfl
theorem root_kinds (n : Nat) : rtS n = Str.ofString "" ∨ rtS n = Str.ofString "/" ∨ rtS n = Str.ofString "//" := by
  unfold rtS
  split
  · exact .inr (.inr rfl)
  · split
    · exact .inr (.inl rfl)
    · exact .inl rfl
theorem pieces_free (xs : List Str) : ∀ p ∈ piecesS xs, 47 ∉ cl p := by
  intro p hp
  obtain ⟨x, _, h⟩ := List.mem_flatMap.mp hp
  exact strs_split_free x p h
theorem skept_nz (xs : List Str) : skept xs = (nzS (piecesS xs)).reverse.foldl strStep ([], 0) := by
  unfold skept; rw [str_nz, nzS_rev]
theorem nzS_ok {xs : List Str} : ∀ p ∈ nzS xs, okp p = true := fun _ hp => (List.mem_filter.mp hp).2
theorem spieces_form (xs : List Str) : spieces xs = List.replicate (if sroot xs = Str.ofString "" then (skept xs).2 else 0) dd ++ (skept xs).1.reverse := by
  unfold spieces
  split
  · rw [List.reverse_append, List.reverse_replicate]
  · rfl
theorem spieces_straight (xs : List Str) : Straight (sroot xs) (spieces xs) := by
  have hk : ∀ n ∈ (skept xs).1.reverse, n ∈ piecesS xs ∧ n ≠ dd ∧ okp n = true := by
    intro n hn
    rw [List.mem_reverse, skept_nz] at hn
    rcases back_mem _ _ (fun p hp => nzS_ok p (List.mem_reverse.mp hp)) n hn with h | ⟨h, h2⟩
    · cases h
    · rw [List.mem_reverse] at h
      exact ⟨(List.mem_filter.mp h).1, h2, nzS_ok n h⟩
  refine ⟨root_kinds _, ⟨_, _, spieces_form xs, fun n hn => (hk n hn).2, fun h => if_neg fun e => h (by rw [e]; decide)⟩, ?_⟩
  intro n hn
  rw [spieces_form] at hn
  rcases List.mem_append.mp hn with hn | hn
  · rw [List.eq_of_mem_replicate hn]; decide
  · exact pieces_free xs n (hk n hn).1
theorem norm_fold (xs : List Str) : (nzS (piecesS xs)).foldl (normStep (sroot xs)) [] = spieces xs := by
  have hr : (sroot xs).length ≠ 0 ↔ sroot xs ≠ Str.ofString "" := by rw [ne_eq, len_zero]
  have h := fwd_back (sroot xs) (nzS (piecesS xs)) nzS_ok 0 [] (by simp) (fun _ => rfl)
  rw [← skept_nz] at h
  rw [show List.replicate 0 dd ++ ([] : List Str) = [] from rfl] at h
  rw [h, spieces_form]
  simp only [List.length_nil, Nat.sub_zero, Nat.zero_add, List.take_nil, List.nil_append, List.replicate_zero]
  by_cases h0 : (skept xs).2 = 0
  · rw [if_pos (by omega), h0, ite_self]; rfl
  · rw [if_neg (by omega)]
    by_cases h1 : (sroot xs).length = 0
    · rw [if_pos h1, if_pos (len_zero.mp h1)]
    · rw [if_neg h1, if_neg (hr.mp h1)]; rfl
/-- the first law: the norm of the joined parts is the straight path -/
theorem law_way (p : Str) (r : List Str) : normS (joinS p r) = pth (sroot (p :: r)) (namesOf (sroot (p :: r)) (spieces (p :: r))) := by
  refine normS_is (sroot_is p r) ?_ (spieces_straight (p :: r))
  rw [normL_is, (join_reads p _ r rfl).1, sroot_is, norm_fold]
end piece_Q5
section piece_V1
open PySem.Sem (wp)
section
variable {α β : Type} {M : Model} {A : Around} {E : Value → Shared → Prop} {s : Shared}
/-- like wpAny, of a code whose callers are known in part -/
noncomputable def wpBel {α : Type} (M : Model) (A : Around) (P : List (Code × Pos) → Prop) (c : Code) (t : Sem α) (Q : α → Shared → Prop) (E : Value → Shared → Prop) (s : Shared) : Prop :=
  ∀ (Γ : Ctx) (p : Pos), Γ.code = c → P Γ.below → Γ.Below A → wp M Γ t (fun a _ s' => Q a s') (fun e _ s' => E e s') p s
noncomputable def codeBel (M : Model) (A : Around) (P : List (Code × Pos) → Prop) (c : Code) (R : Result → Shared → Prop) (s : Shared) : Prop :=
  ∀ (Γ : Ctx) (p : Pos), Γ.code = c → P Γ.below → Γ.Below A → wpCode M Γ R p s
variable {P : List (Code × Pos) → Prop} {c : Code}
theorem wpBel.any {t : Sem α} {Q : α → Shared → Prop} (h : wpAny M (A.under c) t Q E s) : wpBel M A P c t Q E s := fun Γ p hc _ hΓ => h Γ p (hc ▸ hΓ.in)
theorem wpBel.bind {m : Sem α} {f : α → Sem β} {Q : β → Shared → Prop} (h : wpBel M A P c m (fun a s' => wpBel M A P c (f a) Q E s') E s) : wpBel M A P c (m >>= f) Q E s :=
  fun Γ p hc hP hΓ => by
    rw [Sem.wp_bind']
    exact Sem.wp_mono M Γ m (fun a p' s' h' => h' Γ p' hc hP hΓ) (fun _ _ _ h' => h') p s (h Γ p hc hP hΓ)
theorem wpBel.mono {t : Sem α} {Q Q' : α → Shared → Prop} {E' : Value → Shared → Prop} (h : wpBel M A P c t Q E s) (hQ : ∀ a s, Q a s → Q' a s) (hE : ∀ e s, E e s → E' e s) : wpBel M A P c t Q' E' s :=
  fun Γ p hc hP hΓ => Sem.wp_mono M Γ t (fun a _ s => hQ a s) (fun e _ s => hE e s) p s (h Γ p hc hP hΓ)
theorem wpBel.stack {Q : List (Code × Pos) → Shared → Prop} (h : ∀ (p : Pos) (below : List (Code × Pos)), P below → Q ((c, p) :: below) s) : wpBel M A P c stack Q E s := fun Γ p hc hP hΓ => by
  show Q ((Γ.code, p) :: Γ.below) s
  rw [hc]; exact h p Γ.below hP
theorem wpBel.of_eq {t t' : Sem α} {Q : α → Shared → Prop} (e : t = t') (h : wpBel M A P c t' Q E s) : wpBel M A P c t Q E s := e ▸ h
theorem wpBel.pure {a : α} {Q : α → Shared → Prop} (h : Q a s) : wpBel M A P c (Pure.pure a) Q E s := wpBel.any (wpAny_pure h)
theorem wpBel.ite_t {p : Prop} [Decidable p] {a b : Sem α} {Q : α → Shared → Prop} (hp : p) (h : wpBel M A P c a Q E s) : wpBel M A P c (if p then a else b) Q E s := by rw [if_pos hp]; exact h
theorem wpBel.ite_f {p : Prop} [Decidable p] {a b : Sem α} {Q : α → Shared → Prop} (hp : ¬ p) (h : wpBel M A P c b Q E s) : wpBel M A P c (if p then a else b) Q E s := by rw [if_neg hp]; exact h
theorem wpBel.holding {vs : List Value} {m : Sem α} {Q : α → Shared → Prop} (h : wpBel M A P c m Q E s) : wpBel M A P c (holding vs m) Q E s :=
  fun Γ p hc hP hΓ => by rw [Sem.wp_holding]; exact h Γ p hc hP hΓ
theorem wpBel.runValue {c' : Code} {Q : Value → Shared → Prop}
    (hc : codeBel M (A.under c) (fun l => ∃ p r, l = (c, p) :: r ∧ P r) c' (fun r s' => match r with | .ok (.ret v) => Q v s' | .ok _ => False | .error e => E e s') s) : wpBel M A P c (runValue c') Q E s := fun Γ p hc' hP hΓ => by
  rw [Sem.wp_runValue]
  refine hc _ p rfl ⟨p, Γ.below, ?_, hP⟩ ?_
  · show (Γ.code, p) :: Γ.below = _
    rw [hc']
  · have hi : Γ.In (A.under c) := hc' ▸ hΓ.in
    exact hi.enter c' none p (by intro x; cases x)
theorem codeBel.tree {R : Result → Shared → Prop}
    (h : wpBel M A P c (M.den c) (fun fin s' => match fin with | .done f => R (.ok f) s' | .again c' => c'.quiet = true ∧ codeBel M A P c' R s') (fun e s' => R (.error e) s') s) : codeBel M A P c R s := fun Γ p hc hP hΓ => by
  rw [wpCode_iff_wp, hc]
  refine Sem.wp_mono M Γ _ (fun fin p' s' h' => ?_) (fun _ _ _ h' => h') p s (h Γ p hc hP hΓ)
  cases fin with
  | done f => exact h'
  | again c' => exact ⟨h'.1, h'.2 (Γ.goto c') p' rfl hP (hΓ.goto c')⟩
theorem codeBel.toAny {R : Result → Shared → Prop} (h : codeBel M A (fun _ => True) c R s) : codeAny M A c R s := fun Γ p hc hΓ => h Γ p hc trivial hΓ
theorem codeBel.any {R : Result → Shared → Prop} (h : codeAny M A c R s) : codeBel M A P c R s := fun Γ p hc _ hΓ => h Γ p hc hΓ
end
section
variable {prog : Program} {w : World} {A : Around} {E : Value → Shared → Prop} {R : Result → Shared → Prop} {s : Shared} {P : List (Code × Pos) → Prop}
theorem codeBel.builtin {id : String} {args : Args} {b : Builtin} (hb : entryFor table id = some b)
    (h : wpBel (model prog w) A P (.builtin id args) (b args)
      (fun fin s' => match fin with | .done f => R (.ok f) s' | .again c' => c'.quiet = true ∧ codeBel (model prog w) A P c' R s') (fun e s' => R (.error e) s') s) :
    codeBel (model prog w) A P (.builtin id args) R s := by
  refine codeBel.tree ?_
  show wpBel _ _ _ _ (match entryFor table id with | some b => b args | none => unsupported ((withoutEnding? id "#data").getD id)) _ _ s
  rw [hb]; exact h
/-- the callers of an int(..) that a map made -/
noncomputable def ByMap (l : List (Code × Pos)) : Prop := ∃ (a : Args) (p : Pos) (b : Args) (q : Pos) (r : List (Code × Pos)), l = (.builtin "type.__call__" a, p) :: (.builtin "map.__next__" b, q) :: r
theorem no_mark {c : Args} {p : Pos} {l : List (Code × Pos)} (h : ByMap l) : pythonCodeMadeTheCall ["int.__new__"] (((Code.builtin "int.__new__" c, p) :: l).map (·.1)) = false := by
  obtain ⟨a, q, b, t, r, rfl⟩ := h
  unfold pythonCodeMadeTheCall
  have e : ((Code.builtin "int.__new__" c, p) :: (Code.builtin "type.__call__" a, q) :: (Code.builtin "map.__next__" b, t) :: r).map (·.1) = Code.builtin "int.__new__" c :: Code.builtin "type.__call__" a :: Code.builtin "map.__next__" b :: r.map (·.1) := rfl
  rw [e]
  have e1 : ∀ id a, (Code.builtin id a).env? = none := fun _ _ => rfl
  simp only [List.takeWhile_cons, e1, Option.isNone_none, if_true, List.all_cons]
  have h1 : ["int.__new__"].contains "map.__next__" = false := by decide +kernel
  have h2 : ("map.__next__" == "type.__call__") = false := by decide +kernel
  simp only [h1, h2, Bool.false_or, Bool.false_and, Bool.and_false]
theorem bel_mark {e : Value} {args : Args} {Q : Unit → Shared → Prop} (h : Q () s) : wpBel (model prog w) A ByMap (.builtin "int.__new__" args) (markTheRefusal ["int.__new__"] e) Q E s := by
  unfold markTheRefusal
  refine wpBel.bind (wpBel.stack fun p below hP => ?_)
  rw [no_mark hP]
  exact wpBel.pure h
theorem raise_new {M : Model} {α : Type} {cls : String} {hp : Heap} {g : _} {d : _} {tk : Nat} {os : _} {msg : Str} {t : Tok} {Q : α → Shared → Prop} {P : List (Code × Pos) → Prop} {c : Code} (hx : PlainExc cls) (k : Value → Sem α)
    (h : ∀ h' e, Heap.NewExc hp h' e cls → wpBel M A P c (k (.ref e)) Q E ⟨h', g, d, tk, os⟩) : wpBel M A P c (newExc (.type cls) [.str msg t] >>= k) Q E ⟨hp, g, d, tk, os⟩ := by
  refine wpBel.bind (wpBel.any ?_)
  unfold newExc newTuple
  refine wpAny_bind (wpAny_newObj_type ?_)
  refine wpAny_bind (m := firstArgMember _ _) (wpAny_of_eq (a := Value.none) (by simp only [firstArgMember, hx.first]; rfl) ?_)
  rw [hx.own]
  refine wpAny_newObj_type ?_
  exact h _ _ ⟨fun b o hb => Heap.get?_push_of_some _ (Heap.get?_push_of_some _ hb), Heap.get?_none_of_le (by simp), _, .ref hp.objs.size, Heap.get?_push_size _ rfl, rfl, by simp⟩
theorem bad_tree {x : Str} {u : Tok} {text : List Nat} (hs : (text.takeWhile (· != 0)).length ≤ 640) (hr : (int_private% "readNumeral") 0 10 (text.takeWhile (· != 0)) = (int_private% "Numeral.invalid")) :
    (int_private% "intFromText") (.str x u) text 10 = (do
      rule "int.__new__.invalid-literal"
      let shown ← pyRepr (.str x u)
      let m ← mkStr (Str.ofString (toString "invalid literal for int() with base " ++ toString 10 ++ toString ": ") ++ ⟨shown.cps.extract 0 200⟩)
      let refusal ← newExc (.type "ValueError") [m]
      markTheRefusal ["int.__new__"] refusal
      raiseNew refusal) := by
  show (if (text.takeWhile (· != 0)).length ≤ 640 then _ else _) = _
  rw [if_pos hs, pure_bind]
  dsimp only
  rw [hr]
  rfl
theorem bel_bad {x : Str} {u : Tok} {text : List Nat} {args : Args} {Q : Value → Shared → Prop} (hh : A.handled = none) (hx : (reprText x).length ≤ 100000)
    (hs : (text.takeWhile (· != 0)).length ≤ 640) (hr : (int_private% "readNumeral") 0 10 (text.takeWhile (· != 0)) = (int_private% "Numeral.invalid"))
    (h : ∀ h' tk e, Heap.NewExc s.heap h' e "ValueError" → E (.ref e) { s with heap := h', toks := tk }) :
    wpBel (model prog w) A ByMap (.builtin "int.__new__" args) ((int_private% "intFromText") (.str x u) text 10) Q E s := by
  obtain ⟨hp, g, d, tk, os⟩ := s
  refine wpBel.of_eq (bad_tree hs hr) ?_
  refine wpBel.bind ?_
  refine wpBel.any ?_
  refine wpAny_rule ?_
  refine wpBel.bind ?_
  refine wpBel.any ?_
  refine wpAny_pyRepr_str ?_ (by rw [sizeLine_eq]; omega)
  refine wpBel.bind ?_
  refine wpBel.any ?_
  refine wpAny_mkStr ?_ ?_
  · refine raise_new plainExc_ValueError _ fun h' e hn => ?_
    refine wpBel.bind (bel_mark ?_)
    refine wpBel.any ?_
    unfold raiseNew
    refine wpAny_bind (wpAny_handled ?_)
    rw [show (A.under (.builtin "int.__new__" args)).handled = A.handled from rfl, hh]
    first
      | refine wpAny_throw ?_
      | refine wpAny_bind (wpAny_pure (wpAny_throw ?_))
    exact h _ _ _ hn
  · rw [len_append, sizeLine_eq]
    have e1 : (Str.ofString (toString "invalid literal for int() with base " ++ toString 10 ++ toString ": ")).length ≤ 100 := by decide +kernel
    have e2 : (⟨(reprText x).cps.extract 0 200⟩ : Str).length ≤ 200 := by
      show ((reprText x).cps.extract 0 200).size ≤ 200
      rw [Array.size_extract]; omega
    omega
section
variable {M : Model} {x : Str} {u : Tok}
theorem cs_none {name : Str} {Q : Option Value → Shared → Prop} (f : typeLookup (.type "str") name = pure none) (h : Q none s) : wpAny M A (callSpecial? (.str x u) name) Q E s := by
  obtain ⟨hp, g, d, tk, os⟩ := s
  have f6 : typeOf (.str x u) = pure (.type "str") := rfl
  repeat wp_step
  exact h
theorem so_none {name : Str} {Q : Option Value → Shared → Prop} (f : typeLookup (.type "str") name = pure none) (h : Q none s) : wpAny M A (specialOf (.str x u) name) Q E s := by
  obtain ⟨hp, g, d, tk, os⟩ := s
  have f6 : typeOf (.str x u) = pure (.type "str") := rfl
  repeat wp_step
  exact h
theorem ist_int {Q : Bool → Shared → Prop} (h : Q true s) : wpAny M A (isType (.type "int")) Q E s := by
  obtain ⟨hp, g, d, tk, os⟩ := s
  repeat wp_step
  exact h
end
theorem bel_int {x : Str} {u : Tok} {Q : Fin → Shared → Prop} (hh : A.handled = none) (hx : (reprText x).length ≤ 100000)
    (hs : (numSeenOf x).length ≤ 640) (hr : (int_private% "readNumeral") 0 10 (numSeenOf x) = (int_private% "Numeral.invalid"))
    (h : ∀ h' tk e, Heap.NewExc s.heap h' e "ValueError" → E (.ref e) { s with heap := h', toks := tk }) :
    wpBel (model prog w) A ByMap (.builtin "int.__new__" ⟨[.type "int", .str x u], []⟩) (Builtin.«int.__new__» ⟨[.type "int", .str x u], []⟩) Q E s := by
  refine wpBel.bind (m := isType _) ?_
  refine wpBel.any ?_
  refine ist_int ?_
  refine wpBel.ite_f (by decide) ?_
  refine wpBel.bind (m := isSubtype _ _) ?_
  refine wpBel.any ?_
  refine wpAny_of_eq F.conv_sub_int ?_
  refine wpBel.ite_f (by decide) ?_
  refine wpBel.bind (m := Bind.madeHere _ _) ?_
  refine wpBel.any ?_
  refine wpAny_of_eq F.madeHere_int ?_
  refine wpBel.ite_f (by show ¬ (_ && _ && false) = true; simp) ?_
  refine wpBel.ite_f (by show ¬ (1 + 0 > 2); decide) ?_
  refine wpBel.bind (m := forIn _ _ _) ?_
  refine wpBel.any ?_
  refine wpAny_pure ?_
  refine wpBel.bind ?_
  refine wpBel.bind (m := callSpecial? _ _) ?_
  refine wpBel.any ?_
  refine cs_none KIN.str_int ?_
  refine wpBel.bind (m := specialOf _ _) ?_
  refine wpBel.any ?_
  refine so_none KIN.str_idx ?_
  refine wpBel.ite_f (by decide) ?_
  refine wpBel.bind (m := specialOf _ _) ?_
  refine wpBel.any ?_
  refine so_none KIN.str_trunc ?_
  refine wpBel.bind ?_
  refine wpBel.any ?_
  refine wpAny_of_eq rfl ?_
  exact bel_bad hh hx hs hr h
end
end piece_V1
section piece_V2
section
variable {prog : Program} {w : World} {A : Around} {E : Value → Shared → Prop} {R : Result → Shared → Prop} {s : Shared} {x : Str} {u : Tok}
/-- the callers of a type's call that a map made -/
noncomputable def ByNext (l : List (Code × Pos)) : Prop := ∃ (b : Args) (q : Pos) (r : List (Code × Pos)), l = (.builtin "map.__next__" b, q) :: r
theorem quiet_int_new (args : Args) : (Code.builtin "int.__new__" args).quiet = true := Code.quiet_builtin _ (by decide +kernel)
theorem quiet_tcall (args : Args) : (Code.builtin "type.__call__" args).quiet = true := Code.quiet_builtin _ (by decide +kernel)
theorem wpBel.weak {α : Type} {M : Model} {P P' : List (Code × Pos) → Prop} {c : Code} {t : Sem α} {Q : α → Shared → Prop} (hP : ∀ l, P l → P' l) (h : wpBel M A P' c t Q E s) : wpBel M A P c t Q E s := fun Γ p hc hp hΓ => h Γ p hc (hP _ hp) hΓ
theorem codeBel.call_builtin {P : List (Code × Pos) → Prop} {id : String} {args : Args} {b : Builtin} (hq : (Code.builtin id args).quiet = true) (hb : entryFor table id = some b)
    (hc : checkBuiltinCall id args = pure ())
    (h : wpBel (model prog w) A P (.builtin id args) (b args)
      (fun fin s' => match fin with | .done f => R (.ok f) s' | .again c' => c'.quiet = true ∧ codeBel (model prog w) A P c' R s') (fun e s' => R (.error e) s') s) :
    codeBel (model prog w) A P (.call (.builtin id) args) R s := by
  refine codeBel.tree ?_
  show wpBel _ _ _ _ (do checkBuiltinCall id args; again (.builtin id args)) _ _ s
  refine wpBel.bind (wpBel.any (wpAny_of_eq hc ?_))
  exact wpBel.pure ⟨hq, codeBel.builtin hb h⟩
theorem bel_tcall {Q : Fin → Shared → Prop} (hh : A.handled = none) (hx : (reprText x).length ≤ 100000)
    (hs : (numSeenOf x).length ≤ 640) (hr : (int_private% "readNumeral") 0 10 (numSeenOf x) = (int_private% "Numeral.invalid"))
    (h : ∀ h' tk e, Heap.NewExc s.heap h' e "ValueError" → E (.ref e) { s with heap := h', toks := tk }) :
    wpBel (model prog w) A ByNext (.builtin "type.__call__" ⟨[.type "int", .str x u], []⟩) (Builtin.«type.__call__» ⟨[.type "int", .str x u], []⟩) Q E s := by
  have hmro := F.called_int.mro
  obtain ⟨c, tl, hmro⟩ := hmro
  unfold Builtin.«type.__call__»
  with_reducible refine wpBel.ite_f ?c1 ?_
  case c1 =>
    rw [F.called_int.notType]
    exact Bool.false_ne_true
  with_reducible refine wpBel.ite_f ?c2 ?_
  case c2 => exact fun e => Bool.false_ne_true (F.called_int.canCreate.symm.trans e)
  with_reducible refine wpBel.bind (m := checkTypeCall _ _) ?_
  refine wpBel.any ?_
  refine wpAny_of_eq (F.typeCall_int_1 _) ?_
  with_reducible refine wpBel.bind (m := mroOf _) ?_
  refine wpBel.any ?_
  refine wpAny_of_eq hmro ?_
  with_reducible refine wpBel.ite_f ?c3 ?_
  case c3 => exact Bool.false_ne_true
  with_reducible refine wpBel.bind (m := Bind.madeBy _) ?_
  refine wpBel.any ?_
  refine wpAny_of_eq F.called_int.made ?_
  with_reducible refine wpBel.bind (m := pure _) ?_
  refine wpBel.any ?_
  refine wpAny_pure ?_
  refine wpBel.bind ?_
  refine wpBel.holding ?_
  refine wpBel.runValue ?_
  refine codeBel.call_builtin (quiet_int_new _) F.entry_int_new (F.newCall_int_1 _) ?_
  refine wpBel.weak (P' := ByMap) ?_ (bel_int (A := A.under (.builtin "type.__call__" ⟨[.type "int", .str x u], []⟩)) hh hx hs hr h)
  rintro l ⟨p, r, rfl, b, q, r', rfl⟩
  exact ⟨_, _, _, _, _, rfl⟩
theorem bel_calltype {a : Args} {R : Result → Shared → Prop} (hh : A.handled = none) (hx : (reprText x).length ≤ 100000)
    (hs : (numSeenOf x).length ≤ 640) (hr : (int_private% "readNumeral") 0 10 (numSeenOf x) = (int_private% "Numeral.invalid"))
    (h : ∀ h' tk e, Heap.NewExc s.heap h' e "ValueError" → R (.error (.ref e)) { s with heap := h', toks := tk }) :
    codeBel (model prog w) A ByNext (.call (.type "int") ⟨[.str x u], []⟩) R s := by
  refine codeBel.tree ?_
  show wpBel _ _ _ _ (callAny (.type "int") _) _ _ _
  refine wpBel.pure ⟨quiet_tcall _, codeBel.builtin F.entry_type_call ?_⟩
  exact bel_tcall hh hx hs hr h
theorem bel_call {b : Args} {Q : Value → Shared → Prop} (hh : A.handled = none) (hx : (reprText x).length ≤ 100000)
    (hs : (numSeenOf x).length ≤ 640) (hr : (int_private% "readNumeral") 0 10 (numSeenOf x) = (int_private% "Numeral.invalid"))
    (h : ∀ h' tk e, Heap.NewExc s.heap h' e "ValueError" → E (.ref e) { s with heap := h', toks := tk }) :
    wpBel (model prog w) A (fun _ => True) (.builtin "map.__next__" b) (call (.type "int") [.str x u]) Q E s := by
  refine wpBel.runValue ?_
  have k := bel_calltype (prog := prog) (w := w) (A := A.under (.builtin "map.__next__" b)) (s := s) (u := u) (a := ⟨[], []⟩) (R := fun r s' => match r with | .ok (.ret v) => Q v s' | .ok _ => False | .error e => E e s') hh hx hs hr h
  exact fun Γ p hc hP hΓ => k Γ p hc (by obtain ⟨p', r, e, _⟩ := hP; exact ⟨_, _, _, e⟩) hΓ
end
end piece_V2
section piece_V3
theorem plainAttrs_owner_map : Manifest.owners.lookup (String.ofList ['p', 'a', 'm'].reverse) = some Manifest.sig_map := by kernel_rfl
theorem slot_map_next : Slot "map" "__next__" "map.__next__" :=
  .of (owner := "map") (n := "__next__") (by rw [typeLookup_type, builtinLookup_eq_fast]; kernel_rfl) (by decide +kernel) (by decide +kernel) (by decide +kernel)
    (by first | exact .inl (by decide +kernel) | exact .inr (by decide +kernel)) (by rw [isSubtype_type]; kernel_rfl)
theorem slot_map_iter : Slot "map" "__iter__" "map.__iter__" :=
  .of (owner := "map") (n := "__iter__") (by rw [typeLookup_type, builtinLookup_eq_fast]; kernel_rfl) (by decide +kernel) (by decide +kernel) (by decide +kernel)
    (by first | exact .inl (by decide +kernel) | exact .inr (by decide +kernel)) (by rw [isSubtype_type]; kernel_rfl)
theorem slot_map_init : Slot "map" "__init__" "object.__init__" :=
  .of (owner := "object") (n := "__init__") (by rw [typeLookup_type, builtinLookup_eq_fast]; kernel_rfl) (by decide +kernel) (by decide +kernel) (by decide +kernel)
    (by first | exact .inl (by decide +kernel) | exact .inr (by decide +kernel)) (by rw [isSubtype_type]; kernel_rfl)
theorem args_map_next (a : Value) : argsOk "map.__next__" ⟨[a], []⟩ := by
  unfold argsOk; rw [signature?_of (id := "map.__next__") (n := ['_', '_', 't', 'x', 'e', 'n', '_', '_']) (o := ['p', 'a', 'm']) (by kernel_rfl) plainAttrs_owner_map]; kernel_rfl
theorem args_map_iter (a : Value) : argsOk "map.__iter__" ⟨[a], []⟩ := by
  unfold argsOk; rw [signature?_of (id := "map.__iter__") (n := ['_', '_', 'r', 'e', 't', 'i', '_', '_']) (o := ['p', 'a', 'm']) (by kernel_rfl) plainAttrs_owner_map]; kernel_rfl
theorem entry_map_next : entryFor table "map.__next__" = some Builtin.«map.__next__» := entryFor_of_tree (by kernel_rfl)
theorem entry_map_new : entryFor table "map.__new__" = some Builtin.«map.__new__» := entryFor_of_tree (by kernel_rfl)
theorem entry_map_iter : entryFor table "map.__iter__" = some Builtin.«dict_keyiterator.__iter__» :=
  entryFor_alias (id' := "dict_keyiterator.__iter__") (by kernel_rfl) (by first | rfl | decide +kernel | (unfold String.splitOn; simp +decide [String.splitOnAux])) (by decide +kernel) (by kernel_rfl)
theorem mro_map : mroOf (.type "map") = pure [.type "map", .type "object"] := by rw [mroOf_type]; kernel_rfl
theorem lookup_map_new : typeLookup (.type "map") "__new__" = pure (some (.builtin "map.__new__")) := by rw [typeLookup_type, builtinLookup_eq_fast]; kernel_rfl
theorem called_map : TypeCalled "map" "map.__new__" "object.__init__" :=
  ⟨by decide +kernel, by decide +kernel, ⟨_, _, mro_map⟩, madeBy_type mro_map lookup_map_new (by decide +kernel), by decide +kernel, by rw [isSubtype_type]; kernel_rfl, slot_map_init⟩
theorem typeCall_map (a b : Value) : checkTypeCall "map" ⟨[a, b], []⟩ = pure () := by kernel_rfl
theorem newCall_map (a b : Value) : checkBuiltinCall "map.__new__" ⟨[.type "map", a, b], []⟩ = pure () := by kernel_rfl
theorem sub_map : isSubtype (.type "map") (.type "map") = pure true := by rw [isSubtype_type]; kernel_rfl
noncomputable abbrev mapObj (T : Addr) (f : Value) : Obj := { cls := .type "map", data := .fields #[.ref T, f] }
noncomputable abbrev mapH1 (h : Heap) (l : Addr) : Heap := h.push { cls := .type "list_iterator", data := .fields #[.ref l, .int 0 0] }
noncomputable abbrev mapH2 (h : Heap) (l : Addr) : Heap := (mapH1 h l).push { cls := .type "tuple", data := .seq #[.ref h.objs.size] }
noncomputable abbrev mapH3 (h : Heap) (l : Addr) (f : Value) : Heap := (mapH2 h l).push (mapObj (mapH1 h l).objs.size f)
theorem meets_map_new (l : Addr) (xs : Array Value) (f : Value) :
    Meets (Builtin.«map.__new__» ⟨[.type "map", f, .ref l], []⟩) (fun _ R s => s.heap.IsList l xs ∧ R (.ok (.ret (.ref (mapH2 s.heap l).objs.size))) { s with heap := mapH3 s.heap l f }) :=
  .of_wp fun prog w A R s h => by
    obtain ⟨hp, g, d, tk, os⟩ := s; obtain ⟨hl, h⟩ := h
    have hsub := sub_map
    have hL : Heap.IsList (Shared.heap ⟨hp, g, d, tk, os⟩) l xs := hl
    wp_walk using wpAny_pyIter_list hL
    exact ⟨_, rfl, h⟩
section
variable {prog : Program} {w : World} {A : Around} {E : Value → Shared → Prop} {s : Shared}
theorem call_map {l : Addr} {xs : Array Value} {f : Value} {Q : Value → Shared → Prop} (hl : s.heap.IsList l xs)
    (h : Q (.ref (s.heap.objs.size + 2)) { s with heap := mapH3 s.heap l f }) :
    wpAny (model prog w) A (call (.type "map") [f, .ref l]) Q E s := by
  refine callType_new called_map (by decide) (typeCall_map _ _) (newCall_map _ _) (fun obj => F.args_object_init_3 obj _ _) entry_map_new
    (meets_map_new l xs f) ⟨hl, ?_⟩
  have z1 : (mapH1 s.heap l).objs.size = s.heap.objs.size + 1 := Heap.size_push ..
  have z2 : (mapH2 s.heap l).objs.size = s.heap.objs.size + 2 := by rw [Heap.size_push, z1]
  have g3 : (mapH3 s.heap l f).get? (mapH2 s.heap l).objs.size = some _ := Heap.get?_push_size _ rfl
  show _ ∧ _
  rw [z2] at g3 ⊢
  exact ⟨⟨_, g3, rfl⟩, h⟩
theorem iter_map {m T : Addr} {f : Value} {Q : Value → Shared → Prop} (hm : s.heap.get? m = some (mapObj T f)) (h : Q (.ref m) s) : wpAny (model prog w) A (pyIter (.ref m)) Q E s := by
  have hT : s.TypeIs (.ref m) "map" := ⟨_, hm, rfl⟩
  refine wpAny_pyIter_slot hT slot_map_iter (wpAny_call_entry slot_map_iter hT entry_map_iter ?_ (args_map_iter _))
  show wpAny _ _ (ret (.ref m)) _ _ s
  exact wpAny_pure ⟨_, rfl, "map", _, hT, slot_map_next.lookup, h⟩
end
end piece_V3
section piece_V4
/-- a map object over one list, its iterator at place k -/
structure MapAt (h : Heap) (m T I l : Addr) (f : Value) (xs : Array Value) (k : Nat) : Prop where
  obj : h.get? m = some (mapObj T f)
  tup : h.get? T = some { cls := .type "tuple", data := .seq #[.ref I] }
  it : h.IsListIter I l k
  lst : h.IsList l xs
  nm : I ≠ m
  nT : I ≠ T
  nl : I ≠ l
theorem MapAt.next {h h' : Heap} {m T I l : Addr} {f : Value} {xs : Array Value} {k j : Nat} (x : MapAt h m T I l f xs k) (hi : h'.IsListIter I l j) (hs : Heap.ExtBut I h h') : MapAt h' m T I l f xs j :=
  ⟨hs _ _ x.nm.symm x.obj, hs _ _ x.nT.symm x.tup, hi, x.lst.extBut hs x.nl.symm, x.nm, x.nT, x.nl⟩
section
variable {prog : Program} {w : World} {A : Around} {E : Value → Shared → Prop} {s : Shared}
theorem tree_eq {α : Type} {M : Model} {t t' : Sem α} {Q : α → Shared → Prop} (e : t = t') (h : wpAny M A t' Q E s) : wpAny M A t Q E s := e ▸ h
theorem map_next_item {P : List (Code × Pos) → Prop} {c : Code} {m T I l : Addr} {f v : Value} {xs : Array Value} {k : Nat} {Q : Fin → Shared → Prop} (x : MapAt s.heap m T I l f xs k) (hx : xs[k]? = some v)
    (h : ∀ h1, h1.IsListIter I l (k + 1) → Heap.SameBut I s.heap h1 → wpBel (model prog w) A P c (call f [v]) (fun r s' => Q (.done (.ret r)) s') E { s with heap := h1 }) :
    wpBel (model prog w) A P c (Builtin.«map.__next__» ⟨[.ref m], []⟩) Q E s := by
  refine wpBel.of_eq (show Builtin.«map.__next__» ⟨[.ref m], []⟩ = (field (.ref m) 0 >>= fun f0 => seqItems? f0 >>= fun o => _) from rfl) ?_
  refine wpBel.bind (wpBel.any (wpAny_field x.obj rfl (x := .ref T) rfl ?_))
  refine wpBel.bind (wpBel.any (wpAny_seqItems x.tup rfl ?_))
  dsimp only
  simp only [List.forIn_cons, List.forIn_nil, Array.forIn_toList.symm]
  refine wpBel.bind ?_
  refine wpBel.any ?_
  refine wpAny_bind (wpAny_bind (wpAny_holding (wpAny_nextOf_list_item x.it x.lst hx fun h1 hi hs => ?_)))
  refine wpAny_pure (wpAny_pure ?_)
  have x' := x.next hi hs.extBut
  refine wpBel.bind (wpBel.any (wpAny_field x'.obj rfl (x := f) rfl ?_))
  refine wpBel.bind (wpBel.holding ?_)
  refine wpBel.mono (h h1 hi hs) (fun r s' hq => ?_) (fun _ _ e => e)
  refine wpBel.any (wpAny_bind (wpAny_letGo ?_))
  exact wpAny_pure hq
theorem wpBel.own {α : Type} {M : Model} {c : Code} {t : Sem α} {Q : α → Shared → Prop} (h : wpBel M A (fun _ => True) c t Q E s) : wpOwn M A c t Q E s := fun Γ p hc hΓ => h Γ p hc trivial hΓ
theorem call_entry_bel {T : String} {name : Str} {id : String} {b : Builtin} {self : Value} {rest : List Value} {Q : Value → Shared → Prop} (h : Slot T name id) (hT : s.TypeIs self T)
    (hb : entryFor table id = some b)
    (hc : wpBel (model prog w) A (fun _ => True) (.builtin id ⟨self :: rest, []⟩) (b ⟨self :: rest, []⟩) (fun fin s' => ∃ v, fin = .done (.ret v) ∧ Q v s') E s)
    (ha : argsOk id ⟨self :: rest, []⟩) :
    wpAny (model prog w) A (call (.builtin id) (self :: rest)) Q E s := by
  refine wpAny_call (codeAny_call_builtin_own (plainId_quiet h.plain _) hb (h.check _ _ _ _ _ _ _ _ hT ha (wpBel.own (wpBel.mono hc (fun fin s' h' => ?_) fun _ _ h' => h'))))
  obtain ⟨v, rfl, hv⟩ := h'
  exact hv
theorem map_next_end {m T I l : Addr} {f : Value} {xs : Array Value} {k : Nat} {Q : Fin → Shared → Prop} (hh : A.handled = none) (x : MapAt s.heap m T I l f xs k) (hx : xs[k]? = none)
    (hE : ∀ h' e, Heap.ExtBut I s.heap h' → (∃ o, h'.get? e = some o ∧ o.cls = .type "StopIteration") → E (.ref e) { s with heap := h' }) :
    wpAny (model prog w) A (Builtin.«map.__next__» ⟨[.ref m], []⟩) Q E s := by
  refine tree_eq (show Builtin.«map.__next__» ⟨[.ref m], []⟩ = (field (.ref m) 0 >>= fun f0 => seqItems? f0 >>= fun o => _) from rfl) ?_
  refine wpAny_bind (wpAny_field x.obj rfl (x := .ref T) rfl ?_)
  refine wpAny_bind (wpAny_seqItems x.tup rfl ?_)
  dsimp only
  simp only [List.forIn_cons, List.forIn_nil, Array.forIn_toList.symm]
  refine wpAny_bind ?_
  exact wpAny_bind (wpAny_bind (wpAny_holding (wpAny_nextOf_list_end hh x.it x.lst hx hE)))
theorem sub_ve_stop : isSubtype (.type "ValueError") (.type "StopIteration") = pure false := by rw [isSubtype_type]; kernel_rfl
section
variable {m T I l : Addr} {xs : Array Value} {k : Nat} {y : Str} {u : Tok} {Q : Option Value → Shared → Prop}
theorem next_map_good (x : MapAt s.heap m T I l (.type "int") xs k) (hx : xs[k]? = some (.str y u)) {n : Int} (hn : PySem.intText? y = some n) (hl : y.length ≤ 640)
    (h : ∀ h' t tk, MapAt h' m T I l (.type "int") xs (k + 1) → Heap.SameBut I s.heap h' → Q (some (.int n t)) { s with heap := h', toks := tk }) : wpAny (model prog w) A (pyNext (.ref m)) Q E s := by
  have hT : s.TypeIs (.ref m) "map" := ⟨_, x.obj, rfl⟩
  unfold pyNext
  refine wpAny_bind (wpAny_attempt (wpAny_callSpecial?_slot (name := Str.ofString "__next__") hT slot_map_next (call_entry_bel slot_map_next hT entry_map_next (map_next_item x hx fun h1 hi hs => ?_) (args_map_next _))))
  refine wpBel.any (KIN.call_text hn hl ⟨_, rfl, wpAny_pure ?_⟩)
  exact h h1 _ _ (x.next hi hs.extBut) hs
theorem next_map_bad (hh : A.handled = none) (x : MapAt s.heap m T I l (.type "int") xs k) (hx : xs[k]? = some (.str y u)) (hy : (reprText y).length ≤ 100000)
    (hs : (numSeenOf y).length ≤ 640) (hr : (int_private% "readNumeral") 0 10 (numSeenOf y) = (int_private% "Numeral.invalid"))
    (h : ∀ h1 h' tk e, MapAt h1 m T I l (.type "int") xs (k + 1) → Heap.SameBut I s.heap h1 → Heap.NewExc h1 h' e "ValueError" → E (.ref e) { s with heap := h', toks := tk }) : wpAny (model prog w) A (pyNext (.ref m)) Q E s := by
  have hT : s.TypeIs (.ref m) "map" := ⟨_, x.obj, rfl⟩
  unfold pyNext
  refine wpAny_bind (wpAny_attempt (wpAny_callSpecial?_slot (name := Str.ofString "__next__") hT slot_map_next (call_entry_bel slot_map_next hT entry_map_next (map_next_item x hx fun h1 hi hsb => ?_) (args_map_next _))))
  refine bel_call hh hy hs hr fun h' tk e hne => ?_
  obtain ⟨ob, t, he, hc, _⟩ := hne.there
  refine wpAny_bind (wpAny_isInstance (T := "ValueError") (b := false) ⟨ob, he, hc⟩ sub_ve_stop ?_)
  exact wpAny_throw (h h1 h' tk e (x.next hi hsb.extBut) hsb hne)
theorem next_map_end (hh : A.handled = none) (x : MapAt s.heap m T I l (.type "int") xs k) (hx : xs[k]? = none)
    (h : ∀ h', Heap.ExtBut I s.heap h' → Q none { s with heap := h' }) : wpAny (model prog w) A (pyNext (.ref m)) Q E s := by
  have hT : s.TypeIs (.ref m) "map" := ⟨_, x.obj, rfl⟩
  unfold pyNext
  refine wpAny_bind (wpAny_attempt (wpAny_callSpecial?_slot (name := Str.ofString "__next__") hT slot_map_next (wpAny_call_entry slot_map_next hT entry_map_next (map_next_end hh x hx fun h' e hk he => ?_) (args_map_next _))))
  obtain ⟨o, ho, hc⟩ := he
  refine wpAny_bind (wpAny_isInstance (T := "StopIteration") (b := true) ⟨o, ho, hc⟩ isSubtype_stop ?_)
  exact wpAny_pure (h _ hk)
end
end
end piece_V4
section piece_V5
open PySem.NumText
theorem al_find (c : Nat) (h : Sg c) : digS c = if 48 ≤ c ∧ c ≤ 57 then ((c - 48 : Nat) : Int) else -1 := by
  have h' : c = 97 ∨ c = 45 ∨ c = 46 ∨ c = 47 ∨ c = 48 ∨ c = 49 ∨ c = 50 ∨ c = 51 ∨ c = 52 ∨ c = 53 ∨ c = 54 ∨ c = 55 ∨ c = 56 ∨ c = 57 := by
    rcases h with h | h <;> omega
  rcases h' with h | h | h | h | h | h | h | h | h | h | h | h | h | h <;> (subst h; decide +kernel)
open Classical in
theorem numFold : ∀ (l : List Nat) (v : Nat), (∀ c ∈ l, Sg c) → l.foldl numStep (some (v : Int)) = if AllDigits l then some ((l.foldl (fun acc c => acc * 10 + (c - 48)) v : Nat) : Int) else none
  | [], v, _ => by
    rw [if_pos (show AllDigits [] from fun _ h => nomatch h)]; rfl
  | c :: r, v, h => by
    have hc := al_find c (h c (by simp))
    have hr : ∀ d ∈ r, Sg d := fun d hd => h d (List.mem_cons_of_mem _ hd)
    rw [List.foldl_cons, List.foldl_cons]
    by_cases hd : 48 ≤ c ∧ c ≤ 57
    · rw [if_pos hd] at hc
      have e : numStep (some (v : Int)) c = some ((v * 10 + (c - 48) : Nat) : Int) := by
        unfold numStep
        simp only [Option.bind_some, hc]
        rw [if_neg (by omega)]
        push_cast
        rfl
      rw [e, numFold r _ hr]
      have e2 : AllDigits (c :: r) ↔ AllDigits r := ⟨fun x => x.tail, fun x d hd' => by
        rcases List.mem_cons.mp hd' with rfl | h
        · exact hd
        · exact x d h⟩
      simp only [e2]
    · rw [if_neg hd] at hc
      have e : numStep (some (v : Int)) c = none := by
        unfold numStep
        simp only [Option.bind_some, hc]
        rfl
      rw [e, numStep_none, if_neg (fun x => hd x.head)]
theorem foldM_bad : ∀ (l : List Nat) (p : Array Nat × Bool), (∀ c ∈ l, Sg c) → ¬ AllDigits l → l.foldlM (step 10) p = none
  | [], _, _, h => absurd (fun _ h => nomatch h) h
  | c :: r, (ds, b), hs, hm => by
    rw [List.foldlM_cons]
    have hr : ∀ d ∈ r, Sg d := fun d hd => hs d (List.mem_cons_of_mem _ hd)
    by_cases hd : 48 ≤ c ∧ c ≤ 57
    · rw [step_digit hd]
      show r.foldlM (step 10) (ds.push (c - 48), true) = none
      exact foldM_bad r _ hr fun x => hm fun d hd' => by
        rcases List.mem_cons.mp hd' with rfl | h
        · exact hd
        · exact x d h
    · have e : step 10 (ds, b) c = none := by
        have h' : c = 97 ∨ c = 45 ∨ c = 46 ∨ c = 47 := by rcases hs c (by simp) with h | h <;> omega
        rcases h' with h | h | h | h <;> (subst h; rfl)
      rw [e]; rfl
theorem digits_bad {l : List Nat} (hs : ∀ c ∈ l, Sg c) (h : ¬ (AllDigits l ∧ l ≠ [])) : digits? 10 l = none := by
  by_cases hl : l = []
  · subst hl; rfl
  · unfold digits?
    rw [foldM_bad l _ hs (fun x => h ⟨x, hl⟩)]; rfl
theorem blank_drop {l : List Nat} (hs : ∀ c ∈ l, Sg c) : l.dropWhile blank = l := by
  cases l with
  | nil => rfl
  | cons c r => exact dropWhile_of (by rcases hs c (by simp) with h | h <;> omega)
theorem sign_al {l : List Nat} (hs : ∀ c ∈ l, Sg c) : (sign l).1 = decide (l[0]? = some 45) ∧ (sign l).2 = if l[0]? = some 45 then l.tail else l := by
  cases l with
  | nil => exact ⟨rfl, rfl⟩
  | cons c r =>
    by_cases h : c = 45
    · subst h; exact ⟨rfl, rfl⟩
    · have h2 : c ≠ 43 := by rcases hs c (by simp) with h | h <;> omega
      rw [sign_of h h2]
      simp [h]
theorem core_al {l : List Nat} (hs : ∀ c ∈ l, Sg c) : core l = if l[0]? = some 45 then l.tail else l := by
  unfold core
  rw [blank_drop hs, (sign_al hs).2]
  have h2 : ∀ c ∈ (if l[0]? = some 45 then l.tail else l), Sg c := by
    intro c hc
    split at hc
    · exact hs c (List.mem_of_mem_tail hc)
    · exact hs c hc
  rw [blank_drop (fun c hc => h2 c (List.mem_reverse.mp hc)), List.reverse_reverse]
theorem seen_al {y : Str} (h : Al y) : numTextOf y = cl y ∧ numSeenOf y = cl y := by
  have e1 : numTextOf y = cl y := by
    refine if_pos ?_
    rw [← Array.all_toList, List.all_eq_true]
    intro c hc
    exact decide_eq_true (by rcases h c hc with h | h <;> omega)
  refine ⟨e1, ?_⟩
  show (numTextOf y).takeWhile _ = _
  rw [e1]
  exact takeWhile_all fun c hc => bne_iff_ne.mpr (by rcases h c hc with h | h <;> omega)
theorem minus_iff (x : Str) : Txt.slice x none (some 1) = Str.ofString "-" ↔ (cl x)[0]? = some 45 := by
  have h1 : cl (Txt.slice x none (some ((1 : Nat) : Int))) = (cl x).take 1 := cl_to x 1
  have h2 : cl (Str.ofString "-") = [45] := by decide
  constructor
  · intro h
    have h3 : (cl x).take 1 = [45] := by rw [← h1, ← h2]; exact congrArg cl h
    have h4 : ((cl x).take 1)[0]? = some 45 := by rw [h3]; rfl
    rwa [List.getElem?_take, if_pos (by decide)] at h4
  · intro h
    apply cl_ext
    rw [h2]
    refine h1.trans ?_
    cases e : cl x with
    | nil => rw [e] at h; cases h
    | cons c r => rw [e] at h; simp at h; simp [h]
theorem figs_al (y : Str) : cl (figsS y) = if (cl y)[0]? = some 45 then (cl y).tail else cl y := by
  unfold figsS
  by_cases h : (cl y)[0]? = some 45
  · rw [if_pos ((minus_iff y).mpr h), if_pos h]
    rw [show (some 1 : Option Int) = some ((1 : Nat) : Int) from rfl, cl_from]
    cases cl y <;> rfl
  · rw [if_neg (fun e => h ((minus_iff y).mp e)), if_neg h]
theorem al_figs {y : Str} (h : Al y) : ∀ c ∈ (if (cl y)[0]? = some 45 then (cl y).tail else cl y), Sg c := by
  intro c hc
  split at hc
  · exact h c (List.mem_of_mem_tail hc)
  · exact h c hc
open Classical in
theorem numS_is {y : Str} (h : Al y) : numS y = if AllDigits (cl (figsS y)) ∧ cl (figsS y) ≠ [] then some (if (cl y)[0]? = some 45 then -((digitsVal (cl (figsS y)) : Nat) : Int) else ((digitsVal (cl (figsS y)) : Nat) : Int)) else none := by
  have hf := al_figs h
  rw [← figs_al] at hf
  unfold numS
  have e0 : (figsS y).length = 0 ↔ cl (figsS y) = [] := by rw [← cl_len]; exact List.length_eq_zero_iff
  by_cases h0 : cl (figsS y) = []
  · rw [if_pos (e0.mpr h0), if_neg (fun x => x.2 h0)]
  · rw [if_neg (fun e => h0 (e0.mp e)), show (some (0 : Int)) = some (((0 : Nat) : Int)) from rfl, numFold _ 0 hf]
    by_cases h1 : AllDigits (cl (figsS y))
    · rw [if_pos h1, if_pos ⟨h1, h0⟩]
      simp only [Option.map_some, minus_iff]
      rfl
    · rw [if_neg h1, if_neg (fun x => h1 x.1)]; rfl
theorem int_good {y : Str} {n : Int} (h : Al y) (hl : y.length ≤ 640) (hn : numS y = some n) : PySem.intText? y = some n := by
  rw [numS_is h] at hn
  split at hn
  · rename_i hd
    rw [figs_al] at hd hn
    by_cases hm : (cl y)[0]? = some 45
    · simp only [if_pos hm] at hd hn
      have e : y.cps.toList = 45 :: (cl y).tail := by
        show cl y = _
        cases hc : cl y with
        | nil => rw [hc] at hm; cases hm
        | cons c r => rw [hc] at hm; simp at hm; simp [hm]
      rw [intText_neg e hd.1 hd.2 (by omega)]
      exact hn
    · simp only [if_neg hm] at hd hn
      rw [intText_digits hd.1 hd.2 (by omega)]
      exact hn
  · cases hn
theorem int_bad {y : Str} (h : Al y) (hn : numS y = none) : (int_private% "readNumeral") 0 10 (numSeenOf y) = int_private% "Numeral.invalid" := by
  rw [(seen_al h).2, readNumeral_ten, core_al h]
  rw [numS_is h] at hn
  split at hn
  · cases hn
  · rename_i hd
    rw [figs_al] at hd
    rw [digits_bad (al_figs h) hd]
    rfl
theorem al_repr {y : Str} (h : Al y) (hl : y.length ≤ 1000) : (reprText y).length ≤ 100000 := by
  have := StrLaws.reprText_len y (fun c hc => by rcases h c hc with h | h <;> omega)
  omega
end piece_V5
section piece_V6
noncomputable def pairO : Option Int → Option Int → Option (Int × Int)
  | some p, some q => some (p, q)
  | _, _ => none
/-- two whole numbers out of the parts between dots -/
noncomputable def readL : List Str → Option (Int × Int)
  | [a, b] => pairO (numS a) (numS b)
  | _ => none
theorem ext_trans {I : Addr} {a b c : Heap} (x : Heap.ExtBut I a b) (y : Heap.ExtBut I b c) : Heap.ExtBut I a c := fun z o hz e => y z o hz (x z o hz e)
section
variable {prog : Program} {w : World} {A : Around} {E : Value → Shared → Prop} {s : Shared} {m T I l : Addr} {vs : List Value} {ys : List Str}
theorem map_step {k : Nat} {Q : Option Value → Shared → Prop} (hh : A.handled = none) (x : MapAt s.heap m T I l (.type "int") vs.toArray k) (hi : StrsAre vs ys) (hal : ∀ y ∈ ys, Al y ∧ y.length ≤ 640)
    (h0 : ys[k]? = none → ∀ h', Heap.ExtBut I s.heap h' → Q none { s with heap := h' })
    (h1 : ∀ y n, ys[k]? = some y → numS y = some n → ∀ h' t tk, MapAt h' m T I l (.type "int") vs.toArray (k + 1) → Heap.ExtBut I s.heap h' → Q (some (.int n t)) { s with heap := h', toks := tk })
    (h2 : ∀ y, ys[k]? = some y → numS y = none → ∀ h1 h' tk e, Heap.ExtBut I s.heap h1 → Heap.NewExc h1 h' e "ValueError" → E (.ref e) { s with heap := h', toks := tk }) :
    wpAny (model prog w) A (pyNext (.ref m)) Q E s := by
  cases hy : ys[k]? with
  | none =>
    have hv : vs.toArray[k]? = none := by
      rw [List.getElem?_toArray, List.getElem?_eq_none_iff, hi.length]
      exact List.getElem?_eq_none_iff.mp hy
    exact next_map_end hh x hv (h0 hy)
  | some y =>
    obtain ⟨u, hv⟩ := hi.at hy
    have hv' : vs.toArray[k]? = some (.str y u) := by rw [List.getElem?_toArray]; exact hv
    obtain ⟨ha, hl⟩ := hal y (List.mem_of_getElem? hy)
    cases hn : numS y with
    | some n => exact next_map_good x hv' (int_good ha hl hn) hl fun h' t tk x' hs => h1 y n hy hn h' t tk x' hs.extBut
    | none =>
      refine next_map_bad hh x hv' (al_repr ha (by omega)) ?_ (int_bad ha hn) fun h1 h' tk e x' hs hne => h2 y hy hn h1 h' tk e hs.extBut hne
      rw [(seen_al ha).2, cl_len]; exact hl
theorem ys_get2 (ys : List Str) : (∃ a b, ys = [a, b]) ∨ ys[0]? = none ∨ (∃ a, ys[0]? = some a ∧ ys[1]? = none) ∨ ∃ a b c, ys[0]? = some a ∧ ys[1]? = some b ∧ ys[2]? = some c := by
  match ys with
  | [] => exact .inr (.inl rfl)
  | [a] => exact .inr (.inr (.inl ⟨a, rfl, rfl⟩))
  | [a, b] => exact .inl ⟨a, b, rfl⟩
  | a :: b :: c :: r => exact .inr (.inr (.inr ⟨a, b, c, rfl, rfl, rfl⟩))
theorem readL_bad1 {a b : Str} (h : numS a = none) : readL [a, b] = none := by show pairO (numS a) (numS b) = none; rw [h]; rfl
theorem readL_bad2 {a b : Str} (h : numS b = none) : readL [a, b] = none := by show pairO (numS a) (numS b) = none; rw [h]; cases numS a <;> rfl
theorem readL_of_get {ys : List Str} : (ys[0]? = none → readL ys = none) ∧ (ys[1]? = none → readL ys = none) ∧ (∀ c, ys[2]? = some c → readL ys = none) ∧ (∀ a, ys[0]? = some a → numS a = none → readL ys = none) ∧ (∀ b, ys[1]? = some b → numS b = none → readL ys = none) ∧
    (∀ a b p q, ys[0]? = some a → ys[1]? = some b → ys[2]? = none → numS a = some p → numS b = some q → readL ys = some (p, q)) := by
  rcases ys with _ | ⟨a, _ | ⟨b, _ | ⟨c, r⟩⟩⟩
  · exact ⟨fun _ => rfl, fun _ => rfl, fun _ _ => rfl, fun _ _ _ => rfl, fun _ _ _ => rfl, fun _ _ _ _ h => nomatch h⟩
  · exact ⟨fun _ => rfl, fun _ => rfl, fun _ _ => rfl, fun _ _ _ => rfl, fun _ _ _ => rfl, fun _ _ _ _ _ h => nomatch h⟩
  · refine ⟨(fun h => nomatch h), (fun h => nomatch h), (fun _ h => nomatch h), fun x h hn => ?_, fun x h hn => ?_, fun x y p q h1 h2 _ hp hq => ?_⟩
    · cases h; exact readL_bad1 hn
    · cases h; exact readL_bad2 hn
    · cases h1; cases h2
      show pairO (numS a) (numS b) = _
      rw [hp, hq]; rfl
  · exact ⟨fun _ => rfl, fun _ => rfl, fun _ _ => rfl, fun _ _ _ => rfl, fun _ _ _ => rfl, fun _ _ _ _ _ _ h => nomatch h⟩
theorem short_text (n : Nat) (h : n < 2) : (Str.ofString (toString "not enough values to unpack (expected " ++ toString 2 ++ toString ", got " ++ toString n ++ toString ")")).length ≤ sizeLine := by
  rw [sizeLine_eq]
  have : n = 0 ∨ n = 1 := by omega
  rcases this with rfl | rfl <;> decide +kernel
theorem unpack_map {Q : List Value → Shared → Prop} (hh : A.handled = none) (x : MapAt s.heap m T I l (.type "int") vs.toArray 0) (hi : StrsAre vs ys) (hal : ∀ y ∈ ys, Al y ∧ y.length ≤ 640)
    (hq : ∀ p q, readL ys = some (p, q) → ∀ h' t1 t2 tk, Heap.ExtBut I s.heap h' → Q [.int p t1, .int q t2] { s with heap := h', toks := tk })
    (he : readL ys = none → ∀ h1 h' tk e, Heap.ExtBut I s.heap h1 → Heap.NewExc h1 h' e "ValueError" → E (.ref e) { s with heap := h', toks := tk }) :
    wpAny (model prog w) A (unpackItems (.ref m) 2 none) Q E s := by
  obtain ⟨hp, g, d, tk₀, os⟩ := s
  have hT : Shared.TypeIs ⟨hp, g, d, tk₀, os⟩ (.ref m) "map" := ⟨_, x.obj, rfl⟩
  obtain ⟨r0, r1, r2, r3, r4, r5⟩ := readL_of_get (ys := ys)
  unfold unpackItems
  refine wpAny_bind ?_
  unfold notIterableAtAll
  refine wpAny_bind (wpAny_specialOf hT slot_map_iter.lookup ?_)
  refine wpAny_ite_true rfl (wpAny_pure ?_)
  refine wpAny_ite_false (by decide) ?_
  refine wpAny_bind (wpAny_holding (iter_map x.obj ?_))
  refine wpAny_bind (wpAny_holding ?_)
  refine wpAny_bind (map_step hh x hi hal ?_ ?_ ?_)
  · intro h0 h' hk
    refine wpAny_pure ?_
    refine wpAny_ite_true (by decide) ?_
    refine wpAny_bind (wpAny_rule ?_)
    refine wpAny_bind (wpAny_raiseErrorMade plainExc_ValueError hh (fun h'' tk e hne => ?_) (short_text 0 (by decide)))
    exact he (r0 h0) h' h'' tk e hk hne
  · intro a p ha hna h1 t1 tk1 x1 k1
    refine wpAny_bind (wpAny_holding ?_)
    refine wpAny_bind (map_step hh x1 hi hal ?_ ?_ ?_)
    · intro h0 h' hk
      refine wpAny_pure (wpAny_pure ?_)
      refine wpAny_ite_true (by exact decide_eq_true (by show 1 < 2; decide)) ?_
      refine wpAny_bind (wpAny_rule ?_)
      refine wpAny_bind (wpAny_raiseErrorMade plainExc_ValueError hh (fun h'' tk e hne => ?_) (short_text 1 (by decide)))
      exact he (r1 h0) h' h'' tk e (ext_trans k1 hk) hne
    · intro b q hb hnb h2 t2 tk2 x2 k2
      refine wpAny_bind (wpAny_holding ?_)
      refine wpAny_pure (wpAny_pure (wpAny_pure ?_))
      refine wpAny_ite_false (by exact decide_eq_false (by show ¬ 2 < 2; decide)) ?_
      refine wpAny_bind (wpAny_holding (map_step hh x2 hi hal ?_ ?_ ?_))
      · intro h0 h' hk
        refine wpAny_ite_false (by decide) ?_
        refine wpAny_pure ?_
        exact hq p q (r5 a b p q ha hb h0 hna hnb) h' t1 t2 _ (ext_trans k1 (ext_trans k2 hk))
      · intro c n hc hnc h3 t3 tk3 x3 k3
        refine wpAny_ite_true rfl ?_
        refine wpAny_bind (wpAny_rule ?_)
        refine wpAny_bind (wpAny_raiseErrorMade plainExc_ValueError hh (fun h'' tk e hne => ?_) (by rw [sizeLine_eq]; decide +kernel))
        exact he (r2 c hc) h3 h'' tk e (ext_trans k1 (ext_trans k2 k3)) hne
      · intro c hc hnc h1' h' tk e k3 hne
        exact he (r2 c hc) h1' h' tk e (ext_trans k1 (ext_trans k2 k3)) hne
    · intro b hb hnb h1' h' tk e k2 hne
      exact he (r4 b hb hnb) h1' h' tk e (ext_trans k1 k2) hne
  · intro a ha hna h1 h' tk e k hne
    exact he (r3 a ha hna) h1 h' tk e k hne
end
end piece_V6
section piece_Q6
open PySem.NumText
theorem dot_is : (Str.ofString ".") = (⟨#[46]⟩ : Str) := by decide
theorem cnt_is_count (x : Str) : Txt.count x (Str.ofString ".") = (((Txt.split x (Str.ofString ".")).length : Nat) : Int) - 1 := by
  rw [dot_is, PyProof.Rows.split_len x 46, PyProof.Rows.count_cnt]; omega
theorem two_parts {x a b : Str} (h : Txt.split x (Str.ofString ".") = [a, b]) : cl x = cl a ++ 46 :: cl b ∧ 46 ∉ cl a ∧ 46 ∉ cl b := by
  have hj := StrLaws.join_split x (Str.ofString ".")
  rw [h] at hj
  have hf := StrLaws.split_free x 46
  rw [← dot_is, h] at hf
  refine ⟨?_, hf a (List.Mem.head _), hf b (List.Mem.tail _ (List.Mem.head _))⟩
  rw [← hj]
  show cl (a ++ Str.ofString "." ++ b) = _
  rw [cl_app, cl_app]
  have : cl (Str.ofString ".") = [46] := by decide
  rw [this]; simp
theorem parts_two {x a b : Str} (h : cl x = cl a ++ 46 :: cl b) (ha : 46 ∉ cl a) (hb : 46 ∉ cl b) : Txt.split x (Str.ofString ".") = [a, b] := by
  have hc : (((Txt.split x (Str.ofString ".")).length : Nat) : Int) = 2 := by
    rw [dot_is, PyProof.Rows.split_len x 46, show x.cps.toList = cl a ++ 46 :: cl b from h, PyProof.Rows.cnt_append, PyProof.Rows.cnt_cons, if_pos rfl, PyProof.Rows.cnt_none 46 _ ha, PyProof.Rows.cnt_none 46 _ hb]
    rfl
  rcases e : Txt.split x (Str.ofString ".") with _ | ⟨p, _ | ⟨q, _ | ⟨r, t⟩⟩⟩
  · rw [e] at hc; simp at hc
  · rw [e] at hc; simp at hc
  · obtain ⟨k1, k2, k3⟩ := two_parts e
    have key : ∀ (a b p q : List Nat), 46 ∉ a → 46 ∉ p → a ++ 46 :: b = p ++ 46 :: q → a = p ∧ b = q := by
      intro a
      induction a with
      | nil =>
        intro b p q _ hp h
        cases p with
        | nil => exact ⟨rfl, (List.cons.inj h).2⟩
        | cons c r => exact absurd (List.cons.inj h).1 (fun e => hp (by rw [← e]; exact List.Mem.head _))
      | cons c r ih =>
        intro b p q ha hp h
        cases p with
        | nil => exact absurd (List.cons.inj h).1 (fun e => ha (by rw [e]; exact List.Mem.head _))
        | cons d t =>
          obtain ⟨e1, e2⟩ := List.cons.inj h
          obtain ⟨e3, e4⟩ := ih b t q (fun m => ha (List.Mem.tail _ m)) (fun m => hp (List.Mem.tail _ m)) e2
          exact ⟨by rw [e1, e3], e4⟩
    obtain ⟨e1, e2⟩ := key _ _ _ _ ha k2 (h.symm.trans k1)
    rw [cl_ext e1, cl_ext e2]
  · rw [e] at hc; simp at hc; omega
/-- one dot between two whole numbers: both readings -/
theorem place_read (x : Str) : readL (Txt.split x (Str.ofString ".")) = placeS x := by
  have hc := cnt_is_count x
  rcases e : Txt.split x (Str.ofString ".") with _ | ⟨a, _ | ⟨b, _ | ⟨r, t⟩⟩⟩
  · rw [e] at hc; rw [place_none1 (by rw [hc]; simp)]; rfl
  · rw [e] at hc; rw [place_none1 (by rw [hc]; simp)]; rfl
  · rw [e] at hc
    obtain ⟨k1, k2, k3⟩ := two_parts e
    have hf : Txt.find x (Str.ofString ".") = ((cl a).length : Int) := by rw [dot_is]; exact find_at k1 k2
    have h1 : Txt.slice x none (some (Txt.find x (Str.ofString "."))) = a := cl_ext (by rw [hf, cl_to, k1, List.take_left' rfl])
    have h2 : Txt.slice x (some (Txt.find x (Str.ofString ".") + 1)) none = b := cl_ext (by
      rw [hf, show ((cl a).length : Int) + 1 = (((cl a).length + 1 : Nat) : Int) from rfl, cl_from, k1, show cl a ++ 46 :: cl b = (cl a ++ [46]) ++ cl b by simp, List.drop_left' (by simp)])
    unfold placeS
    rw [if_neg (by rw [hc]; simp), h1, h2]
    show pairO (numS a) (numS b) = _
    cases numS a <;> cases numS b <;> rfl
  · rw [e] at hc; rw [place_none1 (by rw [hc]; simp; omega)]; rfl
theorem place_split {x : Str} {p : Int × Int} (h : placeS x = some p) : ∃ a b, Txt.split x (Str.ofString ".") = [a, b] ∧ numS a = some p.1 ∧ numS b = some p.2 := by
  rw [← place_read] at h
  rcases e : Txt.split x (Str.ofString ".") with _ | ⟨a, _ | ⟨b, _ | ⟨r, t⟩⟩⟩
  · rw [e] at h; cases h
  · rw [e] at h; cases h
  · rw [e] at h
    refine ⟨a, b, rfl, ?_⟩
    have h' : pairO (numS a) (numS b) = some p := h
    cases ha : numS a <;> cases hb : numS b <;> rw [ha, hb] at h' <;> cases h'
    exact ⟨rfl, rfl⟩
  · rw [e] at h; cases h
/-- the signs of a whole number's text -/
noncomputable def dg (n : Nat) : List Nat := (Nat.toDigits 10 n).map Char.toNat
theorem dg_digits (n : Nat) : AllDigits (dg n) := by
  intro c hc
  obtain ⟨ch, hch, e⟩ := List.mem_map.mp hc
  have r := digit_range (Nat.isDigit_of_mem_toDigits (by decide) (by decide) hch)
  rw [← e]
  exact r
theorem dg_ne (n : Nat) : dg n ≠ [] := by
  intro e
  have h := toDigits_len_ge 10 n
  rw [List.map_eq_nil_iff.mp e] at h
  exact absurd h (by decide)
theorem num_signs (n : Int) : cl (Str.ofString (toString n)) = if n < 0 then 45 :: dg n.natAbs else dg n.natAbs := by
  cases n with
  | ofNat k =>
    rw [if_neg (by simp)]
    exact PySem.W.KIN.signs_num k
  | negSucc k =>
    rw [if_pos (by exact Int.negSucc_lt_zero k)]
    rw [show cl (Str.ofString (toString (Int.negSucc k))) = (toString (Int.negSucc k)).toList.map Char.toNat from PyProof.Rows.signs_ofString _]
    show ("-" ++ Nat.repr (k + 1)).toList.map Char.toNat = _
    rw [String.toList_append, List.map_append, Nat.toList_repr]
    rfl
theorem num_al (n : Int) : Al (Str.ofString (toString n)) := by
  intro c hc
  have hc' : c ∈ cl (Str.ofString (toString n)) := hc
  rw [num_signs] at hc'
  have hd : ∀ c ∈ dg n.natAbs, Sg c := fun c h => by have := dg_digits _ c h; exact .inr ⟨by omega, by omega⟩
  split at hc'
  · rcases List.mem_cons.mp hc' with rfl | h
    · exact .inr ⟨by decide, by decide⟩
    · exact hd c h
  · exact hd c hc'
theorem num_back (n : Int) : numS (Str.ofString (toString n)) = some n := by
  rw [numS_is (num_al n), figs_al, num_signs]
  have hne := dg_ne n.natAbs
  have h0 : (dg n.natAbs)[0]? ≠ some 45 := fun e => by
    have := dg_digits _ _ (List.mem_of_getElem? e)
    omega
  by_cases hn : n < 0
  · rw [if_pos hn]
    have e : (if (45 :: dg n.natAbs)[0]? = some 45 then (45 :: dg n.natAbs).tail else 45 :: dg n.natAbs) = dg n.natAbs := by simp
    refine (if_pos (by rw [e]; exact ⟨dg_digits _, hne⟩)).trans ?_
    rw [if_pos (by simp), e, show digitsVal (dg n.natAbs) = n.natAbs from PySem.W.KIN.val_back _]
    congr 1; omega
  · rw [if_neg hn, if_neg h0, if_neg h0, if_pos ⟨dg_digits _, hne⟩, show digitsVal (dg n.natAbs) = n.natAbs from PySem.W.KIN.val_back _]
    congr 1; omega
theorem num_nodot (n : Int) : 46 ∉ cl (Str.ofString (toString n)) := by
  intro hc
  rw [num_signs] at hc
  have hd : 46 ∉ dg n.natAbs := fun h => by have := dg_digits _ _ h; omega
  split at hc
  · rcases List.mem_cons.mp hc with h | h
    · exact absurd h (by decide)
    · exact hd h
  · exact hd hc
theorem num_noslash (n : Int) : 47 ∉ cl (Str.ofString (toString n)) := by
  intro hc
  rw [num_signs] at hc
  have hd : 47 ∉ dg n.natAbs := fun h => by have := dg_digits _ _ h; omega
  split at hc
  · rcases List.mem_cons.mp hc with h | h
    · exact absurd h (by decide)
    · exact hd h
  · exact hd hc
theorem dg_len {cs : List Nat} (hd : AllDigits cs) (hne : cs ≠ []) : (dg (digitsVal cs)).length ≤ cs.length := by
  unfold dg
  rw [List.length_map, toDigits_all cs hd]
  have hpos : 0 < cs.length := List.length_pos_iff.mpr hne
  have hle : (cs.dropWhile (· == 48)).length ≤ cs.length := (List.dropWhile_sublist _).length_le
  split
  · exact hpos
  · rename_i e
    rw [e] at hle
    simpa using hle
theorem num_len {x : Str} {n : Int} (ha : Al x) (h : numS x = some n) : (Str.ofString (toString n)).length ≤ x.length := by
  rw [numS_is ha] at h
  split at h
  · rename_i hh
    obtain ⟨hd, hne⟩ := hh
    have hl := dg_len hd hne
    have hf := figs_al x
    rw [← cl_len, num_signs, ← cl_len x]
    rw [hf] at hl
    by_cases h0 : (cl x)[0]? = some 45
    · rw [if_pos h0] at h hl
      cases h
      have hx : cl x = 45 :: (cl x).tail := by
        cases e : cl x with
        | nil => rw [e] at h0; cases h0
        | cons c r => rw [e] at h0; cases h0; rfl
      have hx2 := congrArg List.length hx
      rw [List.length_cons] at hx2
      rw [hf, if_pos h0]
      rw [show (-((digitsVal (cl x).tail : Nat) : Int)).natAbs = digitsVal (cl x).tail by omega]
      split
      · rw [List.length_cons]; omega
      · omega
    · rw [if_neg h0] at h hl
      cases h
      rw [hf, if_neg h0, if_neg (by omega), show (((digitsVal (cl x) : Nat) : Int)).natAbs = digitsVal (cl x) by omega]
      exact hl
  · cases h
/-- a name as the law writes it anew -/
noncomputable def wr (x : Str) : Str := match placeS x with
  | none => x
  | some p => Str.ofString (toString p.1) ++ Str.ofString "." ++ Str.ofString (toString p.2)
theorem cl_wr {x : Str} {p : Int × Int} (h : placeS x = some p) : cl (wr x) = cl (Str.ofString (toString p.1)) ++ 46 :: cl (Str.ofString (toString p.2)) := by
  unfold wr
  rw [h]
  show cl (Str.ofString (toString p.1) ++ Str.ofString "." ++ Str.ofString (toString p.2)) = _
  rw [cl_app, cl_app, show cl (Str.ofString ".") = [46] from by decide]; simp
theorem wr_none {x : Str} (h : placeS x = none) : wr x = x := by unfold wr; rw [h]
theorem place_wr (x : Str) : placeS (wr x) = placeS x := by
  cases h : placeS x with
  | none => rw [wr_none h, h]
  | some p =>
    rw [← place_read, parts_two (cl_wr h) (num_nodot _) (num_nodot _)]
    show pairO _ _ = _
    rw [num_back, num_back]
    rfl
theorem wr_al {x : Str} (ha : Al x) : Al (wr x) := by
  cases h : placeS x with
  | none => rw [wr_none h]; exact ha
  | some p =>
    intro c hc
    have hc' : c ∈ cl (wr x) := hc
    rw [cl_wr h] at hc'
    rcases List.mem_append.mp hc' with k | k
    · exact num_al _ c k
    · rcases List.mem_cons.mp k with rfl | k
      · exact .inr ⟨by decide, by decide⟩
      · exact num_al _ c k
theorem wr_len {x : Str} (ha : Al x) : (wr x).length ≤ x.length := by
  cases h : placeS x with
  | none => rw [wr_none h]; exact Nat.le_refl _
  | some p =>
    obtain ⟨a, b, hs, h1, h2⟩ := place_split h
    obtain ⟨k1, _, _⟩ := two_parts hs
    have l1 := num_len (fun c hc => ha c (show c ∈ cl x by rw [k1]; exact List.mem_append_left _ hc)) h1
    have l2 := num_len (fun c hc => ha c (show c ∈ cl x by rw [k1]; exact List.mem_append_right _ (List.Mem.tail _ hc))) h2
    rw [← cl_len, cl_wr h, ← cl_len x, k1, List.length_append, List.length_append, List.length_cons, List.length_cons, cl_len, cl_len, cl_len, cl_len]
    omega
theorem wr_free {x : Str} (hx : 47 ∉ cl x) : 47 ∉ cl (wr x) := by
  cases h : placeS x with
  | none => rw [wr_none h]; exact hx
  | some p =>
    rw [cl_wr h]
    intro hc
    rcases List.mem_append.mp hc with k | k
    · exact num_noslash _ k
    · rcases List.mem_cons.mp k with e | k
      · exact absurd e (by decide)
      · exact num_noslash _ k
theorem cl_num_ne (n : Int) : ∃ c r, cl (Str.ofString (toString n)) = c :: r ∧ c ≠ 46 := by
  cases e : cl (Str.ofString (toString n)) with
  | nil =>
    rw [num_signs] at e
    split at e
    · cases e
    · exact absurd e (dg_ne _)
  | cons c r => exact ⟨c, r, rfl, fun h => num_nodot n (by rw [e, h]; exact List.Mem.head _)⟩
/-- what is written anew is no lone dot, no two dots, and not empty -/
theorem wr_head {x : Str} {p : Int × Int} (h : placeS x = some p) : wr x ≠ Str.ofString "" ∧ wr x ≠ Str.ofString "." ∧ wr x ≠ dd := by
  obtain ⟨c, r, e, hc⟩ := cl_num_ne p.1
  have hw : cl (wr x) = c :: (r ++ 46 :: cl (Str.ofString (toString p.2))) := by rw [cl_wr h, e]; rfl
  refine ⟨fun k => ?_, fun k => ?_, fun k => ?_⟩
  · rw [k, cl_empty] at hw; cases hw
  · rw [k, cl_dot] at hw; exact hc (List.cons.inj hw).1.symm
  · rw [k, cl_dd] at hw; exact hc (List.cons.inj hw).1.symm
theorem wr_dd : wr dd = dd := wr_none (by
  cases h : placeS dd with
  | none => rfl
  | some p => exact absurd (h.symm.trans (show placeS dd = none by decide +kernel)) (fun e => nomatch e))
end piece_Q6
section piece_Q7
theorem dw_all {p : Nat → Bool} : ∀ l : List Nat, (∀ c ∈ l, p c = true) → l.dropWhile p = []
  | [], _ => rfl
  | c :: r, h => by
    rw [List.dropWhile_cons, if_pos (h c (List.Mem.head _))]
    exact dw_all r fun d hd => h d (List.Mem.tail _ hd)
theorem dw_some {p : Nat → Bool} : ∀ l : List Nat, (∃ c ∈ l, p c = false) → ∃ c r, l.dropWhile p = c :: r ∧ p c = false
  | [], h => by obtain ⟨c, hc, _⟩ := h; cases hc
  | c :: r, h => by
    rw [List.dropWhile_cons]
    cases e : p c with
    | false => exact ⟨c, r, by rw [if_neg (by decide)], e⟩
    | true =>
      rw [if_pos rfl]
      refine dw_some r ?_
      obtain ⟨d, hd, h⟩ := h
      rcases List.mem_cons.mp hd with rfl | hd
      · rw [e] at h; cases h
      · exact ⟨d, hd, h⟩
theorem strip_dots (x : Str) : (Txt.stripChars x (Str.ofString ".")).length ≠ 0 ↔ ∃ c ∈ cl x, c ≠ 46 := by
  have e : (fun c => (Str.ofString ".").cps.contains c) = (fun c : Nat => c == 46) := by
    funext c
    have : (Str.ofString ".").cps = #[46] := by decide
    rw [this, Bool.eq_iff_iff]; simp
  rw [← cl_len]
  unfold Txt.stripChars
  rw [show (Str.ofString ".").cps.contains = (fun c => (Str.ofString ".").cps.contains c) from rfl, e, PyProof.Rows.stripBy_eq, cl_sub]
  unfold stripHi stripLo
  simp only [if_true]
  have hd : (cl x).drop ((cl x).takeWhile (· == 46)).length = (cl x).dropWhile (· == 46) := tw_drop _ _
  have hz : ((cl x).takeWhile (· == 46)).length + ((cl x).dropWhile (· == 46)).length = x.length := by
    rw [← List.length_append, List.takeWhile_append_dropWhile, cl_len]
  show (((cl x).drop ((cl x).takeWhile (· == 46)).length).take (x.length - (((cl x).drop ((cl x).takeWhile (· == 46)).length).reverse.takeWhile (· == 46)).length - ((cl x).takeWhile (· == 46)).length)).length ≠ 0 ↔ _
  rw [hd, List.length_take]
  constructor
  · intro h
    refine Classical.byContradiction fun hn => h ?_
    rw [dw_all (cl x) fun c hc => by
      have : ¬ c ≠ 46 := fun k => hn ⟨c, hc, k⟩
      simpa using this]
    simp
  · rintro ⟨c, hc, hne⟩
    obtain ⟨d, r, hdw, hd⟩ := dw_some (p := (· == 46)) (cl x) ⟨c, hc, by simpa using hne⟩
    rw [hdw] at hz ⊢
    have : ((d :: r).reverse.takeWhile (· == 46)).length ≤ r.length := by
      rw [List.reverse_cons]
      have key : ∀ l : List Nat, ((l ++ [d]).takeWhile (· == 46)).length ≤ l.length := by
        intro l
        induction l with
        | nil => simp [List.takeWhile_cons, hd]
        | cons a l ih =>
          rw [List.cons_append, List.takeWhile_cons]
          split
          · simp only [List.length_cons]; omega
          · simp
      have := key r.reverse
      rw [List.length_reverse] at this
      exact this
    rw [List.length_cons] at hz ⊢
    omega
noncomputable def lastS (ns : List Str) : Str := ns.getLast?.getD (Str.ofString "")
noncomputable def cutS (way last : Str) : Int := if Txt.rfind last (Str.ofString ".") > 0 ∧ (Txt.stripChars (Txt.slice last none (some (Txt.rfind last (Str.ofString ".")))) (Str.ofString ".")).length ≠ 0 then (way.length : Int) - last.length + Txt.rfind last (Str.ofString ".") else way.length
theorem pth_last {root : Str} {ns : List Str} (h : NamesOk root ns) : ∃ pre, cl (pth root ns) = pre ++ cl (lastS ns) ∧ (pre = [] ∨ ∃ p, pre = p ++ [47]) ∧ 47 ∉ cl (lastS ns) ∧ 46 ∉ cl root := by
  obtain ⟨j, _, h2, h3, h4⟩ := root_rep h.root_is
  have hr : 46 ∉ cl root := by rw [h2]; intro k; exact absurd (List.eq_of_mem_replicate k) (by decide)
  have hrep : ∀ j, (List.replicate j 47 = ([] : List Nat) ∨ ∃ p, List.replicate j 47 = p ++ [47]) := fun j => by
    cases j with
    | zero => exact .inl rfl
    | succ j => exact .inr ⟨List.replicate j 47, List.replicate_succ'⟩
  rcases List.eq_nil_or_concat ns with rfl | ⟨q, x, rfl⟩
  · refine ⟨cl root, ?_, h2 ▸ hrep j, by decide, hr⟩
    rw [cl_pth]; rfl
  · have e : lastS (q.concat x) = x := by unfold lastS; simp
    rw [e]
    rw [List.concat_eq_append] at h ⊢
    obtain ⟨hx1, hx2⟩ := h.free x (by simp)
    by_cases hq : q = []
    · subst hq
      exact ⟨cl root, by rw [cl_pth]; rfl, h2 ▸ hrep j, hx2, hr⟩
    · exact ⟨cl root ++ jn (q.map cl) ++ [47], by rw [cl_pth, List.map_append, List.map_singleton, jn_snoc _ _ (by simpa using hq)]; simp, .inr ⟨_, rfl⟩, hx2, hr⟩
theorem sign_at (x : Str) (k : Nat) : Txt.slice x (some (k : Int)) (some ((k : Int) + 1)) = Str.ofString "." ↔ (cl x)[k]? = some 46 := by
  have e : Txt.slice x (some (k : Int)) (some ((k : Int) + 1)) = Txt.slice x (some (k : Int)) (some ((k + 1 : Nat) : Int)) := rfl
  have c1 : cl (Txt.slice x (some (k : Int)) (some ((k + 1 : Nat) : Int))) = ((cl x).drop k).take 1 := by
    rw [cl_slice, show k + 1 - k = 1 by omega]
  rw [e]
  have hc : cl (Str.ofString ".") = [46] := by decide
  constructor
  · intro h
    rw [h, hc] at c1
    cases e2 : (cl x).drop k with
    | nil => rw [e2] at c1; cases c1
    | cons a r =>
      rw [e2] at c1
      have : a = 46 := (List.cons.inj c1).1.symm
      subst this
      have := congrArg (·[0]?) e2
      simpa using this
  · intro h
    refine cl_ext ?_
    rw [c1, hc]
    obtain ⟨hlt, he⟩ := List.getElem?_eq_some_iff.mp h
    rw [List.drop_eq_getElem_cons hlt, he]
    rfl
theorem sx_inv {x b e : Str} (h : sxR x b e) : (∃ k : Int, Txt.rfind x (Str.ofString "/") < k ∧ k < Txt.rfind x (Str.ofString ".") ∧ (Txt.slice x (some k) (some (k + 1)) != Str.ofString ".") = true ∧ b = Txt.slice x none (some (Txt.rfind x (Str.ofString "."))) ∧ e = Txt.slice x (some (Txt.rfind x (Str.ofString "."))) none) ∨
    ((∀ j, Txt.rfind x (Str.ofString "/") < j → j < Txt.rfind x (Str.ofString ".") → Txt.slice x (some j) (some (j + 1)) = Str.ofString ".") ∧ b = x ∧ e = Txt.slice x none (some 0)) := by
  cases h with
  | cut k h1 h2 h => exact .inl ⟨k, h1, h2, h, rfl, rfl⟩
  | whole h => exact .inr ⟨h, rfl, rfl⟩
theorem last_dot : ∀ l : List Nat, 46 ∈ l → ∃ u v, l = u ++ 46 :: v ∧ 46 ∉ v := by
  intro l
  induction l with
  | nil => intro h; cases h
  | cons c r ih =>
    intro h
    by_cases hr : 46 ∈ r
    · obtain ⟨u, v, e1, e2⟩ := ih hr
      exact ⟨c :: u, v, by rw [e1]; rfl, e2⟩
    · rcases List.mem_cons.mp h with rfl | h
      · exact ⟨[], r, rfl, hr⟩
      · exact absurd h hr
set_option maxHeartbeats 1000000 in
/-- the extension of a path is cut where the last name says -/
theorem sx_law {root : Str} {ns : List Str} (h : NamesOk root ns) {b e : Str} (hs : sxR (pth root ns) b e) : b = Txt.slice (pth root ns) none (some (cutS (pth root ns) (lastS ns))) ∧ e = Txt.slice (pth root ns) (some (cutS (pth root ns) (lastS ns))) none := by
  obtain ⟨pre, hw, hpre, hfree, _⟩ := pth_last h
  generalize pth root ns = way at hw hs ⊢
  generalize lastS ns = last at hw hfree ⊢
  have hlen : way.length = pre.length + last.length := by rw [← cl_len, hw, List.length_append, cl_len]
  have hsl : (Str.ofString "/") = (⟨#[47]⟩ : Str) := by decide
  have rs : Txt.rfind way (Str.ofString "/") = (pre.length : Int) - 1 := by
    rw [hsl]
    rcases hpre with rfl | ⟨p, rfl⟩
    · rw [rfind_none (by rw [hw]; simpa using hfree)]; rfl
    · rw [rfind_at (a := p) (b := cl last) (by rw [hw]; simp) hfree, List.length_append]; simp
  have whole : ∀ b e, (b = way ∧ e = Txt.slice way none (some 0)) → cutS way last = way.length → b = Txt.slice way none (some (cutS way last)) ∧ e = Txt.slice way (some (cutS way last)) none := by
    rintro b e ⟨rfl, rfl⟩ hc
    rw [hc]
    refine ⟨cl_ext ?_, cl_ext ?_⟩
    · rw [cl_to, List.take_of_length_le (by rw [cl_len]; exact Nat.le_refl _)]
    · rw [cl_from, show (some 0 : Option Int) = some ((0 : Nat) : Int) from rfl, cl_to, List.drop_of_length_le (by rw [cl_len]; exact Nat.le_refl _)]; rfl
  by_cases hd : 46 ∈ cl last
  · -- the last name has a dot
    obtain ⟨u, v, huv, hv⟩ := last_dot _ hd
    have ra : Txt.rfind last (Str.ofString ".") = (u.length : Int) := by rw [dot_is]; exact rfind_at huv hv
    have rw' : Txt.rfind way (Str.ofString ".") = ((pre.length + u.length : Nat) : Int) := by
      rw [dot_is, rfind_at (a := pre ++ u) (b := v) (by rw [hw, huv]; simp) hv, List.length_append]
    have hll : last.length = u.length + 1 + v.length := by rw [← cl_len, huv]; simp; omega
    have hsl2 : cl (Txt.slice last none (some (u.length : Int))) = u := by rw [cl_to, huv, List.take_left' rfl]
    have dotAt : ∀ i, i < u.length → ((cl way)[pre.length + i]? = some 46 ↔ u[i]? = some 46) := fun i hi => by
      rw [hw, huv, List.getElem?_append_right (by omega), show pre.length + i - pre.length = i by omega, List.getElem?_append_left hi]
    by_cases hu : ∃ c ∈ u, c ≠ 46
    · have hpos : 0 < u.length := by obtain ⟨c, hc, _⟩ := hu; exact List.length_pos_of_mem hc
      have hc : cutS way last = ((pre.length + u.length : Nat) : Int) := by
        unfold cutS
        rw [ra, if_pos ⟨by omega, (strip_dots _).mpr (by rw [hsl2]; exact hu)⟩, hlen]
        omega
      rcases sx_inv hs with ⟨k, h1, h2, hk, hb, he⟩ | ⟨hk, hb, he⟩
      · rw [hc, ← rw']; exact ⟨hb, he⟩
      · obtain ⟨c, hcu, hne⟩ := hu
        obtain ⟨i, hi⟩ := List.mem_iff_getElem?.mp hcu
        have hil := (List.getElem?_eq_some_iff.mp hi).1
        have := hk ((pre.length + i : Nat) : Int) (by rw [rs]; omega) (by rw [rw']; omega)
        have := (dotAt i hil).mp ((sign_at way (pre.length + i)).mp this)
        rw [hi] at this
        exact absurd (Option.some.inj this) hne
    · have hall : ∀ i, i < u.length → u[i]? = some 46 := fun i hi => by
        rw [List.getElem?_eq_getElem hi]
        have : ¬ u[i] ≠ 46 := fun k => hu ⟨u[i], List.getElem_mem hi, k⟩
        simpa using this
      have hc : cutS way last = way.length := by
        unfold cutS
        rw [ra, if_neg fun hh => hu (by have := (strip_dots _).mp hh.2; rw [hsl2] at this; exact this)]
      rcases sx_inv hs with ⟨k, h1, h2, hk, hb, he⟩ | ⟨hk, hb, he⟩
      · rw [rs] at h1
        rw [rw'] at h2
        obtain ⟨i, rfl⟩ : ∃ i : Nat, k = ((pre.length + i : Nat) : Int) := ⟨(k - pre.length).toNat, by omega⟩
        have hil : i < u.length := by omega
        have := (sign_at way (pre.length + i)).mpr ((dotAt i hil).mpr (hall i hil))
        have this' : Txt.slice way (some (((pre.length + i : Nat) : Int))) (some (((pre.length + i : Nat) : Int) + 1)) = Str.ofString "." := this
        rw [this'] at hk
        exact absurd hk (by decide)
      · exact whole _ _ ⟨hb, he⟩ hc
  · have ra : Txt.rfind last (Str.ofString ".") = -1 := by rw [dot_is]; exact rfind_none hd
    have hc : cutS way last = way.length := by
      unfold cutS
      rw [ra, if_neg (by omega)]
    rcases sx_inv hs with ⟨k, h1, h2, hk, hb, he⟩ | ⟨hk, hb, he⟩
    · exfalso
      rw [rs] at h1
      have hle : Txt.rfind way (Str.ofString ".") ≤ (pre.length : Int) - 1 := by
        rw [dot_is]
        by_cases hp : 46 ∈ pre
        · obtain ⟨u, v, e1, e2⟩ := last_dot _ hp
          rw [rfind_at (a := u) (b := v ++ cl last) (by rw [hw, e1]; simp) (by simp [e2, hd]), e1, List.length_append, List.length_cons]
          omega
        · rw [rfind_none (by rw [hw]; simp [hp, hd])]; omega
      omega
    · exact whole _ _ ⟨hb, he⟩ hc
end piece_Q7
section piece_Q8
theorem straight_wr {root : Str} {ps : List Str} (h : Straight root ps) : Straight root (ps.map wr) := by
  obtain ⟨k, ns, e, hns, hk⟩ := h.form
  refine ⟨h.root_is, ⟨k, ns.map wr, ?_, ?_, hk⟩, ?_⟩
  · rw [e, List.map_append, List.map_replicate, wr_dd]
  · intro n hn
    obtain ⟨x, hx, rfl⟩ := List.mem_map.mp hn
    cases hp : placeS x with
    | none => rw [wr_none hp]; exact hns x hx
    | some p =>
      obtain ⟨h1, h2, h3⟩ := wr_head hp
      exact ⟨h3, okp_iff.mpr ⟨fun e => h1 (len_zero.mp e), h2⟩⟩
  · intro n hn
    obtain ⟨x, hx, rfl⟩ := List.mem_map.mp hn
    exact wr_free (h.free x hx)
theorem names_wr (root : Str) (ps : List Str) : (namesOf root ps).map wr = namesOf root (ps.map wr) := by
  unfold namesOf
  by_cases h : ps ≠ [] ∨ root ≠ Str.ofString ""
  · rw [if_pos h, if_pos (h.elim (fun h => .inl (by simpa using h)) .inr)]
  · have : ps = [] := Classical.byContradiction fun k => h (.inl k)
    subst this
    rw [if_neg h, if_neg (by simpa using h)]
    rw [List.map_singleton, wr_none (by decide +kernel)]
theorem jn_cons {x : List Nat} {l : List (List Nat)} (h : l ≠ []) : jn (x :: l) = x ++ 47 :: jn l := by
  cases l with
  | nil => exact absurd rfl h
  | cons y r => rfl
theorem joins_on : ∀ (W : List Str) (a : Str), (∀ n ∈ W, cl n ≠ [] ∧ 47 ∉ cl n) →
    ((cl a = [] ∨ (cl a).getLast? = some 47) → cl (joinS a W) = cl a ++ jn (W.map cl)) ∧ ((cl a ≠ [] ∧ (cl a).getLast? ≠ some 47) → cl (joinS a W) = cl a ++ (if W = [] then [] else 47 :: jn (W.map cl)))
  | [], a, _ => ⟨fun _ => (List.append_nil _).symm, fun _ => (List.append_nil _).symm⟩
  | w :: r, a, h => by
    obtain ⟨hw1, hw2⟩ := h w (List.Mem.head _)
    have hr := fun n hn => h n (List.Mem.tail _ hn)
    have h0 : (cl w)[0]? ≠ some 47 := fun e => hw2 (List.mem_of_getElem? e)
    have hl : (cl w).getLast? ≠ some 47 := fun e => hw2 (List.mem_of_getLast? e)
    have step : joinS a (w :: r) = joinS (joinStep a w) r := rfl
    have ne : ∀ p, (p ++ cl w) ≠ [] ∧ (p ++ cl w).getLast? ≠ some 47 := fun p => ⟨by simp [hw1], by
      rw [List.getLast?_append]
      cases e : (cl w).getLast? with
      | none => exact absurd (List.getLast?_eq_none_iff.mp e) hw1
      | some c => rw [e] at hl; exact hl⟩
    have fin : ∀ p, p ++ cl w ++ (if r = [] then [] else 47 :: jn (r.map cl)) = p ++ jn ((w :: r).map cl) := fun p => by
      by_cases hr0 : r = []
      · subst hr0; simp [jn]
      · rw [if_neg hr0, List.map_cons, jn_cons (by simpa using hr0)]; simp
    constructor
    · intro ha
      have e1 : cl (joinStep a w) = cl a ++ cl w := by
        rw [cl_joinStep]
        unfold jstep
        rcases ha with ha | ha
        · rw [if_pos (.inr ha), ha]; rfl
        · by_cases hn : cl a = []
          · rw [if_pos (.inr hn), hn]; rfl
          · rw [if_neg (fun k => k.elim h0 hn), if_pos ha]
      rw [step, (joins_on r (joinStep a w) hr).2 (by rw [e1]; exact ne _), e1, fin]
    · intro ha
      have e1 : cl (joinStep a w) = (cl a ++ [47]) ++ cl w := by
        rw [cl_joinStep]
        unfold jstep
        rw [if_neg (fun k => k.elim h0 ha.1), if_neg ha.2]
        simp
      rw [step, (joins_on r (joinStep a w) hr).2 (by rw [e1]; exact ne _), e1, fin, if_neg (by simp)]
      simp
/-- names put behind a root by join -/
theorem join_pth {root : Str} {W : List Str} (h : NamesOk root W) : joinS root W = pth root W := by
  refine cl_ext ?_
  rw [cl_pth]
  refine (joins_on W root h.free).1 ?_
  rcases h.root_is with rfl | rfl | rfl
  · exact .inl cl_empty
  · exact .inr (by decide)
  · exact .inr (by decide)
theorem numStep_slash : ∀ (l : List Nat) (acc : Option Int), 47 ∈ l → l.foldl numStep acc = none
  | c :: r, acc, h => by
    rw [List.foldl_cons]
    by_cases hc : c = 47
    · subst hc
      have : numStep acc 47 = none := by
        cases acc with
        | none => rfl
        | some v => exact if_pos (by decide +kernel)
      rw [this, numStep_none]
    · exact numStep_slash r _ ((List.mem_cons.mp h).resolve_left (fun e => hc e.symm))
theorem num_slash {x : Str} (h : 47 ∈ cl x) : numS x = none := by
  have hf : 47 ∈ cl (figsS x) := by
    rw [figs_al]
    split
    · rename_i h0
      cases e : cl x with
      | nil => rw [e] at h; cases h
      | cons c r =>
        rw [e] at h h0
        cases h0
        exact (List.mem_cons.mp h).resolve_left (by decide)
    · exact h
  unfold numS
  split
  · rfl
  · rw [numStep_slash _ _ hf]; rfl
theorem place_slash {x : Str} (h : 47 ∈ cl x) : placeS x = none := by
  cases e : placeS x with
  | none => rfl
  | some p =>
    obtain ⟨a, b, hs, h1, h2⟩ := place_split e
    obtain ⟨k1, _, _⟩ := two_parts hs
    rw [k1] at h
    rcases List.mem_append.mp h with h | h
    · rw [num_slash h] at h1; cases h1
    · rw [num_slash ((List.mem_cons.mp h).resolve_left (by decide))] at h2; cases h2
/-- the whole path is a place just where it is one name behind no root -/
theorem place_way {root : Str} {ns : List Str} (h : NamesOk root ns) (hne : ns ≠ [] ∨ root ≠ Str.ofString "") : placeS (pth root ns) = if ns.length = 1 ∧ root = Str.ofString "" then placeS (ns.headD Str.empty) else none := by
  split
  · rename_i hh
    obtain ⟨h1, rfl⟩ := hh
    rcases ns with _ | ⟨a, _ | ⟨b, r⟩⟩
    · simp at h1
    · congr 1
      refine cl_ext ?_
      rw [cl_pth]
      rfl
    · simp at h1
  · rename_i hh
    refine place_slash ?_
    rw [cl_pth]
    by_cases hr : root = Str.ofString ""
    · refine List.mem_append_right _ ?_
      rcases ns with _ | ⟨a, _ | ⟨b, r⟩⟩
      · exact absurd rfl (hne.resolve_right (fun k => k hr))
      · exact absurd ⟨rfl, hr⟩ hh
      · show 47 ∈ cl a ++ 47 :: jn (cl b :: r.map cl)
        simp
    · refine List.mem_append_left _ ?_
      rcases h.root_is with rfl | rfl | rfl
      · exact absurd rfl hr
      · decide
      · decide
theorem rl_pth {root : Str} {ps : List Str} (h : Straight root ps) : rl (pth root (namesOf root ps)) = ps := by
  obtain ⟨h1, h2⟩ := pth_root h.names
  apply map_cl_inj
  rw [rl_map, ← nz_drop _ (rootS (pth root (namesOf root ps))).length (by rw [rootS_is]; exact rt_len _), ← tailS_is, h2, cl_join]
  unfold namesOf
  split
  · by_cases hp : ps = []
    · subst hp; rfl
    · rw [sp_jn _ (by simpa using hp) (fun p hp => by
        obtain ⟨n, hn, rfl⟩ := List.mem_map.mp hp
        exact h.free n hn), ← nzS_map]
      congr 1
      exact List.filter_eq_self.mpr h.ok
  · rename_i hn
    have : ps = [] := Classical.byContradiction fun h => hn (.inl h)
    subst this
    decide +kernel
theorem starts_pth {root : Str} {ns : List Str} (h : NamesOk root ns) : Txt.startswith (pth root ns) (Str.ofString "/") = decide (root ≠ Str.ofString "") := by
  have hj : (jn (ns.map cl))[0]? ≠ some 47 := jn_head _ h.lists
  by_cases hr : root = Str.ofString ""
  · rw [decide_eq_false (by simpa using hr)]
    refine (starts_false _).mpr ?_
    rw [cl_pth, hr, cl_empty]
    exact hj
  · rw [decide_eq_true hr]
    refine (starts_iff _).mpr ?_
    rw [cl_pth]
    rcases h.root_is with rfl | rfl | rfl
    · exact absurd rfl hr
    · rw [cl_slash]; rfl
    · rw [show cl (Str.ofString "//") = [47, 47] by decide]; rfl
theorem alike_wr (root : Str) (ps : List Str) : alikeS ps (namesOf root (ps.map wr)) = alikeS ps (ps.map wr) := by
  cases ps with
  | nil => simp [alikeS]
  | cons a r =>
    unfold namesOf
    rw [if_pos (.inl (by simp))]
theorem dw_rep (j : Nat) {l : List Nat} (h : l[0]? ≠ some 47) : (List.replicate j 47 ++ l).dropWhile (· == 47) = l := by
  induction j with
  | zero =>
    cases l with
    | nil => rfl
    | cons c r =>
      show (c :: r).dropWhile (· == 47) = c :: r
      rw [List.dropWhile_cons, if_neg (by intro k; exact h (by rw [List.getElem?_cons_zero]; simpa using k))]
  | succ j ih =>
    rw [List.replicate_succ, List.cons_append, List.dropWhile_cons, if_pos (by decide)]
    exact ih
theorem tailL_pth {root : Str} {ps : List Str} (h : Straight root ps) : tailL (pth root ps) = ps := by
  obtain ⟨j, _, h2, _, _⟩ := root_rep h.root_is
  have hl : ∀ p ∈ ps.map cl, p ≠ [] ∧ 47 ∉ p := fun p hp => by
    obtain ⟨n, hn, rfl⟩ := List.mem_map.mp hp
    exact ⟨okp_ne (h.ok n hn), h.free n hn⟩
  have e : cl (Txt.lstripChars (pth root ps) (Str.ofString "/")) = jn (ps.map cl) := by
    rw [cl_lstrip, cl_pth, h2, dw_rep j (jn_head _ hl)]
  unfold tailL
  by_cases hp : ps = []
  · subst hp
    rw [if_pos (by rw [← cl_len, e]; rfl)]
  · have hn : jn (ps.map cl) ≠ [] := by
      obtain ⟨a, c, e1, _⟩ := jn_last (ps.map cl) (by simpa using hp) hl
      rw [e1]; simp
    rw [if_neg (by rw [← cl_len, e]; exact fun k => hn (List.length_eq_zero_iff.mp k))]
    apply map_cl_inj
    rw [cl_split, e, sp_jn _ (by simpa using hp) (fun p hp => (hl p hp).2)]
theorem relL_ok {V ps : List Str} (h : ∀ n ∈ ps, okp n = true) : ∀ n ∈ relL V ps, okp n = true := by
  intro n hn
  unfold relL at hn
  rcases List.mem_append.mp hn with k | k
  · rw [List.eq_of_mem_replicate k]; decide
  · exact h n (List.mem_of_mem_drop k)
theorem join_zero {L : List Str} (h : ∀ n ∈ L, okp n = true) : (Txt.join (Str.ofString "/") L).length = 0 ↔ L = [] := by
  rw [← cl_len, cl_join]
  constructor
  · intro e
    refine Classical.byContradiction fun hL => ?_
    cases L with
    | nil => exact hL rfl
    | cons a r =>
      have ha := okp_ne (h a (List.Mem.head _))
      cases r with
      | nil => exact ha (List.length_eq_zero_iff.mp e)
      | cons b r => rw [List.map_cons, jn_cons (by simp), List.length_append, List.length_cons] at e; omega
  · rintro rfl; rfl
theorem alike_take : ∀ x y : List Str, x.take (alikeS x y) = y.take (alikeS x y) := by
  intro x
  induction x with
  | nil => intro y; cases y <;> simp [alikeS]
  | cons c r ih =>
    intro y
    cases y with
    | nil => simp [alikeS]
    | cons d t =>
      unfold alikeS
      by_cases e : c = d
      · subst e
        rw [if_pos rfl]
        simp only [List.take_succ_cons, ih]
      · rw [if_neg e]; rfl
theorem pops {root : Str} (hr : root.length ≠ 0) : ∀ (k : Nat) (acc : List Str), (∀ n ∈ acc, n ≠ dd) → (List.replicate k dd).foldl (normStep root) acc = acc.take (acc.length - k)
  | 0, acc, _ => by simp
  | k + 1, acc, h => by
    have e : normStep root acc dd = acc.dropLast := by
      unfold normStep
      rw [if_neg (by rintro (k | k) <;> exact absurd k (by decide)), if_neg]
      rintro (k | k | k)
      · exact k rfl
      · exact hr k.1
      · exact h _ (List.mem_of_getLast? k.2) rfl
    rw [List.replicate_succ, List.foldl_cons, e, pops hr k _ (fun n hn => h n (List.dropLast_subset _ hn)), List.dropLast_eq_take, List.take_take, List.length_take]
    congr 1
    omega
theorem pushes {root : Str} : ∀ (ns acc : List Str), (∀ n ∈ ns, n ≠ dd ∧ okp n = true) → ns.foldl (normStep root) acc = acc ++ ns
  | [], acc, _ => by simp
  | c :: r, acc, hr => by
    obtain ⟨hc1, hc2⟩ := okp_iff.mp (hr c (List.Mem.head _)).2
    rw [List.foldl_cons, ns_app hc1 hc2 (.inl (hr c (List.Mem.head _)).1), pushes r _ (fun n hn => hr n (List.Mem.tail _ hn))]
    simp
theorem straight_abs {root : Str} {ps : List Str} (h : Straight root ps) (hr : root ≠ Str.ofString "") : ∀ n ∈ ps, n ≠ dd ∧ okp n = true := by
  obtain ⟨k, ns, rfl, hns, hk⟩ := h.form
  have : k = 0 := hk (fun e => hr (len_zero.mp e))
  subst this
  intro n hn
  exact hns n (by simpa using hn)
theorem names_abs {root : Str} {ps : List Str} (hr : root ≠ Str.ofString "") : namesOf root ps = ps := if_pos (.inr hr)
/-- the road from the path written anew to the old one -/
noncomputable def thereS (V ps : List Str) : Str := if relL V ps = [] then Str.ofString "." else Txt.join (Str.ofString "/") (relL V ps)
theorem rel_law {root : Str} {ps V : List Str} (h : Straight root ps) (hV : Straight root V) (hr : root ≠ Str.ofString "") : relS (pth root ps) (pth root V) = thereS V ps := by
  have n1 := norm_pth h
  have n2 := norm_pth hV
  rw [names_abs hr] at n1 n2
  unfold relS thereS
  rw [n1, n2, tailL_pth h, tailL_pth hV]
theorem rl_there {root : Str} {ps V : List Str} (h : Straight root ps) (hr : root ≠ Str.ofString "") : rl (thereS V ps) = relL V ps ∧ (cl (thereS V ps))[0]? ≠ some 47 := by
  have hok := relL_ok (V := V) h.ok
  have hfree : ∀ n ∈ relL V ps, 47 ∉ cl n := by
    intro n hn
    unfold relL at hn
    rcases List.mem_append.mp hn with k | k
    · rw [List.eq_of_mem_replicate k]; decide
    · exact h.free n (List.mem_of_mem_drop k)
  unfold thereS
  split
  · rename_i e
    rw [e]
    exact ⟨by decide +kernel, by decide⟩
  · rename_i e
    refine ⟨?_, ?_⟩
    · apply map_cl_inj
      rw [rl_map, cl_join, sp_jn _ (by simpa using e) (fun p hp => by
        obtain ⟨n, hn, rfl⟩ := List.mem_map.mp hp
        exact hfree n hn), ← nzS_map]
      congr 1
      exact List.filter_eq_self.mpr hok
    · rw [cl_join]
      exact jn_head _ fun p hp => by
        obtain ⟨n, hn, rfl⟩ := List.mem_map.mp hp
        exact ⟨okp_ne (hok n hn), hfree n hn⟩
theorem back_law {root : Str} {ps V : List Str} (h : Straight root ps) (hV : Straight root V) (hr : root ≠ Str.ofString "") (hl : V.length = ps.length) : normS (joinS (pth root V) [thereS V ps]) = pth root ps := by
  obtain ⟨r1, r2⟩ := rl_there (V := V) h hr
  have hrl : root.length ≠ 0 := fun e => hr (len_zero.mp e)
  have e0 : joinS (pth root V) [thereS V ps] = joinStep (pth root V) (thereS V ps) := rfl
  have pr : rootS (pth root V) = root := by have := (pth_root hV.names).1; rw [names_abs hr] at this; exact this
  have e1 : rootS (joinStep (pth root V) (thereS V ps)) = root := by rw [rootS_is, hs_step, if_neg r2, ← rootS_is, pr]
  have rv : rl (pth root V) = V := by have := rl_pth hV; rw [names_abs hr] at this; exact this
  have hle := alikeS_le V ps
  have e2 : normL (joinStep (pth root V) (thereS V ps)) = ps := by
    rw [normL_is, e1, rl_step, if_neg r2, rv, r1, List.foldl_append, hV.norm]
    unfold relL
    rw [List.foldl_append, show (Str.ofString "..") = dd from rfl, pops hrl _ _ (fun n hn => (straight_abs hV hr n hn).1), pushes _ _ (fun n hn => straight_abs h hr n (List.mem_of_mem_drop hn))]
    rw [show V.length - (V.length - alikeS V ps) = alikeS V ps by omega, alike_take, List.take_append_drop]
  rw [e0, normS_is e1 e2 h, names_abs hr]
end piece_Q8
section piece_Q9
theorem jn_length : ∀ l : List Str, l ≠ [] → (jn (l.map cl)).length + 1 = sumLen l + l.length
  | [], h => absurd rfl h
  | [a], _ => by
    show (cl a).length + 1 = _
    rw [cl_len, sumLen_cons, sumLen_nil]; rfl
  | a :: b :: r, _ => by
    have ih := jn_length (b :: r) (by simp)
    rw [List.map_cons, jn_cons (by simp), List.length_append, List.length_cons, cl_len, sumLen_cons, List.length_cons]
    omega
theorem pth_len (root : Str) (ns : List Str) : sumLen ns + ns.length ≤ (pth root ns).length + 1 ∧ (ns ≠ [] → (pth root ns).length + 1 = root.length + (sumLen ns + ns.length)) ∧ (ns = [] → (pth root ns).length = root.length) := by
  rw [← cl_len (pth root ns), cl_pth, List.length_append, cl_len]
  by_cases h : ns = []
  · subst h
    refine ⟨?_, fun k => absurd rfl k, fun _ => rfl⟩
    rw [sumLen_nil]; simp
  · have := jn_length ns h
    exact ⟨by omega, fun _ => by omega, fun k => absurd k h⟩
/-- what is known of a path that the law builds -/
structure Path (root : Str) (ps : List Str) : Prop where
  st : Straight root ps
  al : ∀ n ∈ namesOf root ps, Al n
  wl : (pth root (namesOf root ps)).length ≤ 240
theorem Path.sum {root : Str} {ps : List Str} (h : Path root ps) : sumLen (namesOf root ps) + (namesOf root ps).length ≤ 241 := by
  have := (pth_len root (namesOf root ps)).1
  have := h.wl
  omega
theorem mem_len {c : Str} {l : List Str} (h : c ∈ l) : c.length ≤ sumLen l := by
  obtain ⟨i, hi⟩ := List.mem_iff_getElem?.mp h
  exact len_mem hi
theorem Path.one {root : Str} {ps : List Str} (h : Path root ps) : ∀ n ∈ namesOf root ps, Al n ∧ n.length ≤ 640 := fun n hn => ⟨h.al n hn, by
  have := mem_len hn
  have := h.sum
  omega⟩
theorem Path.pieces {root : Str} {ps : List Str} (h : Path root ps) : sumLen ps + ps.length ≤ 241 := by
  have := h.sum
  unfold namesOf at this
  split at this
  · exact this
  · rename_i k
    have : ps = [] := Classical.byContradiction fun e => k (.inl e)
    subst this
    rw [sumLen_nil]; simp
theorem jn_al : ∀ l : List (List Nat), (∀ p ∈ l, ∀ c ∈ p, Sg c) → ∀ c ∈ jn l, Sg c
  | [], _, c, hc => nomatch hc
  | [a], h, c, hc => h a (List.Mem.head _) c hc
  | a :: b :: r, h, c, hc => by
    rw [jn_cons (by simp)] at hc
    rcases List.mem_append.mp hc with k | k
    · exact h a (List.Mem.head _) c k
    · rcases List.mem_cons.mp k with rfl | k
      · exact .inr ⟨by decide, by decide⟩
      · exact jn_al (b :: r) (fun p hp => h p (List.Mem.tail _ hp)) c k
theorem Path.way {root : Str} {ps : List Str} (h : Path root ps) : Al (pth root (namesOf root ps)) := by
  intro c hc
  have hc' : c ∈ cl (pth root (namesOf root ps)) := hc
  rw [cl_pth] at hc'
  rcases List.mem_append.mp hc' with k | k
  · obtain ⟨j, _, e, _, _⟩ := root_rep h.st.root_is
    rw [e] at k
    rw [List.eq_of_mem_replicate k]
    exact .inr ⟨by decide, by decide⟩
  · refine jn_al _ (fun p hp c hc => ?_) c k
    obtain ⟨n, hn, rfl⟩ := List.mem_map.mp hp
    exact h.al n hn c hc
theorem sum_wr : ∀ l : List Str, (∀ n ∈ l, Al n) → sumLen (l.map wr) ≤ sumLen l
  | [], _ => Nat.le_refl _
  | a :: r, h => by
    have h1 := wr_len (h a (List.Mem.head _))
    have h2 := sum_wr r fun n hn => h n (List.Mem.tail _ hn)
    rw [List.map_cons, sumLen_cons, sumLen_cons]; omega
theorem Path.wr {root : Str} {ps : List Str} (h : Path root ps) : Path root (ps.map wr) := by
  refine ⟨straight_wr h.st, ?_, ?_⟩
  · intro n hn
    rw [← names_wr] at hn
    obtain ⟨x, hx, rfl⟩ := List.mem_map.mp hn
    exact wr_al (h.al x hx)
  · rw [← names_wr]
    have h1 := sum_wr (namesOf root ps) h.al
    obtain ⟨_, a2, a3⟩ := pth_len root (namesOf root ps)
    obtain ⟨_, b2, b3⟩ := pth_len root ((namesOf root ps).map Mine.wr)
    have hw := h.wl
    by_cases e : namesOf root ps = []
    · rw [b3 (by rw [e]; rfl)]; have := a3 e; omega
    · have := a2 e
      have := b2 (by simpa using e)
      rw [List.length_map] at this
      omega
theorem spieces_al {xs : List Str} (h : ∀ x ∈ xs, Al x) : ∀ n ∈ spieces xs, Al n := by
  have hk : ∀ n ∈ (skept xs).1.reverse, n ∈ piecesS xs := by
    intro n hn
    rw [List.mem_reverse, skept_nz] at hn
    rcases back_mem _ _ (fun p hp => nzS_ok p (List.mem_reverse.mp hp)) n hn with h | ⟨h, h2⟩
    · cases h
    · rw [List.mem_reverse] at h
      exact (List.mem_filter.mp h).1
  intro n hn
  rw [spieces_form] at hn
  rcases List.mem_append.mp hn with hn | hn
  · rw [List.eq_of_mem_replicate hn]; decide
  · obtain ⟨x, hx, hm⟩ := List.mem_flatMap.mp (hk n hn)
    have hx' := h x (List.mem_of_mem_drop hx)
    intro c hc
    refine hx' c ?_
    have key : ∀ (ys : List Str), n ∈ ys → c ∈ cl (PySem.Str.join (Str.ofString "/") ys) := by
      intro ys
      rw [cl_sjoin]
      induction ys with
      | nil => intro h; cases h
      | cons a r ih =>
        intro hm
        by_cases hr : r = []
        · subst hr
          rw [List.mem_singleton.mp hm] at hc
          exact hc
        · rw [List.map_cons, jn_cons (by simpa using hr)]
          rcases List.mem_cons.mp hm with rfl | hm
          · exact List.mem_append_left _ hc
          · exact List.mem_append_right _ (List.Mem.tail _ (ih hm))
    have k := key _ hm
    rw [StrLaws.join_split] at k
    exact k
theorem path_of {p : Str} {r : List Str} (h : PartsOk 24 (p :: r)) : Path (sroot (p :: r)) (spieces (p :: r)) := by
  obtain ⟨_, h2, h3, h4⟩ := h
  refine ⟨spieces_straight _, ?_, ?_⟩
  · intro n hn
    unfold namesOf at hn
    split at hn
    · exact spieces_al h4 n hn
    · rw [List.mem_singleton.mp hn]; decide
  · rw [← law_way]
    have a1 := normS_len (joinS p r)
    have a2 := joinS_len r p
    rw [sumLen_cons] at h3
    rw [List.length_cons] at h2
    omega
end piece_Q9
section piece_L18
section
variable {M : Model} {A : Around} {E : Value → Shared → Prop} {s : Shared} {a : Sem Value} {Q : Value → Shared → Prop} {h₀ : Heap} {L : Addr} {m : Str → Option Value} {news : List (Addr × Obj)}
/-- the frame and the ledger stand as before -/
noncomputable def Here (h₀ : Heap) (L : Addr) (m : Str → Option Value) (news : List (Addr × Obj)) (s s' : Shared) : Prop := ∃ h' tk, s' = { s with heap := h', toks := tk } ∧ Fr h₀ L h' m ∧ News h₀ L h' news
noncomputable def TxtIn (h₀ : Heap) (L : Addr) (m : Str → Option Value) (news : List (Addr × Obj)) (x : Str) (s : Shared) (v : Value) (s' : Shared) : Prop := ∃ t, v = .str x t ∧ Here h₀ L m news s s'
noncomputable def IntIn (h₀ : Heap) (L : Addr) (m : Str → Option Value) (news : List (Addr × Obj)) (x : Int) (s : Shared) (v : Value) (s' : Shared) : Prop := ∃ t, v = .int x t ∧ Here h₀ L m news s s'
noncomputable def PlaceIn (h₀ : Heap) (L : Addr) (m : Str → Option Value) (news : List (Addr × Obj)) (p : Option (Int × Int)) (s : Shared) (v : Value) (s' : Shared) : Prop := PlIn v p news ∧ Here h₀ L m news s s'
theorem cut_txt (_F₀ : Fr h₀ L s.heap m) (_N₀ : News h₀ L s.heap news) (x : Str) (h1 : wpAny M A a (TxtIn h₀ L m news x s) E s)
    (h2 : ∀ t h' tk, Fr h₀ L h' m → News h₀ L h' news → Q (.str x t) { s with heap := h', toks := tk }) : wpAny M A a Q E s :=
  wpAny_mono h1 (fun v s' h => by obtain ⟨t, rfl, h', tk, rfl, F, N⟩ := h; exact h2 t h' tk F N) (fun _ _ h => h)
theorem cut_int (_F₀ : Fr h₀ L s.heap m) (_N₀ : News h₀ L s.heap news) (x : Int) (h1 : wpAny M A a (IntIn h₀ L m news x s) E s)
    (h2 : ∀ t h' tk, Fr h₀ L h' m → News h₀ L h' news → Q (.int x t) { s with heap := h', toks := tk }) : wpAny M A a Q E s :=
  wpAny_mono h1 (fun v s' h => by obtain ⟨t, rfl, h', tk, rfl, F, N⟩ := h; exact h2 t h' tk F N) (fun _ _ h => h)
noncomputable def NamesIn (h₀ : Heap) (L : Addr) (m : Str → Option Value) (news : List (Addr × Obj)) (Ys : List Str) (s : Shared) (v : Value) (s' : Shared) : Prop :=
  ∃ D ws k, v = .ref D ∧ StrsAre ws Ys ∧ Here h₀ L m ((D, listOf (List.toArray ws) k) :: news) s s'
theorem cut_names (_F₀ : Fr h₀ L s.heap m) (_N₀ : News h₀ L s.heap news) (Ys : List Str) (h1 : wpAny M A a (NamesIn h₀ L m news Ys s) E s)
    (h2 : ∀ D ws k h' tk, Fr h₀ L h' m → News h₀ L h' ((D, listOf (List.toArray ws) k) :: news) → StrsAre ws Ys → Q (.ref D) { s with heap := h', toks := tk }) : wpAny M A a Q E s :=
  wpAny_mono h1 (fun v s' h => by obtain ⟨D, ws, k, rfl, hi, h', tk, rfl, F, N⟩ := h; exact h2 D ws k h' tk F N hi) (fun _ _ h => h)
/-- a list of the ledger itself -/
theorem NamesIn.old {h' : Heap} {tk : Nat} {D : Addr} {ws : List Value} {k : Nat} {Ys Zs : List Str} (F : Fr h₀ L h' m) (N : News h₀ L h' news) (hm : (D, listOf ws.toArray k) ∈ news) (hi : StrsAre ws Zs) (e : Zs = Ys) : NamesIn h₀ L m news Ys s (.ref D) { s with heap := h', toks := tk } :=
  ⟨D, ws, k, rfl, e ▸ hi, h', tk, rfl, F, fun p hp => (List.mem_cons.mp hp).elim (fun e => e ▸ N _ hm) (N p)⟩
theorem NamesIn.new {h' : Heap} {tk : Nat} {D : Addr} {ws : List Value} {k : Nat} {Ys Zs : List Str} (F : Fr h₀ L h' m) (N : News h₀ L h' ((D, listOf ws.toArray k) :: news)) (hi : StrsAre ws Zs) (e : Zs = Ys) : NamesIn h₀ L m news Ys s (.ref D) { s with heap := h', toks := tk } :=
  ⟨D, ws, k, rfl, e ▸ hi, h', tk, rfl, F, N⟩
theorem cut_place (_F₀ : Fr h₀ L s.heap m) (_N₀ : News h₀ L s.heap news) (p : Option (Int × Int)) (h1 : wpAny M A a (PlaceIn h₀ L m news p s) E s)
    (h2 : ∀ v h' tk, PlIn v p news → Fr h₀ L h' m → News h₀ L h' news → Q v { s with heap := h', toks := tk }) : wpAny M A a Q E s :=
  wpAny_mono h1 (fun v s' h => by obtain ⟨hv, h', tk, rfl, F, N⟩ := h; exact h2 v h' tk hv F N) (fun _ _ h => h)
end
theorem straight_out {h h' : Heap} {r : Value} {p : Str} {q : List Str} (o : RootList h h' r (sroot (p :: q)) (spieces (p :: q))) (hP : PartsOk 24 (p :: q)) :
    ∃ R ps a b vs n t1, r = .ref a ∧ h.get? a = none ∧ h'.get? a = some (tupOf [.str R t1, .ref b]) ∧ h.get? b = none ∧ h'.get? b = some (listOf (List.toArray vs) n) ∧ StrsAre vs ps ∧ Path R ps ∧ normS (joinS p q) = pth R (namesOf R ps) ∧ R.length ≤ 2 ∧ vs.length ≤ 241 := by
  obtain ⟨a, b, vs, n, t1, h1, h2, h3, h4, h5, h6⟩ := o
  have hp := path_of hP
  have hl := hp.pieces
  have h7 := h6.length
  refine ⟨_, _, a, b, vs, n, t1, h1, h2, h3, h4, h5, h6, hp, law_way p q, ?_, by omega⟩
  rcases hp.st.root_is with e | e | e <;> rw [e] <;> decide
theorem names_yes1 {R : Str} {ps : List Str} (h : ps ≠ []) : ps = namesOf R ps := (if_pos (.inl h)).symm
theorem names_yes2 {R : Str} {ps : List Str} (h : (R.length : Int) ≠ 0) : ps = namesOf R ps := (if_pos (.inr fun e => h (by rw [e]; decide))).symm
theorem names_no {R : Str} {ps : List Str} (h1 : ps = []) (h2 : (R.length : Int) = 0) : [Str.ofString "."] = namesOf R ps := (if_neg (by rintro (h | h) <;> first | exact h h1 | exact h (len_zero.mp (by omega)))).symm
end piece_L18
section piece_L8
section
variable {prog : Program} {w : World} {A : Around} {R : Result → Shared → Prop} {s : Shared}
noncomputable def testsOf (ifs : List Expr) (env : Env) : Sem Bool := forIn ifs true fun c r => if r = true then do let ok ← isTrue c env (eval c env); pure (ForInStep.yield ok) else pure (ForInStep.yield r)
noncomputable abbrev NB (prog : Program) (w : World) (A : Around) (env : Env) (R : Result → Shared → Prop) : Value → Shared → Prop := notedBy (model prog w) A env fun e s' => R (.error e) s'
/-- one loop of a list comprehension, at any clause -/
theorem comp_loop {elt : Expr} {gens : List Comprehension} {scope : Scope} {pos : Pos} {depth : Nat} {tgt : Expr} {p : Pos} {ifs : List Expr} {emit : Sem Unit} {it acc : Value} {env : Env}
    (he : compTurn (.ListComp elt gens scope pos) depth it acc env = (do
      standAt p
      match ← pyNext it with
      | none => pure (.done .next)
      | some v =>
        letOwnedTupleGo tgt it v
        assign tgt env v
        let mut ok := true
        for c in ifs do
          if ok then ok ← isTrue c env (eval c env)
        if ok then emit
        again (.compLoop (.ListComp elt gens scope pos) depth it acc env)))
    (I : Nat → Shared → Prop)
    (turn : ∀ n s, I n s → wpAny (model prog w) A (pyNext it) (fun r s₁ => match r with
      | none => R (.ok .next) s₁
      | some v => wpAny (model prog w) A (letOwnedTupleGo tgt it v) (fun _ s₁' => wpAny (model prog w) A (assign tgt env v) (fun _ s₂ =>
          wpAny (model prog w) A (testsOf ifs env) (fun ok s₃ =>
            if ok = true then wpAny (model prog w) A emit (fun _ s₅ => ∃ m, m < n ∧ I m s₅) (NB prog w A env R) s₃
            else ∃ m, m < n ∧ I m s₃) (NB prog w A env R) s₂) (NB prog w A env R) s₁') (NB prog w A env R) s₁) (NB prog w A env R) s)
    (n : Nat) (h : I n s) : codeAny (model prog w) A (.compLoop (.ListComp elt gens scope pos) depth it acc env) R s := by
  refine codeAny_loop rfl I (fun n s hI => ?_) n h
  show wpAny _ A ((compTurn (.ListComp elt gens scope pos) depth it acc env).onRaise (fun x => do noteFrame x env; theTreesLotGoes x)) _ _ s
  refine wpAny_noted ?_
  rw [he]
  refine wpAny_bind (wpAny_standAt (wpAny_bind (wpAny_mono (turn n s hI) (fun r s₁ h₁ => ?_) fun _ _ h' => h')))
  cases r with
  | none => exact wpAny_pure h₁
  | some v =>
    refine wpAny_bind (wpAny_mono h₁ (fun _ s₁' h₁' => ?_) fun _ _ h' => h')
    refine wpAny_bind (wpAny_mono h₁' (fun _ s₂ h₂ => wpAny_bind (wpAny_mono h₂ (fun ok s₃ h₃ => ?_) fun _ _ h' => h')) fun _ _ h' => h')
    cases ok with
    | false => exact wpAny_pure ⟨rfl, h₃⟩
    | true => exact wpAny_bind (wpAny_mono h₃ (fun _ s₅ h₅ => wpAny_pure ⟨rfl, h₅⟩) fun _ _ h' => h')
/-- the second clause's loop is begun -/
theorem comp_start1 {elt t0 i0 t1 i1 : Expr} {f0 f1 : List Expr} {scope : Scope} {pos : Pos} {it acc : Value} {env : Env}
    (h0 : codeAny (model prog w) A (.compLoop (.ListComp elt [⟨t0, i0, f0, 0⟩, ⟨t1, i1, f1, 0⟩] scope pos) 1 it acc env) R s)
    (h : wpAny (model prog w) A (pyIter it) (fun it' s' => codeAny (model prog w) A (.compLoop (.ListComp elt [⟨t0, i0, f0, 0⟩, ⟨t1, i1, f1, 0⟩] scope pos) 1 it' acc env) R s') (NB prog w A env R) s) :
    codeAny (model prog w) A (.compStart (.ListComp elt [⟨t0, i0, f0, 0⟩, ⟨t1, i1, f1, 0⟩] scope pos) 1 it acc env) R s := by
  refine codeAny_of_tree ?_
  show wpAny _ _ ((compStart (.ListComp elt [⟨t0, i0, f0, 0⟩, ⟨t1, i1, f1, 0⟩] scope pos) 1 it acc env).onRaise (fun x => do noteFrame x env; standAt theWindowsPlace)) _ _ s
  refine wpAny_notedAt ?_
  unfold compStart
  show wpAny _ _ (ask >>= _) _ _ s
  refine wpAny_bind (wpAny_askSetting (wpAny_ite ?_))
  split
  · first
      | exact wpAny_bind (wpAny_pure (wpAny_pure (And.intro rfl h0)))
      | exact wpAny_pure (And.intro rfl h0)
  · refine wpAny_bind (wpAny_rule ?_)
    show wpAny _ _ (standAt i1.pos >>= _) _ _ s
    exact wpAny_bind (wpAny_standAt (wpAny_bind (wpAny_mono h (fun it' s' h' => wpAny_pure (And.intro rfl h')) fun _ _ x => x)))
end
section
variable {prog : Program} {w : World} {A : Around} {R : Result → Shared → Prop} {s : Shared}
theorem compTurn_two (elt t0 i0 t1 i1 : Expr) (f1 : List Expr) (scope : Scope) (pos : Pos) (it acc : Value) (env : Env) :
    compTurn (.ListComp elt [⟨t0, i0, [], 0⟩, ⟨t1, i1, f1, 0⟩] scope pos) 0 it acc env = (do
      standAt i0.pos
      match ← pyNext it with
      | none => pure (.done .next)
      | some v =>
        letOwnedTupleGo t0 it v
        assign t0 env v
        let v ← eval i1 env
        standAt i1.pos
        let v ← foldedSetIterable i1 env v
        let it1 ← holding [v] (pyIter v)
        let _ ← runOwn (.compStart (.ListComp elt [⟨t0, i0, [], 0⟩, ⟨t1, i1, f1, 0⟩] scope pos) 1 it1 acc env) env
        again (.compLoop (.ListComp elt [⟨t0, i0, [], 0⟩, ⟨t1, i1, f1, 0⟩] scope pos) 0 it acc env)) := by rfl
/-- the first clause's loop of a comprehension of two clauses -/
theorem comp_loop2 {elt t0 i0 t1 i1 : Expr} {f1 : List Expr} {scope : Scope} {pos : Pos} {it acc : Value} {env : Env} (I : Nat → Shared → Prop)
    (turn : ∀ n s, I n s → wpAny (model prog w) A (pyNext it) (fun r s₁ => match r with
      | none => R (.ok .next) s₁
      | some v => wpAny (model prog w) A (letOwnedTupleGo t0 it v) (fun _ s₁' => wpAny (model prog w) A (assign t0 env v) (fun _ s₂ =>
          wpAny (model prog w) A (eval i1 env) (fun v s₃ => wpAny (model prog w) A (foldedSetIterable i1 env v) (fun v s₃' => wpAny (model prog w) A (pyIter v) (fun it1 s₄ =>
            wpAny (model prog w) A (runOwn (.compStart (.ListComp elt [⟨t0, i0, [], 0⟩, ⟨t1, i1, f1, 0⟩] scope pos) 1 it1 acc env) env) (fun _ s₅ => ∃ m, m < n ∧ I m s₅) (NB prog w A env R) s₄)
            (NB prog w A env R) s₃') (NB prog w A env R) s₃) (NB prog w A env R) s₂) (NB prog w A env R) s₁') (NB prog w A env R) s₁) (NB prog w A env R) s)
    (n : Nat) (h : I n s) : codeAny (model prog w) A (.compLoop (.ListComp elt [⟨t0, i0, [], 0⟩, ⟨t1, i1, f1, 0⟩] scope pos) 0 it acc env) R s := by
  refine codeAny_loop rfl I (fun n s hI => ?_) n h
  show wpAny _ A ((compTurn (.ListComp elt [⟨t0, i0, [], 0⟩, ⟨t1, i1, f1, 0⟩] scope pos) 0 it acc env).onRaise (fun x => do noteFrame x env; theTreesLotGoes x)) _ _ s
  refine wpAny_noted ?_
  rw [compTurn_two]
  refine wpAny_bind (wpAny_standAt (wpAny_bind (wpAny_mono (turn n s hI) (fun r s₁ h₁ => ?_) fun _ _ h' => h')))
  cases r with
  | none => exact wpAny_pure h₁
  | some v =>
    refine wpAny_bind (wpAny_mono h₁ (fun _ s₁' h₁' => ?_) fun _ _ h' => h')
    refine wpAny_bind (wpAny_mono h₁' (fun _ s₂ h₂ => ?_) fun _ _ h' => h')
    refine wpAny_bind (wpAny_mono h₂ (fun v s₃ h₃ => ?_) fun _ _ h' => h')
    refine wpAny_bind (wpAny_standAt (wpAny_bind (wpAny_mono h₃ (fun v s₃' h₃' => ?_) fun _ _ h' => h')))
    refine wpAny_bind (wpAny_holding (wpAny_mono h₃' (fun it1 s₄ h₄ => ?_) fun _ _ h' => h'))
    exact wpAny_bind (wpAny_mono h₄ (fun _ s₅ h₅ => wpAny_pure ⟨rfl, h₅⟩) fun _ _ h' => h')
end
end piece_L8
section piece_L9
section
variable {prog : Program} {w : World} {A : Around} {s : Shared} {h₀ : Heap} {L : Addr} {m : Str → Option Value} {env : Env}
theorem fr_upd {h h' : Heap} {d : Addr} (F : Fr h₀ L h m) (hs : Heap.SameBut d h h') (hL : d ≠ L) (hn : h₀.get? d = none) : Fr h₀ L h' m := F.change hs hL hn
theorem nw_upd {h h' : Heap} {d : Addr} {news : List (Addr × Obj)} (N : News h₀ L h news) (hs : Heap.SameBut d h h') (off : ∀ p ∈ news, p.1 ≠ d) : News h₀ L h' news :=
  fun p hp => ⟨hs.extBut _ _ (off p hp) (N p hp).1, (N p hp).2⟩
inductive CIn (h₀ : Heap) (L : Addr) (m : Str → Option Value) (s : Shared) (C D : Addr) (l ys : List Value) (St : Nat → Heap → Prop) (news : List (Addr × Obj)) : Nat → Shared → Prop
  | mk (h' : Heap) (tk i : Nat) (m' : Str → Option Value) (hi : i ≤ l.length) (st : St i h') (F : Fr h₀ L h' m) (hn : h'.Ns C m') (N : News h₀ L h' ((D, LCg.lst (ys ++ l.take i)) :: news)) : CIn h₀ L m s C D l ys St news (l.length + 1 - i) { s with heap := h', toks := tk }
/-- the inner loop of a comprehension of two clauses: the items of a list are taken as they are -/
theorem comp_in {t0 i0 i1 : Expr} {f0 : List Expr} {y : Str} {py py' : Pos} {scope : Scope} {cl : List (Str × Addr)} {pos : Pos} {C D I1 : Addr} {fp1 : List Addr} {l : List Value} {St : Nat → Heap → Prop} {news : List (Addr × Obj)} {ys : List Value} {mC : Str → Option Value} {R : Result → Shared → Prop}
    (W : Walks prog w A I1 fp1 [I1] l.length (fun i v => l[i]? = some v) St) (hsz : ys.length + l.length ≤ 1000000)
    (hkind : scope.kind = .function) (hy : scope.names.lookup y = some .local) (hyd : (y == ("__debug__" : Str)) = false)
    (F : Fr h₀ L s.heap m) (hC : s.heap.Ns C mC) (N : News h₀ L s.heap ((D, LCg.lst ys) :: news)) (st : St 0 s.heap)
    (hCL : C ≠ L) (hC0 : h₀.get? C = none) (hCD : C ≠ D) (hCf : C ∉ fp1) (hDf : D ∉ fp1) (hIL : I1 ≠ L) (hI0 : h₀.get? I1 = none) (hIC : I1 ≠ C) (hID : I1 ≠ D)
    (off : ∀ p ∈ news, p.1 ≠ I1 ∧ p.1 ≠ C ∧ p.1 ≠ D)
    (hR : ∀ h tk mC', Fr h₀ L h m → h.Ns C mC' → News h₀ L h ((D, LCg.lst (ys ++ l)) :: news) → R (.ok .next) { s with heap := h, toks := tk }) :
    codeAny (model prog w) A (.compLoop (.ListComp (.Name y py) [⟨t0, i0, f0, 0⟩, ⟨.Name y py', i1, [], 0⟩] scope pos) 1 (.ref I1) (.ref D) (compEnvC scope cl C env)) R s := by
  have hDL : D ≠ L := (N _ (List.Mem.head _)).2.1
  have hD0 : h₀.get? D = none := (N _ (List.Mem.head _)).2.2
  refine comp_loop (tgt := .Name y py') (p := i1.pos) (ifs := []) (emit := do let _ ← call (.builtin "list.append") [.ref D, ← eval (.Name y py) (compEnvC scope cl C env)]) rfl
    (CIn h₀ L m s C D l ys St news) ?_ (l.length + 1)
    (.mk s.heap s.toks 0 mC (Nat.zero_le _) st F hC (by simpa using N))
  rintro k s' ⟨h', tk, i, m', hi, hst', F', hn', N'⟩
  by_cases hlt : i < l.length
  · refine W.item i _ _ _ hlt hst' fun v h₂ tk₂ hPv hst₂ hk₂ => ?_
    refine wpAny_of_eq (show letOwnedTupleGo (.Name y py') (.ref I1) v = pure () from rfl) ?_
    refine wpAny_assign_Name (wpAny_storeName_local (lookup_relabel_local hy) (hn'.at' fun o e => hk₂ _ o (by simpa using Ne.symm hIC) e) (fun h₃ hn₃ hs₃ => ?_) (by simp [compEnvC, relabel, hkind]))
    refine wpAny_tests_nil ?_
    simp only [if_true]
    have hst₃ : St (i + 1) h₃ := W.frame _ _ _ hst₂ fun b hb o e => hs₃.extBut b o (fun q => hCf (by have q' : b = C := q; rw [← q']; exact hb)) e
    have F₃ : Fr h₀ L h₃ m := (LCg.fr_but F' hk₂ (Ne.symm hIL) hI0).change hs₃ hCL hC0
    have N₂ : News h₀ L h₂ ((D, LCg.lst (ys ++ l.take i)) :: news) := LCg.news_but N' hk₂ fun p hp => by
      rcases List.mem_cons.mp hp with rfl | hp
      · exact Ne.symm hID
      · exact (off p hp).1
    have N₃ : News h₀ L h₃ ((D, LCg.lst (ys ++ l.take i)) :: news) := nw_upd N₂ hs₃ fun p hp => by
      rcases List.mem_cons.mp hp with rfl | hp
      · exact Ne.symm hCD
      · exact (off p hp).2.1
    refine wpAny_bind ?_
    refine ldVarK (v := v) hn₃ (by simp) ?_ hkind (lookup_relabel_local hy) hyd
    have htl : (ys ++ l.take i).length = ys.length + i := by rw [List.length_append, List.length_take]; omega
    refine wpAny_bind (append_at (hsz := by show (ys ++ l.take i).toArray.size ≤ sizeLine; rw [List.size_toArray, htl, sizeLine_eq]; omega) (N₃ _ (List.Mem.head _)).1 fun h₄ hs₄ hD₄ => wpAny_pure ?_)
    refine ⟨l.length + 1 - (i + 1), by omega, .mk h₄ _ (i + 1) _ hlt (W.frame _ _ _ hst₃ fun b hb o e => hs₄.extBut b o (fun q => hDf (q ▸ hb)) e) (F₃.change hs₄ hDL hD0) (hn₃.sameBut hs₄ hCD) fun p hp => ?_⟩
    rcases List.mem_cons.mp hp with rfl | hp
    · refine ⟨hD₄.trans (congrArg some ?_), hDL, hD0⟩
      rw [LCg.lst_snoc, List.append_assoc, List.take_add_one, hPv]
      rfl
    · exact nw_upd (fun q hq => N₃ q (List.Mem.tail _ hq)) hs₄ (fun q hq => (off q hq).2.2) p hp
  · obtain rfl : i = l.length := Nat.le_antisymm hi (Nat.not_lt.mp hlt)
    rw [List.take_length] at N'
    refine W.done _ _ _ hst' fun h₂ tk₂ hk₂ => ?_
    exact hR h₂ tk₂ m' (LCg.fr_but F' hk₂ (Ne.symm hIL) hI0) (hn'.at' fun o e => hk₂ _ o (by simpa using Ne.symm hIC) e) (LCg.news_but N' hk₂ fun p hp => by
      rcases List.mem_cons.mp hp with rfl | hp
      · exact Ne.symm hID
      · exact (off p hp).1)
inductive ItrIs (h₀ : Heap) (L : Addr) (m : Str → Option Value) (s : Shared) (news : List (Addr × Obj)) (I C D : Addr) (zs : List Str) (v : Value) (s₄ : Shared) : Prop
  | mk (D1 : Addr) (l : List Value) (k : Nat) (h' : Heap) (tk' : Nat) (e1 : v = .ref D1) (e2 : s₄ = { s with heap := h', toks := tk' }) (F : Fr h₀ L h' m) (N : News h₀ L h' news) (hD : h'.get? D1 = some (listOf l.toArray k)) (ne : I ≠ D1 ∧ C ≠ D1 ∧ D ≠ D1) (hl : StrsAre l zs) : ItrIs h₀ L m s news I C D zs v s₄
/-- what the second clause's iterable answers: a new list of texts -/
noncomputable def Itr1 (prog : Program) (w : World) (A : Around) (h₀ : Heap) (L : Addr) (m : Str → Option Value) (env : Env) (i1 : Expr) (x : Str) (scope : Scope) (cl : List (Str × Addr)) (s : Shared) (news : List (Addr × Obj)) (z : Str) (f : Str → List Str) : Prop :=
  ∀ t I oI C oC D ys m₂ h tk (E' : Value → Shared → Prop), LCg.NsObj oC m₂ → m₂ x = some (.str z t) → Fr h₀ L h m → News h₀ L h ((I, oI) :: (C, oC) :: (D, LCg.lst ys) :: news) →
    wpAny (model prog w) A (eval i1 (compEnvC scope cl C env)) (fun v s₄ => ItrIs h₀ L m s ((I, oI) :: (C, oC) :: (D, LCg.lst ys) :: news) I C D (f z) v s₄) E' { s with heap := h, toks := tk }
theorem take_flat {xs : List Str} {i : Nat} {z : Str} (f : Str → List Str) (h : xs[i]? = some z) : (xs.take (i + 1)).flatMap f = (xs.take i).flatMap f ++ f z := by
  rw [List.take_add_one, h, List.flatMap_append]
  simp
theorem flat_le {xs : List Str} (f : Str → List Str) (i : Nat) : ((xs.take i).flatMap f).length ≤ (xs.flatMap f).length := by
  conv => rhs; rw [← List.take_append_drop i xs, List.flatMap_append, List.length_append]
  exact Nat.le_add_right _ _
inductive COut (h₀ : Heap) (L : Addr) (m : Str → Option Value) (s : Shared) (I C D ax : Addr) (vs : List Value) (xs : List Str) (f : Str → List Str) (news : List (Addr × Obj)) : Nat → Shared → Prop
  | mk (h' : Heap) (tk i : Nat) (m' : Str → Option Value) (ys : List Value) (hi : i ≤ vs.length) (st : h'.IsListIter I ax i ∧ h'.IsList ax vs.toArray) (F : Fr h₀ L h' m) (hn : h'.Ns C m') (N : News h₀ L h' ((D, LCg.lst ys) :: news)) (hys : StrsAre ys ((xs.take i).flatMap f)) :
    COut h₀ L m s I C D ax vs xs f news (vs.length + 1 - i) { s with heap := h', toks := tk }
/-- the outer loop -/
theorem comp_out {i0 i1 : Expr} {x y : Str} {px py py' : Pos} {scope : Scope} {cl : List (Str × Addr)} {pos : Pos} {C D I ax : Addr} {vs : List Value} {xs : List Str} {f : Str → List Str} {news : List (Addr × Obj)} {mC : Str → Option Value} {R : Result → Shared → Prop}
    (hh : A.handled = none) (hxs : StrsAre vs xs) (hsz : (xs.flatMap f).length ≤ 500000) (hvz : vs.length ≤ 500000)
    (hkind : scope.kind = .function) (hx : scope.names.lookup x = some .local) (hy : scope.names.lookup y = some .local) (hyd : (y == ("__debug__" : Str)) = false)
    (hfs : ∀ v, foldedSetIterable i1 (compEnvC scope cl C env) v = pure v)
    (F : Fr h₀ L s.heap m) (hC : s.heap.Ns C mC) (N : News h₀ L s.heap ((D, LCg.lst []) :: news)) (S : LCg.SrcAt h₀ ax vs.toArray news)
    (st : s.heap.IsListIter I ax 0) (hIax : ax ≠ I)
    (hCL : C ≠ L) (hC0 : h₀.get? C = none) (hCD : C ≠ D) (hCax : ax ≠ C) (hDax : ax ≠ D) (hIL : I ≠ L) (hI0 : h₀.get? I = none) (hIC : I ≠ C) (hID : I ≠ D)
    (off : ∀ p ∈ news, p.1 ≠ I ∧ p.1 ≠ C ∧ p.1 ≠ D)
    (it1 : ∀ (i : Nat) z, xs[i]? = some z → Itr1 prog w A h₀ L m env i1 x scope cl s news z f)
    (hR : ∀ h tk mC' ys, Fr h₀ L h m → h.Ns C mC' → News h₀ L h ((D, LCg.lst ys) :: news) → StrsAre ys (xs.flatMap f) → R (.ok .next) { s with heap := h, toks := tk }) :
    codeAny (model prog w) A (.compLoop (.ListComp (.Name y py) [⟨.Name x px, i0, [], 0⟩, ⟨.Name y py', i1, [], 0⟩] scope pos) 0 (.ref I) (.ref D) (compEnvC scope cl C env)) R s := by
  have hDL : D ≠ L := (N _ (List.Mem.head _)).2.1
  have hD0 : h₀.get? D = none := (N _ (List.Mem.head _)).2.2
  have W := Walks.list (prog := prog) (w := w) hh I ax hIax vs.toArray
  refine comp_loop2
    (COut h₀ L m s I C D ax vs xs f news) ?_ (vs.length + 1)
    (.mk s.heap s.toks 0 mC [] (Nat.zero_le _) ⟨st, S.list F.keep (fun p hp => N p (List.Mem.tail _ hp))⟩ F hC N .nil)
  rintro k s' ⟨h', tk, i, m', ys, hi, hst', F', hn', N', hys⟩
  by_cases hlt : i < vs.length
  · refine W.item i _ _ _ (by rw [List.size_toArray]; exact hlt) hst' fun v h₂ tk₂ hPv hst₂ hk₂ => ?_
    rw [List.getElem?_toArray] at hPv
    obtain ⟨z, t, rfl, hz⟩ := hxs.item i v hPv
    refine wpAny_of_eq (show letOwnedTupleGo (.Name x px) (.ref I) (.str z t) = pure () from rfl) ?_
    refine wpAny_assign_Name (wpAny_storeName_local (lookup_relabel_local hx) (hn'.at' fun o e => hk₂ _ o (by simpa using Ne.symm hIC) e) (fun h₃ hn₃ hs₃ => ?_) (by simp [compEnvC, relabel, hkind]))
    have F₃ : Fr h₀ L h₃ m := (LCg.fr_but F' hk₂ (Ne.symm hIL) hI0).change hs₃ hCL hC0
    have N₂ : News h₀ L h₂ ((D, LCg.lst ys) :: news) := LCg.news_but N' hk₂ fun p hp => by
      rcases List.mem_cons.mp hp with rfl | hp
      · exact Ne.symm hID
      · exact (off p hp).1
    obtain ⟨oI, heI, hdI⟩ := hst₂.1
    obtain ⟨oC, heC, hoC⟩ := LCg.ns_obj hn₃
    have N₃ : News h₀ L h₃ ((I, oI) :: (C, oC) :: (D, LCg.lst ys) :: news) := fun p hp => by
      rcases List.mem_cons.mp hp with rfl | hp
      · exact ⟨hs₃.extBut _ _ hIC heI, hIL, hI0⟩
      · rcases List.mem_cons.mp hp with rfl | hp
        · exact ⟨heC, hCL, hC0⟩
        · exact nw_upd N₂ hs₃ (fun p hp => by
            rcases List.mem_cons.mp hp with rfl | hp
            · exact Ne.symm hCD
            · exact (off p hp).2.1) p hp
    refine wpAny_mono (it1 i z hz t I oI C oC D ys _ h₃ _ _ hoC (by simp) F₃ N₃) (fun v s₄ hv => ?_) fun _ _ e => e
    obtain ⟨D1, l, kl, h₄, tk₄, rfl, rfl, F₄, N₄, hD1, ⟨hD1I, hD1C, hD1D⟩, hl⟩ := hv
    have hD1ll : h₄.IsList D1 l.toArray := ⟨_, hD1, rfl, _, rfl⟩
    refine wpAny_of_eq (hfs _) (wpAny_pyIter_list hD1ll ?_)
    have hlt4 : ∀ b o, h₄.get? b = some o → b ≠ h₄.objs.size := fun b o e => Nat.ne_of_lt (Heap.lt_size e)
    have up : ∀ b o, h₄.get? b = some o → (h₄.push { cls := .type "list_iterator", data := .fields #[.ref D1, .int 0 0] }).get? b = some o := fun b o e => Heap.get?_push_of_some _ e
    have W1 := Walks.list (prog := prog) (w := w) hh h₄.objs.size D1 (hlt4 _ _ hD1) l.toArray
    rw [List.size_toArray] at W1
    simp only [List.getElem?_toArray] at W1
    have hCc : h₄.get? C = some oC := (N₄ (C, oC) (List.Mem.tail _ (List.Mem.head _))).1
    have hDd : h₄.get? D = some (LCg.lst ys) := (N₄ (D, LCg.lst ys) (List.Mem.tail _ (List.Mem.tail _ (List.Mem.head _)))).1
    have hIi : h₄.get? I = some oI := (N₄ (I, oI) (List.Mem.head _)).1
    have hlen : ys.length + l.length ≤ 1000000 := by
      have h1 := hys.length
      have h2 := hl.length
      have h3 := flat_le (xs := xs) f (i + 1)
      rw [take_flat f hz, List.length_append] at h3
      omega
    have inner : codeAny (model prog w) A (.compLoop (.ListComp (.Name y py) [⟨.Name x px, i0, [], 0⟩, ⟨.Name y py', i1, [], 0⟩] scope pos) 1 (.ref h₄.objs.size) (.ref D) (compEnvC scope cl C env))
        (fun r s' => match r with
          | .ok _ => ∃ k, k < vs.length + 1 - i ∧ COut h₀ L m s I C D ax vs xs f news k s'
          | .error e => cameBackBy (model prog w) A (compEnvC scope cl C env) (NB prog w A (compEnvC scope cl C env) R) e s')
        { s with heap := h₄.push { cls := .type "list_iterator", data := .fields #[.ref D1, .int 0 0] }, toks := tk₄ } := by
      refine comp_in (l := l) (ys := ys) (news := (I, oI) :: news) W1 hlen hkind hy hyd (F₄.keeps up) ((hoC.ns hCc).keeps up) (fun p hp => ?_) ⟨⟨_, Heap.get?_push_size _ rfl, rfl, rfl⟩, hD1ll.push _⟩ hCL hC0 hCD ?_ ?_ ?_ ?_ ?_ ?_ (fun p hp => ?_) ?_
      · refine News.grown N₄ up p ?_
        rcases List.mem_cons.mp hp with rfl | hp
        · exact List.Mem.tail _ (List.Mem.tail _ (List.Mem.head _))
        · rcases List.mem_cons.mp hp with rfl | hp
          · exact List.Mem.head _
          · exact List.Mem.tail _ (List.Mem.tail _ (List.Mem.tail _ hp))
      · simp only [List.mem_cons, List.not_mem_nil, or_false, not_or]
        exact ⟨hlt4 _ _ hCc, hD1C⟩
      · simp only [List.mem_cons, List.not_mem_nil, or_false, not_or]
        exact ⟨hlt4 _ _ hDd, hD1D⟩
      · exact Ne.symm (Nat.ne_of_lt F₄.ns.lt)
      · exact next_is_new F₄
      · exact Ne.symm (hlt4 _ _ hCc)
      · exact Ne.symm (hlt4 _ _ hDd)
      · rcases List.mem_cons.mp hp with rfl | hp
        · exact ⟨hlt4 _ _ hIi, hIC, hID⟩
        · exact ⟨hlt4 _ _ (N₄ p (List.Mem.tail _ (List.Mem.tail _ (List.Mem.tail _ hp)))).1, (off p hp).2⟩
      · intro h₅ tk₅ mC' F₅ hC₅ N₅
        have N₅' : News h₀ L h₅ news := fun p hp => N₅ p (List.Mem.tail _ (List.Mem.tail _ hp))
        refine ⟨vs.length + 1 - (i + 1), by omega, .mk h₅ tk₅ (i + 1) mC' (ys ++ l) hlt ⟨⟨oI, (N₅ (I, oI) (List.Mem.tail _ (List.Mem.head _))).1, hdI⟩, S.list F₅.keep N₅'⟩ F₅ hC₅ (fun p hp => ?_) ?_⟩
        · rcases List.mem_cons.mp hp with rfl | hp
          · exact N₅ _ (List.Mem.head _)
          · exact N₅' p hp
        · rw [take_flat f hz]
          exact StrsAre.append' hys hl
    refine wpAny_runOwn ?_
    rw [Around.mark_none]
    refine codeAny_mono (comp_start1 inner (W1.self 0 _ _ _ ⟨⟨_, Heap.get?_push_size _ rfl, rfl, rfl⟩, hD1ll.push _⟩ inner)) (fun r s' hr => ?_)
    cases r with
    | ok fl => exact hr
    | error e => exact hr
  · obtain rfl : i = vs.length := Nat.le_antisymm hi (Nat.not_lt.mp hlt)
    rw [hxs.length, List.take_length] at hys
    refine W.done _ _ _ (by rw [List.size_toArray]; exact hst') fun h₂ tk₂ hk₂ => ?_
    exact hR h₂ tk₂ m' ys (LCg.fr_but F' hk₂ (Ne.symm hIL) hI0) (hn'.at' fun o e => hk₂ _ o (by simpa using Ne.symm hIC) e) (LCg.news_but N' hk₂ fun p hp => by
      rcases List.mem_cons.mp hp with rfl | hp
      · exact Ne.symm hID
      · exact (off p hp).1) hys
/-- the block of a comprehension of two clauses, over a list of texts -/
theorem comp_block {i0 i1 : Expr} {x y : Str} {px py py' : Pos} {scope : Scope} {cl : List (Str × Addr)} {pos : Pos} {ax : Addr} {vs : List Value} {xs : List Str} {f : Str → List Str} {news : List (Addr × Obj)} {E : Value → Shared → Prop} {RR : Value → Addr → Result → Shared → Prop}
    (hh : A.handled = none) (hxs : StrsAre vs xs) (hsz : (xs.flatMap f).length ≤ 500000) (hvz : vs.length ≤ 500000)
    (hcell : ∀ z ∈ scope.names, z.2 ≠ .cell) (hkind : scope.kind = .function) (hx : scope.names.lookup x = some .local) (hy : scope.names.lookup y = some .local) (hyd : (y == ("__debug__" : Str)) = false)
    (hfs : ∀ C v, foldedSetIterable i1 (compEnvC scope cl C env) v = pure v)
    (F : Fr h₀ L s.heap m) (N : News h₀ L s.heap news) (S : LCg.SrcAt h₀ ax vs.toArray news)
    (it1 : ∀ s', (∃ h tk, s' = { s with heap := h, toks := tk }) → ∀ (i : Nat) z, xs[i]? = some z → Itr1 prog w A h₀ L m env i1 x scope cl s' news z f)
    (hRR : ∀ D C h tk mC' ys, Fr h₀ L h m → h.Ns C mC' → News h₀ L h ((D, LCg.lst ys) :: news) → StrsAre ys (xs.flatMap f) → C ≠ L → D ≠ L → C ≠ D → h₀.get? C = none → h₀.get? D = none → (∀ p ∈ news, p.1 ≠ C ∧ p.1 ≠ D) → RR (.ref D) C (.ok .next) { s with heap := h, toks := tk }) :
    wpAny (model prog w) A (pyIter (.ref ax)) (fun it s₂ => wpAny (model prog w) A (newList []) (fun acc s₃ => wpAny (model prog w) A (newFunctionEnv scope env.globals cl [] env.qual none .none (some env)) (fun cenv s₄ =>
      codeAny (model prog w) A (.compStart (.ListComp (.Name y py) [⟨.Name x px, i0, [], 0⟩, ⟨.Name y py', i1, [], 0⟩] scope pos) 0 it acc { cenv with scope := relabel scope env }) (RR acc cenv.locals) s₄) E s₃) E s₂) E s := by
  have hl : s.heap.IsList ax vs.toArray := S.list F.keep N
  have hlt : ax < s.heap.objs.size := by obtain ⟨_, e, _⟩ := hl; exact Heap.lt_size e
  refine wpAny_pyIter_list hl ?_
  refine wpAny_newObj_type (wpAny_newFunctionEnv hcell (by intro z hz; simp at hz) (fun h₁ hns₁ hsb₁ => ?_) hkind)
  dsimp only at hns₁ hsb₁ ⊢
  generalize hH1 : s.heap.push { cls := .type "list_iterator", data := .fields #[.ref ax, .int 0 0] } = H1 at hns₁ hsb₁ ⊢
  generalize hH2 : H1.push { cls := .type "list", dict := none, data := .seq ([] : List Value).toArray } = H2 at hns₁ hsb₁ ⊢
  have s1 : H1.objs.size = s.heap.objs.size + 1 := by rw [← hH1, Heap.size_push]
  have s2 : H2.objs.size = H1.objs.size + 1 := by rw [← hH2, Heap.size_push]
  have l01 : s.heap.objs.size < H1.objs.size := by rw [s1]; exact Nat.lt_succ_self _
  have l12 : H1.objs.size < H2.objs.size := by rw [s2]; exact Nat.lt_succ_self _
  have l02 : s.heap.objs.size < H2.objs.size := Nat.lt_trans l01 l12
  have up : ∀ b o, s.heap.get? b = some o → h₁.get? b = some o := fun b o e => by
    have hb := Heap.lt_size e
    exact hsb₁.extBut b o (Nat.ne_of_lt (Nat.lt_trans hb l02)) (Heap.get?_push_of_some _ (hH2 ▸ Heap.get?_push_of_some _ (hH1 ▸ Heap.get?_push_of_some _ e)))
  have hI : h₁.get? s.heap.objs.size = some { cls := .type "list_iterator", data := .fields #[.ref ax, .int 0 0] } :=
    hsb₁.extBut _ _ (Nat.ne_of_lt l02) (Heap.get?_push_of_some _ (hH2 ▸ Heap.get?_push_of_some _ (hH1 ▸ Heap.get?_push_size _ rfl)))
  have hD : h₁.get? H1.objs.size = some (LCg.lst []) := hsb₁.extBut _ _ (Nat.ne_of_lt l12) (Heap.get?_push_of_some _ (hH2 ▸ Heap.get?_push_size _ rfl))
  have fresh₀ : ∀ a : Addr, s.heap.objs.size ≤ a → h₀.get? a = none := fun a ha => by
    cases e : h₀.get? a with
    | none => rfl
    | some o' => exact absurd (Heap.lt_size (F.keep a o' e)) (Nat.not_lt.mpr ha)
  have hLlt : L < s.heap.objs.size := F.ns.lt
  have off : ∀ p ∈ news, p.1 ≠ s.heap.objs.size ∧ p.1 ≠ H2.objs.size ∧ p.1 ≠ H1.objs.size := fun p hp => by
    have hb := Heap.lt_size (N p hp).1
    refine ⟨?_, ?_, ?_⟩
    · exact Nat.ne_of_lt hb
    · exact Nat.ne_of_lt (Nat.lt_trans hb l02)
    · exact Nat.ne_of_lt (Nat.lt_trans hb l01)
  have hCL : H2.objs.size ≠ L := Nat.ne_of_gt (Nat.lt_trans hLlt l02)
  have hDL : H1.objs.size ≠ L := Nat.ne_of_gt (Nat.lt_trans hLlt l01)
  have hCD : H2.objs.size ≠ H1.objs.size := Nat.ne_of_gt l12
  have loop : codeAny (model prog w) A (.compLoop (.ListComp (.Name y py) [⟨.Name x px, i0, [], 0⟩, ⟨.Name y py', i1, [], 0⟩] scope pos) 0 (.ref s.heap.objs.size) (.ref H1.objs.size) (compEnvC scope cl H2.objs.size env))
      (RR (.ref H1.objs.size) H2.objs.size) { s with heap := h₁, toks := s.toks + ([] : List (Str × Value)).length } := by
    refine comp_out hh hxs hsz hvz hkind hx hy hyd (hfs _) (F.keeps up) hns₁ (fun p hp => ?_) S ⟨_, hI, rfl, rfl⟩ (Nat.ne_of_lt hlt) hCL (fresh₀ _ (Nat.le_of_lt l02)) hCD (Nat.ne_of_lt (Nat.lt_trans hlt l02)) (Nat.ne_of_lt (Nat.lt_trans hlt l01)) (Nat.ne_of_gt hLlt) (fresh₀ _ (Nat.le_refl _)) (Nat.ne_of_lt l02) (Nat.ne_of_lt l01) off (it1 _ ⟨_, _, rfl⟩) ?_
    · rcases List.mem_cons.mp hp with rfl | hp
      · exact ⟨hD, hDL, fresh₀ _ (Nat.le_of_lt l01)⟩
      · exact ⟨up _ _ (N p hp).1, (N p hp).2⟩
    · intro h tk mC' ys F' hn' N' hys
      exact hRR _ _ h tk mC' ys F' hn' N' hys hCL hDL hCD (fresh₀ _ (Nat.le_of_lt l02)) (fresh₀ _ (Nat.le_of_lt l01)) fun p hp => (off p hp).2
  exact codeAny_compStart_list loop (Walks.self (Walks.list (prog := prog) (w := w) hh s.heap.objs.size ax (Nat.ne_of_lt hlt) vs.toArray) 0 _ _ _ ⟨⟨_, hI, rfl, rfl⟩, by obtain ⟨o, e, r⟩ := hl; exact ⟨o, up _ _ e, r⟩⟩ loop)
inductive Src2 (prog : Program) (w : World) (A : Around) (h₀ : Heap) (L : Addr) (m : Str → Option Value) (env : Env) (i1 : Expr) (x nm : Str) (scope : Scope) (cl : List (Str × Addr)) (f : Str → List Str) (Q : Flow → Shared → Prop) (xv : Value) (s₁ : Shared) : Prop
  | mk (ax : Addr) (vs : List Value) (xs : List Str) (news : List (Addr × Obj)) (e : xv = .ref ax) (F : Fr h₀ L s₁.heap m) (N : News h₀ L s₁.heap news) (S : LCg.SrcAt h₀ ax vs.toArray news) (hxs : StrsAre vs xs) (hz1 : (xs.flatMap f).length ≤ 500000) (hz2 : vs.length ≤ 500000)
    (it1 : ∀ s', (∃ h tk, s' = { s₁ with heap := h, toks := tk }) → ∀ (i : Nat) z, xs[i]? = some z → Itr1 prog w A h₀ L m env i1 x scope cl s' news z f)
    (fin : ∀ D h tk ys, Fr h₀ L h (fun z => if z = nm then some (.ref D) else m z) → News h₀ L h ((D, LCg.lst ys) :: news) → (∀ p ∈ news, p.1 ≠ D) → StrsAre ys (xs.flatMap f) → Q .next { s₁ with heap := h, toks := tk }) : Src2 prog w A h₀ L m env i1 x nm scope cl f Q xv s₁
/-- x = [piece for part in parts for piece in part.f()] -/
theorem assign_comp2 {i0 i1 : Expr} {x y nm : Str} {px py py' pn : Pos} {scope : Scope} {cl : List (Str × Addr)} {pos spos : Pos} {f : Str → List Str} {E : Value → Shared → Prop} {Q : Flow → Shared → Prop} (hL : env.locals = L) (F₀ : Fr h₀ L s.heap m)
    (hh : A.handled = none)
    (hsw : swapsWith (.ListComp (.Name y py) [⟨.Name x px, i0, [], 0⟩, ⟨.Name y py', i1, [], 0⟩] scope pos) (some (.Name nm pn)) spos.line env = pure true)
    (hclos : closureFor scope env = pure cl) (hcell : ∀ z ∈ scope.names, z.2 ≠ .cell) (hkind : scope.kind = .function)
    (hnames : ∀ z ∈ scope.names, z.2 = .local → scope.names.lookup z.1 = some .local) (hx : scope.names.lookup x = some .local) (hy : scope.names.lookup y = some .local) (hyd : (y == ("__debug__" : Str)) = false)
    (hnm : env.kindOf nm = some .local) (hp : (env.scope.kind == .class || (env.scope.kind == .module && env.locals != env.globals)) = false)
    (hs0 : ∀ v, foldedSetIterable i0 env v = pure v) (hfs : ∀ C v, foldedSetIterable i1 (compEnvC scope cl C env) v = pure v)
    (h : wpAny (model prog w) A (eval i0 env) (fun xv s₁ => Src2 prog w A h₀ L m env i1 x nm scope cl f Q xv s₁) E s) :
    wpAny (model prog w) A (exec (.Assign [.Name nm pn] (.ListComp (.Name y py) [⟨.Name x px, i0, [], 0⟩, ⟨.Name y py', i1, [], 0⟩] scope pos) spos) env) Q E s := by
  subst hL
  rw [exec_Assign_Name_used _ _ _ _ hsw]
  refine wpAny_bind (wpAny_standAt (wpAny_bind ?_))
  show wpAny _ A (do let _ ← comprehension (.ListComp (.Name y py) [⟨.Name x px, i0, [], 0⟩, ⟨.Name y py', i1, [], 0⟩] scope pos) scope env _ (newList []) false (eval i0 env) (some (assign (.Name nm pn) env))) _ _ s
  refine wpAny_bind (wpAny_mono (wpAny_comprehension_free (use := some (assign (.Name nm pn) env)) (Q := fun _ s' => Q .next s') rfl hs0 hclos hkind hnames
    (wpAny_mono h (fun xv s₁ h₁ => ?_) fun _ _ e => e)) (fun _ s' hq => wpAny_pure (wpAny_pure hq)) fun _ _ e => e)
  obtain ⟨ax, vs, xs, news, rfl, F, N, S, hxs, hz1, hz2, it1, fin⟩ := h₁
  refine comp_block hh hxs hz1 hz2 hcell hkind hx hy hyd hfs F N S it1 ?_
  intro D C h' tk m' ys F' hn N' hys hCL hDL hCD hC₀ hD₀ offC
  show wpAny _ A (assign (.Name nm pn) env (.ref D)) _ _ _
  refine wpAny_assign_Name (wpAny_storeName_local hnm F'.ns (fun h₂ hn₂ hs₂ => ?_) hp)
  have hL₀ : h₀.get? env.locals = none := Heap.get?_none_of_le F'.above
  have F₂ : Fr h₀ env.locals h₂ (fun z => if z = nm then some (.ref D) else m z) := ⟨hn₂, fun b o e => hs₂.extBut b o (fun q => by rw [q, hL₀] at e; cases e) (F'.keep b o e), F'.above⟩
  refine ⟨m', hn.sameBut hs₂ hCL, fun h'' hs'' => fin D h'' _ ys (F₂.change hs'' hCL hC₀) (fun p hp => ?_) (fun p hp => (offC p hp).2) hys⟩
  have z : h₂.get? p.1 = some p.2 := hs₂.extBut _ _ (N' p hp).2.1 (N' p hp).1
  refine ⟨hs''.extBut _ _ ?_ z, (N' p hp).2⟩
  rcases List.mem_cons.mp hp with rfl | hp
  · exact Ne.symm hCD
  · exact (offC p hp).1
end
end piece_L9
section piece_L13
/-- where a comprehension takes its items from: a list or a tuple that stays as it is -/
noncomputable def SrcK (k : Bool) (h₀ : Heap) (ax : Addr) (its : Array Value) (news : List (Addr × Obj)) : Prop := match k with
  | true => LCg.SrcAt h₀ ax its news
  | false => h₀.IsTuple ax its ∨ (ax, tupOf its.toList) ∈ news
noncomputable def SeqK (k : Bool) (h : Heap) (ax : Addr) (its : Array Value) : Prop := match k with
  | true => h.IsList ax its
  | false => h.IsTuple ax its
noncomputable def IterK (k : Bool) (h : Heap) (I ax : Addr) (i : Nat) : Prop := match k with
  | true => h.IsListIter I ax i
  | false => h.IsTupleIter I ax i
theorem SrcK.seq {k : Bool} {h₀ h : Heap} {L ax : Addr} {its : Array Value} {news : List (Addr × Obj)} (x : SrcK k h₀ ax its news) (e : ∀ b o, h₀.get? b = some o → h.get? b = some o) (N : News h₀ L h news) : SeqK k h ax its := by
  cases k with
  | true => exact LCg.SrcAt.list x e N
  | false =>
    rcases x with ⟨o, eo, r⟩ | hm
    · exact ⟨o, e _ _ eo, r⟩
    · exact ⟨_, (N _ hm).1, rfl, 0, rfl⟩
theorem SrcK.mono {k : Bool} {h₀ : Heap} {ax : Addr} {its : Array Value} {news news' : List (Addr × Obj)} (x : SrcK k h₀ ax its news) (e : ∀ p ∈ news, p ∈ news') : SrcK k h₀ ax its news' := by
  cases k with
  | true =>
    rcases x with x | ⟨o, hm, r⟩
    · exact .inl x
    · exact .inr ⟨o, e _ hm, r⟩
  | false =>
    rcases x with x | hm
    · exact .inl x
    · exact .inr (e _ hm)
section
variable {prog : Program} {w : World} {A : Around} {E : Value → Shared → Prop} {s : Shared} {h₀ : Heap} {L : Addr} {m : Str → Option Value} {env : Env}
theorem iter_k {k : Bool} {ax : Addr} {its : Array Value} {Q : Value → Shared → Prop} (hh : A.handled = none) (hq : SeqK k s.heap ax its)
    (h : ∀ I h', Walks prog w A I [I, ax] [I] its.size (fun i v => its[i]? = some v) (fun i h => IterK k h I ax i ∧ SeqK k h ax its) → IterK k h' I ax 0 → SeqK k h' ax its → I = s.heap.objs.size → h'.objs.size = s.heap.objs.size + 1 → (∀ b o, s.heap.get? b = some o → h'.get? b = some o) → Q (.ref I) { s with heap := h' }) :
    wpAny (model prog w) A (pyIter (.ref ax)) Q E s := by
  cases k with
  | true =>
    have hlt : ax < s.heap.objs.size := by obtain ⟨_, e, _⟩ := hq; exact Heap.lt_size e
    exact wpAny_pyIter_list hq (h _ _ (Walks.list hh _ ax (Nat.ne_of_lt hlt) its) ⟨_, Heap.get?_push_size _ rfl, rfl, rfl⟩ (Heap.IsList.push hq _) rfl (Heap.size_push ..) fun b o e => Heap.get?_push_of_some _ e)
  | false =>
    have hlt : ax < s.heap.objs.size := by obtain ⟨_, e, _⟩ := hq; exact Heap.lt_size e
    refine wpAny_pyIter_tuple hq (h _ _ (Walks.tuple hh _ ax (Nat.ne_of_lt hlt) its) ⟨_, Heap.get?_push_size _ rfl, rfl, rfl⟩ ?_ rfl (Heap.size_push ..) fun b o e => Heap.get?_push_of_some _ e)
    obtain ⟨o, e, r⟩ := hq
    exact ⟨o, Heap.get?_push_of_some _ e, r⟩
/-- one turn of a comprehension, by an invariant over what is made so far -/
noncomputable def CTurn (prog : Program) (w : World) (A : Around) (h₀ : Heap) (L : Addr) (m : Str → Option Value) (env : Env) (elt : Expr) (ifs : List Expr) (x : Str) (scope : Scope) (cl : List (Str × Addr)) (s : Shared) (S : List (Addr × Obj) → Prop) (its : Array Value)
    (Inv : Nat → List Value → List (Addr × Obj) → Prop) : Prop :=
  ∀ i ys news v I oI C oC D m₂ h tk (E' : Value → Shared → Prop), Inv i ys news → S news → its[i]? = some v → LCg.NsObj oC m₂ → m₂ x = some v → Fr h₀ L h m → News h₀ L h ((I, oI) :: (C, oC) :: (D, LCg.lst ys) :: news) → LCg.Off3 I C D news → ((@Ne Nat I C) ∧ (@Ne Nat I D) ∧ (@Ne Nat C D)) →
    wpAny (model prog w) A (testsOf ifs (compEnvC scope cl C env)) (fun ok s₃ =>
      if ok = true then wpAny (model prog w) A (eval elt (compEnvC scope cl C env)) (LCg.CompEnd h₀ L m { s with heap := h, toks := tk } I oI C oC D (LCg.lst ys) S (fun y news' => Inv (i + 1) (ys ++ [y]) news')) E' s₃
      else LCg.CompEnd h₀ L m { s with heap := h, toks := tk } I oI C oC D (LCg.lst ys) S (fun _ news' => Inv (i + 1) ys news') Value.none s₃) E' { s with heap := h, toks := tk }
inductive CInv1 (h₀ : Heap) (L : Addr) (m : Str → Option Value) (s : Shared) (I C D ax : Addr) (kk : Bool) (its : Array Value) (Inv : Nat → List Value → List (Addr × Obj) → Prop) : Nat → Shared → Prop
  | mk (h' : Heap) (tk i : Nat) (m' : Str → Option Value) (ys : List Value) (news' : List (Addr × Obj)) (hi : i ≤ its.size) (hyl : ys.length ≤ i) (st : IterK kk h' I ax i) (hS : SrcK kk h₀ ax its news') (F : Fr h₀ L h' m) (hn : h'.Ns C m')
    (N : News h₀ L h' ((D, LCg.lst ys) :: news')) (off : LCg.Off3 I C D news') (hI : Inv i ys news') : CInv1 h₀ L m s I C D ax kk its Inv (its.size + 1 - i) { s with heap := h', toks := tk }
inductive CEnd1 (h₀ : Heap) (L : Addr) (m : Str → Option Value) (s : Shared) (I : Addr) (oI : Obj) (C : Addr) (oC : Obj) (D : Addr) (oD : Obj) (S : List (Addr × Obj) → Prop) (rest : List (Addr × Obj) → Prop) : Shared → Prop
  | mk (h' : Heap) (tk : Nat) (news' : List (Addr × Obj)) (F : Fr h₀ L h' m) (NI : h'.get? I = some oI) (NC : h'.get? C = some oC) (ND : h'.get? D = some oD) (N : News h₀ L h' ((D, oD) :: news')) (off : LCg.Off3 I C D news') (hS : S news') (hr : rest news') :
    CEnd1 h₀ L m s I oI C oC D oD S rest { s with heap := h', toks := tk }
theorem CEnd1.of {h₀ : Heap} {L : Addr} {m : Str → Option Value} {s : Shared} {I C D : Addr} {oI oC oD : Obj} {S : List (Addr × Obj) → Prop} {rest : Value → List (Addr × Obj) → Prop} {y : Value} {s₂ : Shared} (h : LCg.CompEnd h₀ L m s I oI C oC D oD S rest y s₂) : CEnd1 h₀ L m s I oI C oC D oD S (rest y) s₂ := by
  obtain ⟨h₄, tk₄, news₄, rfl, F₄, N₄, off₄, hS₄, hI₄⟩ := h
  exact .mk h₄ tk₄ news₄ F₄ (N₄ _ (List.Mem.head _)).1 (N₄ _ (List.Mem.tail _ (List.Mem.head _))).1 (N₄ _ (List.Mem.tail _ (List.Mem.tail _ (List.Mem.head _)))).1 (fun p hp => N₄ p (List.Mem.tail _ (List.Mem.tail _ hp))) off₄ hS₄ hI₄
theorem comp_loop_inv {elt iter : Expr} {x : Str} {px : Pos} {ifs : List Expr} {scope : Scope} {cl : List (Str × Addr)} {pos : Pos} {I C D ax : Addr} {kk : Bool} {its : Array Value} {news : List (Addr × Obj)} {mC : Str → Option Value} {R : Result → Shared → Prop}
    {Inv : Nat → List Value → List (Addr × Obj) → Prop}
    (W : Walks prog w A I [I, ax] [I] its.size (fun i v => its[i]? = some v) (fun i h => IterK kk h I ax i ∧ SeqK kk h ax its)) (hsz : its.size ≤ 1000000)
    (hkind : scope.kind = .function) (hx : scope.names.lookup x = some .local)
    (F : Fr h₀ L s.heap m) (hC : s.heap.Ns C mC) (N : News h₀ L s.heap ((D, LCg.lst []) :: news)) (st : IterK kk s.heap I ax 0) (hS : SrcK kk h₀ ax its news) (off : LCg.Off3 I C D news)
    (hCL : C ≠ L) (hC0 : h₀.get? C = none) (hCD : C ≠ D) (hIL : I ≠ L) (hI0 : h₀.get? I = none) (hIC : I ≠ C) (hID : I ≠ D) (haxC : ax ≠ C)
    (h0 : Inv 0 [] news) (turn : CTurn prog w A h₀ L m env elt ifs x scope cl s (SrcK kk h₀ ax its) its Inv)
    (hR : ∀ h tk mC' ys news', Fr h₀ L h m → h.Ns C mC' → News h₀ L h ((D, LCg.lst ys) :: news') → LCg.Off3 I C D news' → Inv its.size ys news' → ys.length ≤ its.size → R (.ok .next) { s with heap := h, toks := tk }) :
    codeAny (model prog w) A (.compLoop (.ListComp elt [⟨.Name x px, iter, ifs, 0⟩] scope pos) 0 (.ref I) (.ref D) (compEnvC scope cl C env)) R s := by
  have hDL : D ≠ L := (N _ (List.Mem.head _)).2.1
  have hD0 : h₀.get? D = none := (N _ (List.Mem.head _)).2.2
  refine comp_loop (tgt := .Name x px) (p := iter.pos) (ifs := ifs) (emit := do let _ ← call (.builtin "list.append") [.ref D, ← eval elt (compEnvC scope cl C env)]) rfl
    (CInv1 h₀ L m s I C D ax kk its Inv) ?_ (its.size + 1)
    (.mk s.heap s.toks 0 mC [] news (Nat.zero_le _) (Nat.zero_le _) st hS F hC N off h0)
  rintro k s' ⟨h', tk, i, m', ys, news', hi, hyl, hst', hS', F', hn', N', off', hI⟩
  have Nn : News h₀ L h' news' := fun p hp => N' p (List.Mem.tail _ hp)
  have hsq := hS'.seq F'.keep Nn
  by_cases hlt : i < its.size
  · refine W.item i _ _ _ hlt ⟨hst', hsq⟩ fun v h₂ tk₂ hPv hst₂ hk₂ => ?_
    refine wpAny_of_eq (show letOwnedTupleGo (.Name x px) (.ref I) v = pure () from rfl) ?_
    refine wpAny_assign_Name (wpAny_storeName_local (lookup_relabel_local hx) (hn'.at' fun o e => hk₂ _ o (by simpa using Ne.symm hIC) e) (fun h₃ hn₃ hs₃ => ?_) (by simp [compEnvC, relabel, hkind]))
    have offm := off'.mem
    have hst₃ : IterK kk h₃ I ax (i + 1) ∧ SeqK kk h₃ ax its := W.frame _ _ _ hst₂ fun b hb o e => hs₃.extBut b o (fun q => by
      have q' : b = C := q
      simp only [List.mem_cons, List.not_mem_nil, or_false] at hb
      rcases hb with hb | hb
      · exact hIC (hb.symm.trans q')
      · exact haxC (hb.symm.trans q')) e
    have F₃ : Fr h₀ L h₃ m := (LCg.fr_but F' hk₂ (Ne.symm hIL) hI0).change hs₃ hCL hC0
    have N₂ : News h₀ L h₂ ((D, LCg.lst ys) :: news') := LCg.news_but N' hk₂ fun p hp => by
      rcases List.mem_cons.mp hp with rfl | hp
      · exact Ne.symm hID
      · exact (offm p hp).1
    obtain ⟨oI, heI⟩ : ∃ oI, h₃.get? I = some oI := by
      have := hst₃.1
      cases kk with
      | true => obtain ⟨o, e, _⟩ := this; exact ⟨o, e⟩
      | false => obtain ⟨o, e, _⟩ := this; exact ⟨o, e⟩
    obtain ⟨oC, heC, hoC⟩ := LCg.ns_obj hn₃
    have N₃ : News h₀ L h₃ ((I, oI) :: (C, oC) :: (D, LCg.lst ys) :: news') := fun p hp => by
      rcases List.mem_cons.mp hp with rfl | hp
      · exact ⟨heI, hIL, hI0⟩
      · rcases List.mem_cons.mp hp with rfl | hp
        · exact ⟨heC, hCL, hC0⟩
        · exact nw_upd N₂ hs₃ (fun p hp => by
            rcases List.mem_cons.mp hp with rfl | hp
            · exact Ne.symm hCD
            · exact (offm p hp).2.1) p hp
    have keepI : ∀ h₄ : Heap, h₄.get? I = some oI → SeqK kk h₄ ax its → IterK kk h₄ I ax (i + 1) := fun h₄ e _ => by
      have := hst₃.1
      cases kk with
      | true => obtain ⟨o, q, r⟩ := this; rw [heI] at q; cases q; exact ⟨oI, e, r⟩
      | false => obtain ⟨o, q, r⟩ := this; rw [heI] at q; cases q; exact ⟨oI, e, r⟩
    refine wpAny_mono (turn i ys news' v I oI C oC D _ h₃ _ _ hI hS' hPv hoC (by simp) F₃ N₃ off' ⟨hIC, hID, hCD⟩) (fun ok s₃ h₃' => ?_) fun _ _ e => e
    cases ok with
    | false =>
      simp only [Bool.false_eq_true, if_false] at h₃' ⊢
      obtain ⟨h₄, tk₄, news₄, F₄, NI₄, NC₄, ND₄, N₄, off₄, hS₄, hI₄⟩ := CEnd1.of h₃'
      have N₄' : News h₀ L h₄ news₄ := fun p hp => N₄ p (List.Mem.tail _ hp)
      exact ⟨its.size + 1 - (i + 1), by omega, .mk h₄ tk₄ (i + 1) _ ys news₄ hlt (by omega) (keepI h₄ NI₄ (hS₄.seq F₄.keep N₄')) hS₄ F₄ (hoC.ns NC₄) N₄ off₄ hI₄⟩
    | true =>
      simp only [if_true] at h₃' ⊢
      refine wpAny_bind (wpAny_mono h₃' (fun y s₄ h₄' => ?_) fun _ _ e => e)
      obtain ⟨h₄, tk₄, news₄, F₄, NI₄, NC₄, ND₄, N₄, off₄, hS₄, hI₄⟩ := CEnd1.of h₄'
      have N₄' : News h₀ L h₄ news₄ := fun p hp => N₄ p (List.Mem.tail _ hp)
      have offm4 := off₄.mem
      refine wpAny_bind (append_at (hsz := by show ys.toArray.size ≤ sizeLine; rw [List.size_toArray, sizeLine_eq]; omega) ND₄ fun h₅ hs₅ hD₅ => wpAny_pure ?_)
      have F₅ := F₄.change hs₅ hDL hD0
      have N₅ : News h₀ L h₅ ((D, LCg.lst (ys ++ [y])) :: news₄) := fun p hp => by
        rcases List.mem_cons.mp hp with rfl | hp
        · exact ⟨hD₅.trans (congrArg some (LCg.lst_snoc ys y)), hDL, hD0⟩
        · exact nw_upd N₄' hs₅ (fun q hq => (offm4 q hq).2.2) p hp
      exact ⟨its.size + 1 - (i + 1), by omega, .mk h₅ tk₄ (i + 1) _ (ys ++ [y]) news₄ hlt (by rw [List.length_append]; simp only [List.length_cons, List.length_nil]; omega) (keepI h₅ (hs₅.extBut _ _ hID NI₄) (hS₄.seq F₅.keep fun p hp => N₅ p (List.Mem.tail _ hp))) hS₄ F₅ ((hoC.ns NC₄).sameBut hs₅ hCD) N₅ off₄ hI₄⟩
  · obtain rfl : i = its.size := Nat.le_antisymm hi (Nat.not_lt.mp hlt)
    refine W.done _ _ _ ⟨hst', hsq⟩ fun h₂ tk₂ hk₂ => ?_
    have offm := off'.mem
    exact hR h₂ tk₂ m' ys news' (LCg.fr_but F' hk₂ (Ne.symm hIL) hI0) (hn'.at' fun o e => hk₂ _ o (by simpa using Ne.symm hIC) e) (LCg.news_but N' hk₂ fun p hp => by
      rcases List.mem_cons.mp hp with rfl | hp
      · exact Ne.symm hID
      · exact (offm p hp).1) off' hI hyl
end
section
variable {prog : Program} {w : World} {A : Around} {s : Shared} {h₀ : Heap} {L : Addr} {m : Str → Option Value} {env : Env}
theorem comp_block1 {elt iter : Expr} {x : Str} {px : Pos} {ifs : List Expr} {scope : Scope} {cl : List (Str × Addr)} {pos : Pos} {ax : Addr} {kk : Bool} {its : Array Value} {news : List (Addr × Obj)} {E : Value → Shared → Prop} {RR : Value → Addr → Result → Shared → Prop}
    {Inv : Nat → List Value → List (Addr × Obj) → Prop}
    (hh : A.handled = none) (hsz : its.size ≤ 1000000) (hcell : ∀ z ∈ scope.names, z.2 ≠ .cell) (hkind : scope.kind = .function) (hx : scope.names.lookup x = some .local)
    (F : Fr h₀ L s.heap m) (N : News h₀ L s.heap news) (hS : SrcK kk h₀ ax its news) (h0 : Inv 0 [] news)
    (turn : ∀ s₂ : Shared, (∃ h tk, s₂ = { s with heap := h, toks := tk }) → CTurn prog w A h₀ L m env elt ifs x scope cl s₂ (SrcK kk h₀ ax its) its Inv)
    (hRR : ∀ D C h tk m' ys news', Fr h₀ L h m → News h₀ L h ((D, LCg.lst ys) :: news') → LCg.Off1 D news' → h.Ns C m' → h₀.get? C = none → h₀.get? D = none → C ≠ L → D ≠ L → C ≠ D → (∀ p ∈ news', p.1 ≠ C) → Inv its.size ys news' → ys.length ≤ its.size → RR (.ref D) C (.ok .next) { s with heap := h, toks := tk }) :
    wpAny (model prog w) A (pyIter (.ref ax)) (fun it s₂ => wpAny (model prog w) A (newList []) (fun acc s₃ => wpAny (model prog w) A (newFunctionEnv scope env.globals cl [] env.qual none .none (some env)) (fun cenv s₄ =>
      codeAny (model prog w) A (.compStart (.ListComp elt [⟨.Name x px, iter, ifs, 0⟩] scope pos) 0 it acc { cenv with scope := relabel scope env }) (RR acc cenv.locals) s₄) E s₃) E s₂) E s := by
  have hq := hS.seq F.keep N
  have haxlt : ax < s.heap.objs.size := by
    cases kk with
    | true => obtain ⟨_, e, _⟩ := hq; exact Heap.lt_size e
    | false => obtain ⟨_, e, _⟩ := hq; exact Heap.lt_size e
  refine iter_k hh hq fun I h1 W hst hq1 hI hsz1 up1 => ?_
  subst hI
  have hI1 : ∃ oI, h1.get? s.heap.objs.size = some oI := by
    cases kk with
    | true => obtain ⟨o, e, _⟩ := hst; exact ⟨o, e⟩
    | false => obtain ⟨o, e, _⟩ := hst; exact ⟨o, e⟩
  refine wpAny_newObj_type (wpAny_newFunctionEnv hcell (by intro z hz; simp at hz) (fun h₁ hns₁ hsb₁ => ?_) hkind)
  dsimp only at hns₁ hsb₁ ⊢
  generalize hH2 : h1.push { cls := .type "list", dict := none, data := .seq ([] : List Value).toArray } = H2 at hns₁ hsb₁ ⊢
  have s2 : H2.objs.size = h1.objs.size + 1 := by rw [← hH2, Heap.size_push]
  have l01 : s.heap.objs.size < h1.objs.size := by rw [hsz1]; exact Nat.lt_succ_self _
  have l12 : h1.objs.size < H2.objs.size := by rw [s2]; exact Nat.lt_succ_self _
  have l02 : s.heap.objs.size < H2.objs.size := Nat.lt_trans l01 l12
  have up2 : ∀ b o, h1.get? b = some o → h₁.get? b = some o := fun b o e => hsb₁.extBut b o (Nat.ne_of_lt (Nat.lt_trans (Heap.lt_size e) l12)) (Heap.get?_push_of_some _ (hH2 ▸ Heap.get?_push_of_some _ e))
  have up : ∀ b o, s.heap.get? b = some o → h₁.get? b = some o := fun b o e => up2 b o (up1 b o e)
  have hD : h₁.get? h1.objs.size = some (LCg.lst []) := hsb₁.extBut _ _ (Nat.ne_of_lt l12) (Heap.get?_push_of_some _ (hH2 ▸ Heap.get?_push_size _ rfl))
  have fresh₀ : ∀ a : Addr, s.heap.objs.size ≤ a → h₀.get? a = none := fun a ha => by
    cases e : h₀.get? a with
    | none => rfl
    | some o' => exact absurd (Heap.lt_size (F.keep a o' e)) (Nat.not_lt.mpr ha)
  have hLlt : L < s.heap.objs.size := F.ns.lt
  have off : LCg.Off3 s.heap.objs.size H2.objs.size h1.objs.size news := LCg.Off3.of fun p hp => by
    have hb := Heap.lt_size (N p hp).1
    exact ⟨Nat.ne_of_lt hb, Nat.ne_of_lt (Nat.lt_trans hb l02), Nat.ne_of_lt (Nat.lt_trans hb l01)⟩
  have hCL : H2.objs.size ≠ L := Nat.ne_of_gt (Nat.lt_trans hLlt l02)
  have hDL : h1.objs.size ≠ L := Nat.ne_of_gt (Nat.lt_trans hLlt l01)
  have hCD : H2.objs.size ≠ h1.objs.size := Nat.ne_of_gt l12
  have hst₁ : IterK kk h₁ s.heap.objs.size ax 0 := by
    obtain ⟨oI, e⟩ := hI1
    cases kk with
    | true => obtain ⟨o, q, r⟩ := hst; exact ⟨o, up2 _ _ q, r⟩
    | false => obtain ⟨o, q, r⟩ := hst; exact ⟨o, up2 _ _ q, r⟩
  have N₁ : News h₀ L h₁ ((h1.objs.size, LCg.lst []) :: news) := fun p hp => by
    rcases List.mem_cons.mp hp with rfl | hp
    · exact ⟨hD, hDL, fresh₀ _ (Nat.le_of_lt l01)⟩
    · exact ⟨up _ _ (N p hp).1, (N p hp).2⟩
  have loop : codeAny (model prog w) A (.compLoop (.ListComp elt [⟨.Name x px, iter, ifs, 0⟩] scope pos) 0 (.ref s.heap.objs.size) (.ref h1.objs.size) (compEnvC scope cl H2.objs.size env))
      (RR (.ref h1.objs.size) H2.objs.size) { s with heap := h₁, toks := s.toks + ([] : List (Str × Value)).length } := by
    refine comp_loop_inv (Inv := Inv) W hsz hkind hx (F.keeps up) hns₁ N₁ hst₁ hS off hCL (fresh₀ _ (Nat.le_of_lt l02)) hCD (Nat.ne_of_gt hLlt) (fresh₀ _ (Nat.le_refl _)) (Nat.ne_of_lt l02) (Nat.ne_of_lt l01) (Nat.ne_of_lt (Nat.lt_trans haxlt l02)) h0 (turn _ ⟨_, _, rfl⟩) ?_
    intro h tk mC' ys news' F' hn' N' off' hI hyl
    exact hRR _ _ h tk mC' ys news' F' N' off'.one hn' (fresh₀ _ (Nat.le_of_lt l02)) (fresh₀ _ (Nat.le_of_lt l01)) hCL hDL hCD (fun p hp => (off'.mem p hp).2.1) hI hyl
  refine codeAny_compStart_list loop (W.self 0 _ _ _ ⟨hst₁, ?_⟩ loop)
  cases kk with
  | true => obtain ⟨o, e, r⟩ := hq1; exact ⟨o, up2 _ _ e, r⟩
  | false => obtain ⟨o, e, r⟩ := hq1; exact ⟨o, up2 _ _ e, r⟩
theorem news_lit3 {h : Heap} {a b c : Addr × Obj} {lit nw : List (Addr × Obj)} (N : News h₀ L h (a :: b :: c :: nw)) (hsub : ∀ p ∈ lit, p ∈ nw) : News h₀ L h (a :: b :: c :: (lit ++ nw)) := fun p hp => N p (by
  rcases List.mem_cons.mp hp with rfl | hp
  · exact List.Mem.head _
  · rcases List.mem_cons.mp hp with rfl | hp
    · exact List.Mem.tail _ (List.Mem.head _)
    · rcases List.mem_cons.mp hp with rfl | hp
      · exact List.Mem.tail _ (List.Mem.tail _ (List.Mem.head _))
      · rcases List.mem_append.mp hp with hp | hp
        · exact List.Mem.tail _ (List.Mem.tail _ (List.Mem.tail _ (hsub p hp)))
        · exact List.Mem.tail _ (List.Mem.tail _ (List.Mem.tail _ hp)))
theorem news_lit1 {h : Heap} {a : Addr × Obj} {lit nw : List (Addr × Obj)} (N : News h₀ L h (a :: nw)) (hsub : ∀ p ∈ lit, p ∈ nw) : News h₀ L h (a :: (lit ++ nw)) := fun p hp => N p (by
  rcases List.mem_cons.mp hp with rfl | hp
  · exact List.Mem.head _
  · rcases List.mem_append.mp hp with hp | hp
    · exact List.Mem.tail _ (hsub p hp)
    · exact List.Mem.tail _ hp)
theorem comp_fin1 {h : Heap} {a b c d : Addr × Obj} {lit nw : List (Addr × Obj)} (N : News h₀ L h (d :: a :: b :: c :: (lit ++ nw))) : News h₀ L h (a :: b :: c :: d :: nw) := fun p hp => N p (by
  rcases List.mem_cons.mp hp with rfl | hp
  · exact List.Mem.tail _ (List.Mem.head _)
  · rcases List.mem_cons.mp hp with rfl | hp
    · exact List.Mem.tail _ (List.Mem.tail _ (List.Mem.head _))
    · rcases List.mem_cons.mp hp with rfl | hp
      · exact List.Mem.tail _ (List.Mem.tail _ (List.Mem.tail _ (List.Mem.head _)))
      · rcases List.mem_cons.mp hp with rfl | hp
        · exact List.Mem.head _
        · exact List.Mem.tail _ (List.Mem.tail _ (List.Mem.tail _ (List.Mem.tail _ (List.mem_append_right _ hp)))))
/-- what a comprehension's source must be, and what its turns keep -/
inductive CSrc (prog : Program) (w : World) (A : Around) (h₀ : Heap) (L : Addr) (m : Str → Option Value) (env : Env) (elt : Expr) (ifs : List Expr) (x : Str) (scope : Scope) (cl : List (Str × Addr)) (Fin : Shared → List Value → List (Addr × Obj) → Prop) : Value → Shared → Prop
  | mk (kk : Bool) (ax : Addr) (its : Array Value) (news : List (Addr × Obj)) (Inv : Nat → List Value → List (Addr × Obj) → Prop) {xv : Value} {s₁ : Shared} (e : xv = .ref ax) (hh : A.handled = none) (F : Fr h₀ L s₁.heap m) (N : News h₀ L s₁.heap news) (S : SrcK kk h₀ ax its news) (hsz : its.size ≤ 1000000) (h0 : Inv 0 [] news)
    (turn : ∀ s₂ : Shared, (∃ h tk, s₂ = { s₁ with heap := h, toks := tk }) → CTurn prog w A h₀ L m env elt ifs x scope cl s₂ (SrcK kk h₀ ax its) its Inv) (fin : ∀ ys news', ys.length ≤ its.size → Inv its.size ys news' → Fin s₁ ys news') : CSrc prog w A h₀ L m env elt ifs x scope cl Fin xv s₁
theorem eval_comp1 {elt iter : Expr} {x : Str} {px : Pos} {ifs : List Expr} {scope : Scope} {cl : List (Str × Addr)} {pos : Pos} {E Q : Value → Shared → Prop} (_F₀ : Fr h₀ L s.heap m)
    (hclos : closureFor scope env = pure cl) (hcell : ∀ y ∈ scope.names, y.2 ≠ .cell) (hkind : scope.kind = .function)
    (hnames : ∀ y ∈ scope.names, y.2 = .local → scope.names.lookup y.1 = some .local) (hx : scope.names.lookup x = some .local)
    (h : wpAny (model prog w) A (eval iter env) (CSrc prog w A h₀ L m env elt ifs x scope cl (fun s₂ => LCg.FinE h₀ L m s₂ Q)) E s)
    (hs : ∀ x, foldedSetIterable iter env x = pure x) :
    wpAny (model prog w) A (eval (.ListComp elt [⟨.Name x px, iter, ifs, 0⟩] scope pos) env) Q E s := by
  rw [eval_ListComp]
  refine wpAny_comprehension_free (use := none) rfl hs hclos hkind hnames (wpAny_mono h (fun xv s₁ h₁ => ?_) fun _ _ e => e)
  obtain ⟨kk, ax, its, news, Inv, rfl, hh, F, N, S, hsz, h0, turn, fin⟩ := h₁
  refine comp_block1 hh hsz hcell hkind hx F N S h0 turn ?_
  intro D C h tk m' ys news' F' N' o1 hn hC₀ hD₀ hCL hDL hCD offC hI hyl
  refine ⟨m', hn, fun h'' hs'' => fin ys news' hyl hI D h'' tk (F'.change hs'' hCL hC₀) (fun p hp => ?_) o1⟩
  refine ⟨hs''.extBut _ _ ?_ (N' p hp).1, (N' p hp).2⟩
  rcases List.mem_cons.mp hp with rfl | hp
  · exact Ne.symm hCD
  · exact offC p hp
theorem assign_comp1 {elt iter : Expr} {x y : Str} {px py : Pos} {ifs : List Expr} {scope : Scope} {cl : List (Str × Addr)} {pos spos : Pos} {E : Value → Shared → Prop} {Q : Flow → Shared → Prop} (_F₀ : Fr h₀ L s.heap m) (hLe : env.locals = L)
    (hsw : swapsWith (.ListComp elt [⟨.Name x px, iter, ifs, 0⟩] scope pos) (some (.Name y py)) spos.line env = pure true)
    (hclos : closureFor scope env = pure cl) (hcell : ∀ z ∈ scope.names, z.2 ≠ .cell) (hkind : scope.kind = .function)
    (hnames : ∀ z ∈ scope.names, z.2 = .local → scope.names.lookup z.1 = some .local) (hx : scope.names.lookup x = some .local)
    (hy : env.kindOf y = some .local) (hp : (env.scope.kind == .class || (env.scope.kind == .module && env.locals != env.globals)) = false)
    (h : wpAny (model prog w) A (eval iter env) (CSrc prog w A h₀ L m env elt ifs x scope cl (fun s₂ => LCg.FinA h₀ L m s₂ y Q)) E s)
    (hs : ∀ x, foldedSetIterable iter env x = pure x) :
    wpAny (model prog w) A (exec (.Assign [.Name y py] (.ListComp elt [⟨.Name x px, iter, ifs, 0⟩] scope pos) spos) env) Q E s := by
  subst hLe
  rw [exec_Assign_Name_used _ _ _ _ hsw]
  refine wpAny_bind (wpAny_standAt (wpAny_bind ?_))
  show wpAny _ A (do let _ ← comprehension (.ListComp elt [⟨.Name x px, iter, ifs, 0⟩] scope pos) scope env _ (newList []) false (eval iter env) (some (assign (.Name y py) env))) _ _ s
  refine wpAny_bind (wpAny_mono (wpAny_comprehension_free (use := some (assign (.Name y py) env)) (Q := fun _ s' => Q .next s') rfl hs hclos hkind hnames
    (wpAny_mono h (fun xv s₁ h₁ => ?_) fun _ _ e => e)) (fun _ s' hq => wpAny_pure (wpAny_pure hq)) fun _ _ e => e)
  obtain ⟨kk, ax, its, news, Inv, rfl, hh, F, N, S, hsz, h0, turn, fin⟩ := h₁
  refine comp_block1 hh hsz hcell hkind hx F N S h0 turn ?_
  intro D C h' tk m' ys news' F' N' o1 hn hC₀ hD₀ hCL hDL hCD offC hI hyl
  show wpAny _ A (assign (.Name y py) env (.ref D)) _ _ _
  refine wpAny_assign_Name (wpAny_storeName_local hy F'.ns (fun h₂ hn₂ hs₂ => ?_) hp)
  have hL₀ : h₀.get? env.locals = none := Heap.get?_none_of_le F'.above
  have F₂ : Fr h₀ env.locals h₂ (fun z => if z = y then some (.ref D) else m z) := ⟨hn₂, fun b o e => hs₂.extBut b o (fun q => by rw [q, hL₀] at e; cases e) (F'.keep b o e), F'.above⟩
  refine ⟨m', hn.sameBut hs₂ hCL, fun h'' hs'' => fin ys news' hyl hI D h'' _ (F₂.change hs'' hCL hC₀) (fun p hp => ?_) o1⟩
  have z : h₂.get? p.1 = some p.2 := hs₂.extBut _ _ (N' p hp).2.1 (N' p hp).1
  refine ⟨hs''.extBut _ _ ?_ z, (N' p hp).2⟩
  rcases List.mem_cons.mp hp with rfl | hp
  · exact Ne.symm hCD
  · exact offC p hp
end
end piece_L13
section piece_L14
section
variable {prog : Program} {w : World} {A : Around} {E : Value → Shared → Prop} {s : Shared}
noncomputable def hB (b : Bool) : Int := if b then 1 else 0
theorem hash_bool {b : Bool} {Q : Int → Shared → Prop} (h : Q (hB b) { s with toks := s.toks + 1 }) : wpAny (model prog w) A (pyHash (.bool b)) Q E s := by
  have hT : s.TypeIs (.bool b) "bool" := rfl
  unfold pyHash
  have hv : [Value.bool b].any Value.onHeap = false := rfl
  refine wpAny_bind ?_
  rw [cRoomFor, if_neg (by rw [hv]; exact Bool.false_ne_true)]
  refine wpAny_pure ?_
  refine wpAny_bind (wpAny_specialOf hT F.slot_bool_hash.lookup ?_)
  show wpAny _ _ (if (some (Value.builtin "int.__hash__") == some Value.none) = true then _ else _) Q E s
  rw [if_neg (by rw [beq_builtin_none]; exact Bool.false_ne_true)]
  refine wpAny_bind (wpAny_specialOf hT F.slot_bool_hash.lookup ?_)
  show wpAny _ _ (callSpecialIfBoundUnlessNone? (.bool b) "__hash__" _ >>= _) Q E s
  refine wpAny_bind (wpAny_callSpecialIfBoundUnlessNone?_slot hT F.slot_bool_hash
    (wpAny_call_entry F.slot_bool_hash hT entry_int_hash ?_ (args_int_hash _)))
  have e : Builtin.«int.__hash__» ⟨[.bool b], []⟩ = (do ret (← mkInt (hB b))) := by cases b <;> rfl
  rw [e]
  refine wpAny_ret_mkInt ?_
  show wpAny _ _ (if (decide (-(2 : Int) ^ 63 ≤ hB b) && decide (hB b < 2 ^ 63)) = true then _ else _) Q E _
  rw [if_pos (by cases b <;> decide)]
  refine wpAny_pure ?_
  rw [if_neg (by cases b <;> decide)]
  exact h
theorem eq_bool_self {b : Bool} {Q : Bool → Shared → Prop} (h : Q true s) : wpAny (model prog w) A (eqBool (.bool b) (.bool b)) Q E s := by
  unfold eqBool
  show wpAny _ _ (if (Value.bool b == Value.bool b) = true then _ else _) Q E s
  rw [if_pos (by simp)]
  exact wpAny_bind (wpAny_rule (wpAny_pure h))
noncomputable def tabOne (b led : Bool) : SetTable := { mask := 7, place := #[if b then 1 else 0], dummies := #[], finger := 0, led := led, moves := 0, plain := true }
noncomputable abbrev setEmp (led : Bool) : Obj := { cls := .type "set", dict := none, data := .set #[] 0 (.fresh 0 0 led) }
noncomputable abbrev setOne (b led : Bool) : Obj := { cls := .type "set", dict := none, data := .set #[(hB b, .bool b)] 1 (tabOne b led) }
theorem lay_one (b led : Bool) : layNew (SetTable.fresh 0 0 led) #[] (hB b) (.bool b) = (#[(hB b, .bool b)], tabOne b led, false, false) := by
  cases b <;> rfl
theorem scan_emp (b : Bool) : byScan (.bool b) #[] = true := by cases b <;> decide +kernel
theorem scan_one (b : Bool) : byScan (.bool b) #[(hB b, .bool b)] = true := by cases b <;> decide +kernel
theorem add_first {a : Addr} {b led : Bool} {Q : Bool → Shared → Prop} (ho : s.heap.get? a = some (setEmp led))
    (h : ∀ h' tk, h'.get? a = some (setOne b led) → Heap.SameBut a s.heap h' → Q true { s with heap := h', toks := tk }) : wpAny (model prog w) A (setAdd a (.bool b)) Q E s := by
  unfold setAdd
  refine wpAny_holding (wpAny_bind (hash_bool ?_))
  unfold setAddHashed setAddHashedIn
  refine wpAny_holding (wpAny_bind (wpAny_setState_of ho rfl rfl ?_))
  dsimp only
  refine wpAny_ite_true (decide_eq_true (scan_emp b)) ?_
  unfold setAddByScan
  refine wpAny_bind (wpAny_bind (wpAny_rule ?_))
  refine wpAny_bind (m := setScan _ _ _ _ _) ?_
  show wpAny _ _ (setScanFrom a (.bool b) (hB b) true [] 0) _ _ _
  unfold setScanFrom
  refine wpAny_pure ?_
  dsimp only
  rw [lay_one]
  dsimp only
  refine wpAny_bind (wpAny_pure ?_)
  refine wpAny_ite_true (by rfl) ?_
  refine wpAny_bind (m := hashByValue _ _) (wpAny_pure ?_)
  refine wpAny_bind ?_
  unfold storeSet
  refine wpAny_bind (wpAny_load ho ?_)
  refine wpAny_ite_false (by rw [sizeLine_eq]; simp) ?_
  refine wpAny_update ho ?_
  refine wpAny_ite_false (by cases b <;> cases led <;> decide +kernel) ?_
  refine wpAny_pure ?_
  exact wpAny_pure (h _ _ (Heap.get?_update_self _ ho rfl) (Heap.SameBut.update ..))
theorem add_again {a : Addr} {b led : Bool} {Q : Bool → Shared → Prop} (ho : s.heap.get? a = some (setOne b led))
    (h : ∀ tk, Q false { s with toks := tk }) : wpAny (model prog w) A (setAdd a (.bool b)) Q E s := by
  unfold setAdd
  refine wpAny_holding (wpAny_bind (hash_bool ?_))
  unfold setAddHashed setAddHashedIn
  refine wpAny_holding (wpAny_bind (wpAny_setState_of ho rfl rfl ?_))
  dsimp only
  refine wpAny_ite_true (decide_eq_true (scan_one b)) ?_
  unfold setAddByScan
  refine wpAny_bind (wpAny_bind (wpAny_rule ?_))
  refine wpAny_bind (m := setScan _ _ _ _ _) ?_
  show wpAny _ _ (setScanFrom a (.bool b) (hB b) true [(hB b, .bool b)] 0) _ _ _
  unfold setScanFrom
  refine wpAny_ite_true (by simp) ?_
  refine wpAny_bind ?_
  unfold setEpoch
  refine wpAny_bind (wpAny_setState_of ho rfl rfl (wpAny_pure ?_))
  refine wpAny_bind (eq_bool_self ?_)
  refine wpAny_ite_true (by rfl) ?_
  refine wpAny_pure ?_
  exact wpAny_pure (wpAny_pure (h _))
end
theorem entry_set_iter : entryFor table "set.__iter__" = some Builtin.«frozenset.__iter__» :=
  entryFor_alias (id' := "frozenset.__iter__") (by kernel_rfl) (by first | rfl | decide +kernel | (unfold String.splitOn; simp +decide [String.splitOnAux])) (by decide +kernel) (by kernel_rfl)
theorem slot_setit_next : Slot "set_iterator" "__next__" "set_iterator.__next__" :=
  .of (owner := "set_iterator") (n := "__next__") (by rw [typeLookup_type, builtinLookup_eq_fast]; kernel_rfl) (by decide +kernel) (by decide +kernel) (by decide +kernel)
    (by first | exact .inl (by decide +kernel) | exact .inr (by decide +kernel)) (by rw [isSubtype_type]; kernel_rfl)
theorem entry_setit_next : entryFor table "set_iterator.__next__" = some Builtin.«set_iterator.__next__» := entryFor_of_tree (by kernel_rfl)
theorem owner_setit : Manifest.owners.lookup (String.ofList ['r', 'o', 't', 'a', 'r', 'e', 't', 'i', '_', 't', 'e', 's'].reverse) = some Manifest.sig_set_iterator := by kernel_rfl
theorem args_setit_next (a : Value) : argsOk "set_iterator.__next__" ⟨[a], []⟩ := by
  unfold argsOk; rw [signature?_of (id := "set_iterator.__next__") (n := ['_', '_', 't', 'x', 'e', 'n', '_', '_']) (o := ['r', 'o', 't', 'a', 'r', 'e', 't', 'i', '_', 't', 'e', 's']) (by kernel_rfl) owner_setit]; kernel_rfl
noncomputable abbrev setIt (a : Addr) (slot i : Nat) : Obj := { cls := .type "set_iterator", data := .fields #[rawInt slot, rawInt i, .ref a, rawInt 1, rawInt 1] }
section
variable {prog : Program} {w : World} {A : Around} {E : Value → Shared → Prop} {s : Shared}
noncomputable abbrev byText (w : World) : Bool := w.params.followText "set-order"
theorem sets_by_text {Q : Bool → Shared → Prop} (h : Q (byText w) s) : wpAny (model prog w) A setsByText Q E s := by
  unfold setsByText
  exact wpAny_bind (wpAny_askSetting (wpAny_pure h))
theorem iter_set {a : Addr} {b : Bool} {Q : Value → Shared → Prop} (ho : s.heap.get? a = some (setOne b (!byText w)))
    (h : Q (.ref s.heap.objs.size) { s with heap := s.heap.push (setIt a 0 0) }) : wpAny (model prog w) A (pyIter (.ref a)) Q E s := by
  have hT : s.TypeIs (.ref a) "set" := ⟨_, ho, rfl⟩
  refine wpAny_pyIter_slot hT F.slot_set_iter (wpAny_call_entry F.slot_set_iter hT entry_set_iter ?_ (F.args_set_iter_1 _))
  show wpAny _ _ (Builtin.Frozenset.sizeOf a >>= fun n => (setDrawn a) >>= fun d => _) _ _ s
  refine wpAny_bind ?_
  unfold Builtin.Frozenset.sizeOf
  refine wpAny_bind (wpAny_setEntries_of ho rfl rfl (wpAny_pure ?_))
  refine wpAny_bind ?_
  unfold setDrawn
  refine wpAny_bind (wpAny_setState_of ho rfl rfl ?_)
  dsimp only
  refine wpAny_bind (sets_by_text (wpAny_pure ?_))
  refine wpAny_ite_false (by cases hb : byText w <;> rfl) ?_
  refine wpAny_bind (wpAny_pure ?_)
  refine wpAny_bind ?_
  unfold setEpoch
  refine wpAny_bind (wpAny_setState_of ho rfl rfl (wpAny_pure ?_))
  refine wpAny_bind (wpAny_newObj_type ?_)
  exact wpAny_pure ⟨_, rfl, "set_iterator", _, ⟨_, Heap.get?_push_size _ rfl, rfl⟩, slot_setit_next.lookup, h⟩
theorem pick_one (f : Nat → Nat) (x : Int × Value) : pickOrder f #[x] = #[x] := by
  unfold pickOrder
  simp [pickOrder.go, Nat.mod_one]
theorem walk_one {a : Addr} {b : Bool} {Q : Array (Int × Value) → Shared → Prop} (ho : s.heap.get? a = some (setOne b (!byText w))) (h : Q #[(hB b, .bool b)] s) : wpAny (model prog w) A (setWalk a) Q E s := by
  unfold setWalk
  refine wpAny_bind (wpAny_setState_of ho rfl rfl ?_)
  dsimp only
  refine wpAny_bind (sets_by_text ?_)
  cases hb : byText w with
  | true =>
    refine wpAny_ite_true (by rfl) ?_
    refine wpAny_bind (wpAny_askSetting ?_)
    rw [pick_one]
    exact wpAny_pure h
  | false =>
    refine wpAny_ite_false (by rfl) ?_
    refine wpAny_ite_false (by rfl) ?_
    refine wpAny_bind ?_
    refine wpAny_ite_false (by rfl) ?_
    exact wpAny_pure (wpAny_pure h)
noncomputable def nextSlot (w : World) (b : Bool) : Nat := if byText w then 0 else (if b then 1 else 0) + 1
theorem set_next0 {a : Addr} {b : Bool} {Q : Option (Value × Nat) → Shared → Prop} (ho : s.heap.get? a = some (setOne b (!byText w))) (h : Q (some (.bool b, nextSlot w b)) s) : wpAny (model prog w) A (setNext a 0 0 1) Q E s := by
  unfold setNext
  refine wpAny_bind (wpAny_setState_of ho rfl rfl ?_)
  dsimp only
  refine wpAny_bind (sets_by_text ?_)
  unfold nextSlot at h
  cases hb : byText w with
  | true =>
    rw [hb] at h
    refine wpAny_ite_true (by rfl) ?_
    refine wpAny_ite_false (by rfl) ?_
    refine wpAny_bind (walk_one ho ?_)
    exact wpAny_pure h
  | false =>
    rw [hb] at h
    refine wpAny_ite_false (by rfl) ?_
    refine wpAny_ite_false (by rfl) ?_
    cases b <;> exact wpAny_pure h
theorem set_next1 {a : Addr} {b : Bool} {Q : Option (Value × Nat) → Shared → Prop} (ho : s.heap.get? a = some (setOne b (!byText w))) (h : Q none s) : wpAny (model prog w) A (setNext a (nextSlot w b) 1 1) Q E s := by
  unfold setNext
  refine wpAny_bind (wpAny_setState_of ho rfl rfl ?_)
  dsimp only
  refine wpAny_bind (sets_by_text ?_)
  unfold nextSlot
  cases hb : byText w with
  | true =>
    refine wpAny_ite_true (by rfl) ?_
    refine wpAny_ite_false (by rfl) ?_
    refine wpAny_bind (walk_one ho ?_)
    exact wpAny_pure h
  | false =>
    refine wpAny_ite_false (by rfl) ?_
    refine wpAny_ite_false (by rfl) ?_
    cases b <;> exact wpAny_pure h
theorem next_set_first {a I : Addr} {b : Bool} {Q : Option Value → Shared → Prop} (ho : s.heap.get? a = some (setOne b (!byText w))) (hi : s.heap.get? I = some (setIt a 0 0))
    (h : ∀ h', h'.get? I = some (setIt a (nextSlot w b) 1) → Heap.SameBut I s.heap h' → Q (some (.bool b)) { s with heap := h' }) : wpAny (model prog w) A (pyNext (.ref I)) Q E s := by
  have hT : s.TypeIs (.ref I) "set_iterator" := ⟨_, hi, rfl⟩
  unfold pyNext
  refine wpAny_bind (wpAny_attempt (wpAny_callSpecial?_slot (name := Str.ofString "__next__") hT slot_setit_next (wpAny_call_entry slot_setit_next hT entry_setit_next ?_ (args_setit_next _))))
  show wpAny _ _ (fieldsOf (.ref I) >>= fun f => _) _ _ s
  refine wpAny_bind (wpAny_fieldsOf hi rfl ?_)
  show wpAny _ _ (setEntries a >>= fun es => _) _ _ s
  refine wpAny_bind (wpAny_setEntries_of ho rfl rfl ?_)
  refine wpAny_ite_false (by rfl) ?_
  refine wpAny_bind (m := setNext a 0 0 1) (set_next0 ho ?_)
  dsimp only
  refine wpAny_bind (wpAny_setField_rec hi (by simp) fun h₁ hi₁ hs₁ => ?_)
  refine wpAny_bind (wpAny_setField_rec hi₁ (by simp) fun h₂ hi₂ hs₂ => ?_)
  exact wpAny_pure ⟨_, rfl, wpAny_pure (h h₂ hi₂ (hs₁.trans hs₂))⟩
theorem next_set_end {a I : Addr} {b : Bool} {Q : Option Value → Shared → Prop} (hh : A.handled = none) (ho : s.heap.get? a = some (setOne b (!byText w))) (hi : s.heap.get? I = some (setIt a (nextSlot w b) 1))
    (h : ∀ h', Heap.ExtBut I s.heap h' → Q none { s with heap := h' }) : wpAny (model prog w) A (pyNext (.ref I)) Q E s := by
  have hT : s.TypeIs (.ref I) "set_iterator" := ⟨_, hi, rfl⟩
  unfold pyNext
  refine wpAny_bind (wpAny_attempt (wpAny_callSpecial?_slot (name := Str.ofString "__next__") hT slot_setit_next (wpAny_call_entry slot_setit_next hT entry_setit_next ?_ (args_setit_next _))))
  show wpAny _ _ (fieldsOf (.ref I) >>= fun f => _) _ _ s
  refine wpAny_bind (wpAny_fieldsOf hi rfl ?_)
  show wpAny _ _ (setEntries a >>= fun es => _) _ _ s
  refine wpAny_bind (wpAny_setEntries_of ho rfl rfl ?_)
  refine wpAny_ite_false (by rfl) ?_
  refine wpAny_bind (m := setNext a (nextSlot w b) 1 1) (set_next1 ho ?_)
  dsimp only
  refine wpAny_bind (wpAny_setField_rec hi (by simp) fun h₁ hi₁ hs₁ => ?_)
  refine wpAny_bind ?_
  simp only [newExc, newTuple]
  refine wpAny_bind (wpAny_newObj_type ?_ (by size_fits))
  refine wpAny_bind (m := firstArgMember _ _) (wpAny_of_eq (a := Value.none) (by first | rfl | (simp only [firstArgMember]; rfl)) ?_)
  refine wpAny_newObj_type ?_ (by size_fits)
  simp only [raiseNew]
  refine wpAny_bind (wpAny_handled ?_)
  rw [show A.in1.handled = none from hh]
  refine wpAny_bind (wpAny_pure (wpAny_throw ?_))
  refine wpAny_bind (wpAny_isInstance (T := "StopIteration") (b := true) ⟨_, Heap.get?_push_size _ rfl, rfl⟩ isSubtype_stop ?_)
  exact wpAny_pure (h _ ((hs₁.extBut.push _).push _))
/-- the one thing in a set of one bool -/
theorem unpack_set {a : Addr} {b : Bool} {Q : List Value → Shared → Prop} (hh : A.handled = none) (ho : s.heap.get? a = some (setOne b (!byText w)))
    (h : ∀ h', (∀ c o, s.heap.get? c = some o → h'.get? c = some o) → Q [.bool b] { s with heap := h' }) : wpAny (model prog w) A (unpackItems (.ref a) 1 none) Q E s := by
  have hT : s.TypeIs (.ref a) "set" := ⟨_, ho, rfl⟩
  have hlt := Heap.lt_size ho
  have up : ∀ c o, s.heap.get? c = some o → (s.heap.push (setIt a 0 0)).get? c = some o := fun c o e => Heap.get?_push_of_some _ e
  unfold unpackItems
  refine wpAny_bind ?_
  unfold notIterableAtAll
  refine wpAny_bind (wpAny_specialOf hT F.slot_set_iter.lookup ?_)
  refine wpAny_ite_true rfl (wpAny_pure ?_)
  refine wpAny_ite_false (by decide) ?_
  refine wpAny_bind (wpAny_holding (iter_set ho ?_))
  refine wpAny_bind (wpAny_holding ?_)
  refine wpAny_bind (next_set_first (up _ _ ho) (Heap.get?_push_size _ rfl) fun h₁ hi₁ hs₁ => ?_)
  refine wpAny_bind (wpAny_holding (wpAny_pure (wpAny_pure ?_)))
  refine wpAny_ite_false (by exact decide_eq_false (by show ¬ 1 < 1; decide)) ?_
  refine wpAny_bind (wpAny_holding (next_set_end hh (hs₁.extBut _ _ (Nat.ne_of_lt hlt) (up _ _ ho)) hi₁ fun h₂ hk₂ => ?_))
  refine wpAny_ite_false (by decide) ?_
  refine wpAny_pure (h h₂ fun c o e => ?_)
  have hc : c ≠ s.heap.objs.size := Nat.ne_of_lt (Heap.lt_size e)
  exact hk₂ _ _ hc (hs₁.extBut _ _ hc (up c o e))
end
end piece_L14
section piece_L15
section
variable {prog : Program} {w : World} {A : Around} {R : Result → Shared → Prop} {s : Shared}
/-- one loop of a set's comprehension -/
theorem comp_loopE {elt : Expr} {gens : List Comprehension} {scope : Scope} {pos : Pos} {depth : Nat} {tgt : Expr} {p : Pos} {ifs : List Expr} {emit : Sem Unit} {it acc : Value} {env : Env}
    (he : compTurn (.SetComp elt gens scope pos) depth it acc env = (do
      standAt p
      match ← pyNext it with
      | none => pure (.done .next)
      | some v =>
        letOwnedTupleGo tgt it v
        assign tgt env v
        let mut ok := true
        for c in ifs do
          if ok then ok ← isTrue c env (eval c env)
        if ok then emit
        again (.compLoop (.SetComp elt gens scope pos) depth it acc env)))
    (I : Nat → Shared → Prop)
    (turn : ∀ n s, I n s → wpAny (model prog w) A (pyNext it) (fun r s₁ => match r with
      | none => R (.ok .next) s₁
      | some v => wpAny (model prog w) A (letOwnedTupleGo tgt it v) (fun _ s₁' => wpAny (model prog w) A (assign tgt env v) (fun _ s₂ =>
          wpAny (model prog w) A (testsOf ifs env) (fun ok s₃ =>
            if ok = true then wpAny (model prog w) A emit (fun _ s₅ => ∃ m, m < n ∧ I m s₅) (NB prog w A env R) s₃
            else ∃ m, m < n ∧ I m s₃) (NB prog w A env R) s₂) (NB prog w A env R) s₁') (NB prog w A env R) s₁) (NB prog w A env R) s)
    (n : Nat) (h : I n s) : codeAny (model prog w) A (.compLoop (.SetComp elt gens scope pos) depth it acc env) R s := by
  refine codeAny_loop rfl I (fun n s hI => ?_) n h
  show wpAny _ A ((compTurn (.SetComp elt gens scope pos) depth it acc env).onRaise (fun x => do noteFrame x env; theTreesLotGoes x)) _ _ s
  refine wpAny_noted ?_
  rw [he]
  refine wpAny_bind (wpAny_standAt (wpAny_bind (wpAny_mono (turn n s hI) (fun r s₁ h₁ => ?_) fun _ _ h' => h')))
  cases r with
  | none => exact wpAny_pure h₁
  | some v =>
    refine wpAny_bind (wpAny_mono h₁ (fun _ s₁' h₁' => ?_) fun _ _ h' => h')
    refine wpAny_bind (wpAny_mono h₁' (fun _ s₂ h₂ => wpAny_bind (wpAny_mono h₂ (fun ok s₃ h₃ => ?_) fun _ _ h' => h')) fun _ _ h' => h')
    cases ok with
    | false => exact wpAny_pure ⟨rfl, h₃⟩
    | true => exact wpAny_bind (wpAny_mono h₃ (fun _ s₅ h₅ => wpAny_pure ⟨rfl, h₅⟩) fun _ _ h' => h')
end
section
variable {prog : Program} {w : World} {A : Around} {s : Shared} {h₀ : Heap} {L : Addr} {m : Str → Option Value} {env : Env}
theorem set_start {R : Result → Shared → Prop} {elt target iter : Expr} {ifs : List Expr} {rest : List Comprehension} {scope : Scope} {pos : Pos} {it acc : Value} {env : Env}
    (h0 : codeAny (model prog w) A (.compLoop (.SetComp elt (⟨target, iter, ifs, 0⟩ :: rest) scope pos) 0 it acc env) R s)
    (h : wpAny (model prog w) A (pyIter it) (fun it' s' => codeAny (model prog w) A (.compLoop (.SetComp elt (⟨target, iter, ifs, 0⟩ :: rest) scope pos) 0 it' acc env) R s') (NB prog w A env R) s) :
    codeAny (model prog w) A (.compStart (.SetComp elt (⟨target, iter, ifs, 0⟩ :: rest) scope pos) 0 it acc env) R s := by
  refine codeAny_of_tree ?_
  show wpAny _ _ ((compStart (.SetComp elt (⟨target, iter, ifs, 0⟩ :: rest) scope pos) 0 it acc env).onRaise (fun x => do noteFrame x env; standAt theWindowsPlace)) _ _ s
  refine wpAny_notedAt ?_
  unfold compStart
  show wpAny _ _ (ask >>= _) _ _ s
  refine wpAny_bind (wpAny_askSetting (wpAny_ite ?_))
  split
  · exact wpAny_pure (And.intro rfl h0)
  · refine wpAny_bind (wpAny_rule ?_)
    show wpAny _ _ (standAt iter.pos >>= _) _ _ s
    exact wpAny_bind (wpAny_standAt (wpAny_bind (wpAny_mono h (fun it' s' h' => wpAny_pure (And.intro rfl h')) fun _ _ x => x)))
theorem call_add_first {a : Addr} {b led : Bool} {E Q : Value → Shared → Prop} (ho : s.heap.get? a = some (setEmp led))
    (h : ∀ h' tk, h'.get? a = some (setOne b led) → Heap.SameBut a s.heap h' → Q .none { s with heap := h', toks := tk }) : wpAny (model prog w) A (call (.builtin "set.add") [.ref a, .bool b]) Q E s := by
  have hT : s.TypeIs (.ref a) "set" := ⟨_, ho, rfl⟩
  refine wpAny_call_entry F.slot_set_add hT F.entry_set_add ?_ (F.args_set_add_2 _ _)
  show wpAny _ _ (setAdd a (.bool b) >>= fun _ => ret .none) _ _ s
  refine wpAny_bind (add_first ho fun h' tk h1 h2 => wpAny_pure ⟨_, rfl, h h' tk h1 h2⟩)
theorem call_add_again {a : Addr} {b led : Bool} {E Q : Value → Shared → Prop} (ho : s.heap.get? a = some (setOne b led))
    (h : ∀ tk, Q .none { s with toks := tk }) : wpAny (model prog w) A (call (.builtin "set.add") [.ref a, .bool b]) Q E s := by
  have hT : s.TypeIs (.ref a) "set" := ⟨_, ho, rfl⟩
  refine wpAny_call_entry F.slot_set_add hT F.entry_set_add ?_ (F.args_set_add_2 _ _)
  show wpAny _ _ (setAdd a (.bool b) >>= fun _ => ret .none) _ _ s
  refine wpAny_bind (add_again ho fun tk => wpAny_pure ⟨_, rfl, h tk⟩)
/-- the elements of a set's comprehension are all the one bool -/
noncomputable def STurn (prog : Program) (w : World) (A : Around) (h₀ : Heap) (L : Addr) (m : Str → Option Value) (env : Env) (elt : Expr) (x : Str) (scope : Scope) (cl : List (Str × Addr)) (s : Shared) (its : Array Value) (news : List (Addr × Obj)) (b : Bool) : Prop :=
  ∀ (i : Nat) (v : Value) I oI C oC D oD m₂ h tk (E' : Value → Shared → Prop), its[i]? = some v → LCg.NsObj oC m₂ → m₂ x = some v → Fr h₀ L h m → News h₀ L h ((I, oI) :: (C, oC) :: (D, oD) :: news) →
    wpAny (model prog w) A (eval elt (compEnvC scope cl C env)) (fun y s₄ => y = .bool b ∧ ∃ h' tk', s₄ = { s with heap := h', toks := tk' } ∧ Fr h₀ L h' m ∧ News h₀ L h' ((I, oI) :: (C, oC) :: (D, oD) :: news)) E' { s with heap := h, toks := tk }
inductive SInv (h₀ : Heap) (L : Addr) (m : Str → Option Value) (s : Shared) (I C D ax : Addr) (kk : Bool) (its : Array Value) (o0 o1 : Obj) (news : List (Addr × Obj)) : Nat → Shared → Prop
  | mk (h' : Heap) (tk i : Nat) (m' : Str → Option Value) (hi : i ≤ its.size) (st : IterK kk h' I ax i) (F : Fr h₀ L h' m) (hn : h'.Ns C m') (N : News h₀ L h' ((D, if i = 0 then o0 else o1) :: news)) : SInv h₀ L m s I C D ax kk its o0 o1 news (its.size + 1 - i) { s with heap := h', toks := tk }
theorem set_comp {elt iter : Expr} {x : Str} {px : Pos} {scope : Scope} {cl : List (Str × Addr)} {pos : Pos} {ax : Addr} {kk : Bool} {its : Array Value} {news : List (Addr × Obj)} {E Q : Value → Shared → Prop} {b : Bool} {h9 : Heap} (_F₀ : Fr h₀ L h9 m) (_N₀ : News h₀ L h9 news)
    (hclos : closureFor scope env = pure cl) (hcell : ∀ z ∈ scope.names, z.2 ≠ .cell) (hkind : scope.kind = .function)
    (hnames : ∀ y ∈ scope.names, y.2 = .local → scope.names.lookup y.1 = some .local) (hx : scope.names.lookup x = some .local)
    (hh : A.handled = none) (hsz : 0 < its.size) (hS : SrcK kk h₀ ax its news)
    (hi : wpAny (model prog w) A (eval iter env) (fun xv s₁ => xv = .ref ax ∧ ∃ h tk, s₁ = { s with heap := h, toks := tk } ∧ Fr h₀ L h m ∧ News h₀ L h news) E s)
    (turn : STurn prog w A h₀ L m env elt x scope cl s its news b)
    (hs : ∀ x, foldedSetIterable iter env x = pure x)
    (hQ : ∀ D h tk, Fr h₀ L h m → News h₀ L h ((D, setOne b (!byText w)) :: news) → (∀ p ∈ news, p.1 ≠ D) → Q (.ref D) { s with heap := h, toks := tk }) :
    wpAny (model prog w) A (eval (.SetComp elt [⟨.Name x px, iter, [], 0⟩] scope pos) env) Q E s := by
  rw [arm_eval_SetComp]
  refine wpAny_comprehension_free (use := none) rfl hs hclos hkind hnames (wpAny_mono hi (fun xv s₁ h₁ => ?_) fun _ _ e => e)
  obtain ⟨rfl, h, tk, rfl, F, N⟩ := h₁
  have hq := hS.seq F.keep N
  have haxlt : ax < h.objs.size := by
    cases kk with
    | true => obtain ⟨_, e, _⟩ := hq; exact Heap.lt_size e
    | false => obtain ⟨_, e, _⟩ := hq; exact Heap.lt_size e
  refine iter_k hh hq fun I h1 W hst hq1 hI hsz1 up1 => ?_
  dsimp only at hI hsz1 up1
  subst hI
  have hI1 : ∃ oI, h1.get? h.objs.size = some oI := by
    cases kk with
    | true => obtain ⟨o, e, _⟩ := hst; exact ⟨o, e⟩
    | false => obtain ⟨o, e, _⟩ := hst; exact ⟨o, e⟩
  unfold newSet
  refine wpAny_bind (sets_by_text ?_)
  refine wpAny_newObj_type (wpAny_newFunctionEnv hcell (by intro z hz; simp at hz) (fun h₁ hns₁ hsb₁ => ?_) hkind)
  dsimp only at hns₁ hsb₁ ⊢
  generalize hH2 : h1.push { cls := .type "set", dict := none, data := .set #[] 0 (.fresh 0 0 (!byText w)) } = H2 at hns₁ hsb₁ ⊢
  have s2 : H2.objs.size = h1.objs.size + 1 := by rw [← hH2, Heap.size_push]
  have l01 : h.objs.size < h1.objs.size := by rw [hsz1]; exact Nat.lt_succ_self _
  have l12 : h1.objs.size < H2.objs.size := by rw [s2]; exact Nat.lt_succ_self _
  have l02 : h.objs.size < H2.objs.size := Nat.lt_trans l01 l12
  have up2 : ∀ b o, h1.get? b = some o → h₁.get? b = some o := fun b o e => hsb₁.extBut b o (Nat.ne_of_lt (Nat.lt_trans (Heap.lt_size e) l12)) (Heap.get?_push_of_some _ (hH2 ▸ Heap.get?_push_of_some _ e))
  have up : ∀ b o, h.get? b = some o → h₁.get? b = some o := fun b o e => up2 b o (up1 b o e)
  have hD : h₁.get? h1.objs.size = some (setEmp (!byText w)) := hsb₁.extBut _ _ (Nat.ne_of_lt l12) (Heap.get?_push_of_some _ (hH2 ▸ Heap.get?_push_size _ rfl))
  have fresh₀ : ∀ a : Addr, h.objs.size ≤ a → h₀.get? a = none := fun a ha => by
    cases e : h₀.get? a with
    | none => rfl
    | some o' => exact absurd (Heap.lt_size (F.keep a o' e)) (Nat.not_lt.mpr ha)
  have hLlt : L < h.objs.size := F.ns.lt
  have off : ∀ p ∈ news, p.1 ≠ h.objs.size ∧ p.1 ≠ H2.objs.size ∧ p.1 ≠ h1.objs.size := fun p hp => by
    have hb := Heap.lt_size (N p hp).1
    exact ⟨Nat.ne_of_lt hb, Nat.ne_of_lt (Nat.lt_trans hb l02), Nat.ne_of_lt (Nat.lt_trans hb l01)⟩
  have hCL : H2.objs.size ≠ L := Nat.ne_of_gt (Nat.lt_trans hLlt l02)
  have hDL : h1.objs.size ≠ L := Nat.ne_of_gt (Nat.lt_trans hLlt l01)
  have hCD : H2.objs.size ≠ h1.objs.size := Nat.ne_of_gt l12
  have hC0 := fresh₀ _ (Nat.le_of_lt l02)
  have hD0 := fresh₀ _ (Nat.le_of_lt l01)
  have hI0 := fresh₀ _ (Nat.le_refl _)
  have hIL : h.objs.size ≠ L := Nat.ne_of_gt hLlt
  have hIC : h.objs.size ≠ H2.objs.size := Nat.ne_of_lt l02
  have hID : h.objs.size ≠ h1.objs.size := Nat.ne_of_lt l01
  have haxC : ax ≠ H2.objs.size := Nat.ne_of_lt (Nat.lt_trans haxlt l02)
  have hst₁ : IterK kk h₁ h.objs.size ax 0 := by
    cases kk with
    | true => obtain ⟨o, q, r⟩ := hst; exact ⟨o, up2 _ _ q, r⟩
    | false => obtain ⟨o, q, r⟩ := hst; exact ⟨o, up2 _ _ q, r⟩
  have loop : ∀ RR : Value → Addr → Result → Shared → Prop, (∀ h' tk m', Fr h₀ L h' m → h'.Ns H2.objs.size m' → News h₀ L h' ((h1.objs.size, setOne b (!byText w)) :: news) → RR (.ref h1.objs.size) H2.objs.size (.ok .next) { s with heap := h', toks := tk }) →
      codeAny (model prog w) A (.compLoop (.SetComp elt [⟨.Name x px, iter, [], 0⟩] scope pos) 0 (.ref h.objs.size) (.ref h1.objs.size) (compEnvC scope cl H2.objs.size env))
      (RR (.ref h1.objs.size) H2.objs.size) { s with heap := h₁, toks := tk + ([] : List (Str × Value)).length } := by
    intro RR hRR
    refine comp_loopE (tgt := .Name x px) (p := iter.pos) (ifs := []) (emit := do let v ← eval elt (compEnvC scope cl H2.objs.size env); standAt elt.pos; let _ ← call (.builtin "set.add") [.ref h1.objs.size, v]) rfl
      (SInv h₀ L m s h.objs.size H2.objs.size h1.objs.size ax kk its (setEmp (!byText w)) (setOne b (!byText w)) news) ?_ (its.size + 1)
      (.mk h₁ _ 0 _ (Nat.zero_le _) hst₁ (F.keeps up) hns₁ fun p hp => ?_)
    · rintro k s' ⟨h', tk', i, m', hi', hst', F', hn', N'⟩
      have Nn : News h₀ L h' news := fun p hp => N' p (List.Mem.tail _ hp)
      have hsq := hS.seq F'.keep Nn
      by_cases hlt : i < its.size
      · refine W.item i _ _ _ hlt ⟨hst', hsq⟩ fun v h₂ tk₂ hPv hst₂ hk₂ => ?_
        refine wpAny_of_eq (show letOwnedTupleGo (.Name x px) (.ref h.objs.size) v = pure () from rfl) ?_
        refine wpAny_assign_Name (wpAny_storeName_local (lookup_relabel_local hx) (hn'.at' fun o e => hk₂ _ o (by simpa using Ne.symm hIC) e) (fun h₃ hn₃ hs₃ => ?_) (by simp [compEnvC, relabel, hkind]))
        refine wpAny_tests_nil ?_
        simp only [if_true]
        have hst₃ : IterK kk h₃ h.objs.size ax (i + 1) ∧ SeqK kk h₃ ax its := W.frame _ _ _ hst₂ fun b hb o e => hs₃.extBut b o (fun q => by
          have q' : b = H2.objs.size := q
          simp only [List.mem_cons, List.not_mem_nil, or_false] at hb
          rcases hb with hb | hb
          · exact hIC (hb.symm.trans q')
          · exact haxC (hb.symm.trans q')) e
        have F₃ : Fr h₀ L h₃ m := (LCg.fr_but F' hk₂ (Ne.symm hIL) hI0).change hs₃ hCL hC0
        have N₂ := LCg.news_but N' hk₂ fun p hp => by
          rcases List.mem_cons.mp hp with rfl | hp
          · exact Ne.symm hID
          · exact (off p hp).1
        obtain ⟨oI, heI⟩ : ∃ oI, h₃.get? h.objs.size = some oI := by
          have := hst₃.1
          cases kk with
          | true => obtain ⟨o, e, _⟩ := this; exact ⟨o, e⟩
          | false => obtain ⟨o, e, _⟩ := this; exact ⟨o, e⟩
        obtain ⟨oC, heC, hoC⟩ := LCg.ns_obj hn₃
        have N₃ : News h₀ L h₃ ((h.objs.size, oI) :: (H2.objs.size, oC) :: (h1.objs.size, if i = 0 then setEmp (!byText w) else setOne b (!byText w)) :: news) := fun p hp => by
          rcases List.mem_cons.mp hp with rfl | hp
          · exact ⟨heI, hIL, hI0⟩
          · rcases List.mem_cons.mp hp with rfl | hp
            · exact ⟨heC, hCL, hC0⟩
            · exact nw_upd N₂ hs₃ (fun p hp => by
                rcases List.mem_cons.mp hp with rfl | hp
                · exact Ne.symm hCD
                · exact (off p hp).2.1) p hp
        refine wpAny_bind (wpAny_mono (turn i v _ oI _ oC _ _ _ h₃ _ _ hPv hoC (by simp) F₃ N₃) (fun y s₄ hy => ?_) fun _ _ e => e)
        obtain ⟨rfl, h₄, tk₄, rfl, F₄, N₄⟩ := hy
        have hI4 : IterK kk h₄ h.objs.size ax (i + 1) := by
          have e4 := (N₄ _ (List.Mem.head _)).1
          have := hst₃.1
          cases kk with
          | true => obtain ⟨o, q, r⟩ := this; rw [heI] at q; cases q; exact ⟨oI, e4, r⟩
          | false => obtain ⟨o, q, r⟩ := this; rw [heI] at q; cases q; exact ⟨oI, e4, r⟩
        have hD4 := (N₄ _ (List.Mem.tail _ (List.Mem.tail _ (List.Mem.head _)))).1
        have hC4 := hoC.ns (N₄ _ (List.Mem.tail _ (List.Mem.head _))).1
        have Nn4 : News h₀ L h₄ news := fun p hp => N₄ p (List.Mem.tail _ (List.Mem.tail _ (List.Mem.tail _ hp)))
        by_cases h0 : i = 0
        · rw [if_pos h0] at hD4
          refine wpAny_bind (wpAny_standAt ?_)
          refine wpAny_bind (call_add_first hD4 fun h₅ tk₅ hD₅ hs₅ => wpAny_pure ?_)
          refine ⟨its.size + 1 - (i + 1), by omega, .mk h₅ tk₅ (i + 1) _ hlt ?_ (F₄.change hs₅ hDL hD0) (hC4.sameBut hs₅ hCD) fun p hp => ?_⟩
          · cases kk with
            | true => exact hI4.at fun o e => hs₅.extBut _ _ hID e
            | false => obtain ⟨o, e, r⟩ := hI4; exact ⟨o, hs₅.extBut _ _ hID e, r⟩
          · rcases List.mem_cons.mp hp with rfl | hp
            · rw [if_neg (Nat.succ_ne_zero i)]
              exact ⟨hD₅, hDL, hD0⟩
            · exact nw_upd Nn4 hs₅ (fun q hq => (off q hq).2.2) p hp
        · rw [if_neg h0] at hD4
          refine wpAny_bind (wpAny_standAt ?_)
          refine wpAny_bind (call_add_again hD4 fun tk₅ => wpAny_pure ?_)
          refine ⟨its.size + 1 - (i + 1), by omega, .mk h₄ tk₅ (i + 1) _ hlt hI4 F₄ hC4 fun p hp => ?_⟩
          rcases List.mem_cons.mp hp with rfl | hp
          · rw [if_neg (Nat.succ_ne_zero i)]
            exact ⟨hD4, hDL, hD0⟩
          · exact Nn4 p hp
      · obtain rfl : i = its.size := Nat.le_antisymm hi' (Nat.not_lt.mp hlt)
        rw [if_neg (by omega)] at N'
        refine W.done _ _ _ ⟨hst', hsq⟩ fun h₂ tk₂ hk₂ => ?_
        exact hRR h₂ tk₂ m' (LCg.fr_but F' hk₂ (Ne.symm hIL) hI0) (hn'.at' fun o e => hk₂ _ o (by simpa using Ne.symm hIC) e) (LCg.news_but N' hk₂ fun p hp => by
          rcases List.mem_cons.mp hp with rfl | hp
          · exact Ne.symm hID
          · exact (off p hp).1)
    · rcases List.mem_cons.mp hp with rfl | hp
      · exact ⟨hD, hDL, hD0⟩
      · exact ⟨up _ _ (N p hp).1, (N p hp).2⟩
  refine set_start (loop _ ?_) (W.self 0 _ _ _ ⟨hst₁, ?_⟩ (loop _ ?_))
  · intro h' tk m' F' hn N'
    refine ⟨m', hn, fun h'' hs'' => hQ _ h'' tk (F'.change hs'' hCL hC0) (fun p hp => ?_) (fun p hp => (off p hp).2.2)⟩
    refine ⟨hs''.extBut _ _ ?_ (N' p hp).1, (N' p hp).2⟩
    rcases List.mem_cons.mp hp with rfl | hp
    · exact Ne.symm hCD
    · exact (off p hp).2.1
  · cases kk with
    | true => obtain ⟨o, e, r⟩ := hq1; exact ⟨o, up2 _ _ e, r⟩
    | false => obtain ⟨o, e, r⟩ := hq1; exact ⟨o, up2 _ _ e, r⟩
  · intro h' tk m' F' hn N'
    refine ⟨m', hn, fun h'' hs'' => hQ _ h'' tk (F'.change hs'' hCL hC0) (fun p hp => ?_) (fun p hp => (off p hp).2.2)⟩
    refine ⟨hs''.extBut _ _ ?_ (N' p hp).1, (N' p hp).2⟩
    rcases List.mem_cons.mp hp with rfl | hp
    · exact Ne.symm hCD
    · exact (off p hp).2.1
end
end piece_L15
section piece_L16
/-- an enumerate over a list of the ledger -/
structure EnumAt (h₀ : Heap) (L : Addr) (news : List (Addr × Obj)) (h : Heap) (e it l : Addr) (vs : List Value) : Prop where
  en : IsEnum h e it 0 .none
  iter : h.IsListIter it l 0
  list : h.IsList l vs.toArray
  eit : e ≠ it
  el : e ≠ l
  itl : it ≠ l
  Le : L ≠ e
  Lit : L ≠ it
  Ll : L ≠ l
  ne : h₀.get? e = none
  ni : h₀.get? it = none
  off : ∀ q ∈ news, e ≠ q.1 ∧ it ≠ q.1
section
variable {prog : Program} {w : World} {A : Around} {E : Value → Shared → Prop} {s : Shared} {env : Env} {h₀ : Heap} {L : Addr} {m : Str → Option Value} {news : List (Addr × Obj)}
theorem call_enumN {l : Addr} {vs : List Value} {n : Nat} {Q : Value → Shared → Prop} (F : Fr h₀ L s.heap m) (N : News h₀ L s.heap news) (hl : (l, listOf vs.toArray n) ∈ news)
    (h : ∀ h' e it, Fr h₀ L h' m → News h₀ L h' news → EnumAt h₀ L news h' e it l vs → Q (.ref e) { s with heap := h' }) :
    wpAny (model prog w) A (call (.type "enumerate") [.ref l]) Q E s := by
  have hls : s.heap.IsList l vs.toArray := ⟨_, (N _ hl).1, rfl, _, rfl⟩
  have hLs : L < s.heap.objs.size := F.ns.lt
  have hab : h₀.objs.size ≤ L := F.above
  have hl2 : l < s.heap.objs.size := Heap.lt_size (N _ hl).1
  refine call_enumerate_list hls fun h' he hit hsz hk => ?_
  refine h h' _ _ ⟨F.ns.keeps hk, fun b o e => hk b o (F.keep b o e), F.above⟩ (fun p hp => ⟨hk _ _ (N p hp).1, (N p hp).2⟩) ⟨he, hit, hls.at fun o e => hk l o e, Nat.succ_ne_self _, ?_, ?_, ?_, ?_, (N _ hl).2.1.symm, ?_, ?_, ?_⟩
  · exact Nat.ne_of_gt (Nat.lt_succ_of_lt hl2)
  · exact Nat.ne_of_gt hl2
  · exact Nat.ne_of_lt (Nat.lt_succ_of_lt hLs)
  · exact Nat.ne_of_lt hLs
  · exact Heap.get?_none_of_le (Nat.le_trans hab (Nat.le_of_lt (Nat.lt_succ_of_lt hLs)))
  · exact Heap.get?_none_of_le (Nat.le_trans hab (Nat.le_of_lt hLs))
  · intro q hq
    have hq1 : q.1 < s.heap.objs.size := Heap.lt_size (N q hq).1
    exact ⟨Nat.ne_of_gt (Nat.lt_succ_of_lt hq1), Nat.ne_of_gt hq1⟩
theorem enum_leave {l e it : Addr} {vs : List Value} {as : List Str} {pz : Str → Nat → Bool} {test : Expr} {suite : List Stmt} {ipos : Pos} {xi xc : Str} {Q : Flow → Shared → Prop} (hh : A.handled = none) (X : EnumAt h₀ env.locals news s.heap e it l vs) (hi : StrsAre vs as)
    (F : Fr h₀ env.locals s.heap m) (N : News h₀ env.locals s.heap news)
    (g1 : ∀ (i : Nat) a t v s₁ own, as[i]? = some a → (ItemKind.str).is a v → Fr h₀ env.locals s₁.heap (bindM (bindM m xi (some (.int i t))) xc (some v)) → News h₀ env.locals s₁.heap (own ++ news) →
      wpAny (model prog w) A (isTrue test env (eval test env)) (fun b s₄ => b = pz a i ∧ Keeps s₁ s₄) E s₁)
    (g2 : ∀ (i : Nat) a t v own h₄ tk₄, as[i]? = some a → pz a i = true → as.zipIdx.find? (fun p => pz p.1 p.2) = some (a, i) → (ItemKind.str).is a v → Fr h₀ env.locals h₄ (bindM (bindM m xi (some (.int i t))) xc (some v)) → News h₀ env.locals h₄ (own ++ news) →
      wpAny (model prog w) A (execs suite env) (LeaveOnly Q) E { s with heap := h₄, toks := tk₄ })
    (g3 : ∀ h' tk vi vl, Fr h₀ env.locals h' (bindM (bindM m xi vi) xc vl) → News h₀ env.locals h' news → (∀ p ∈ as.zipIdx, pz p.1 p.2 = false) → Q .next { s with heap := h', toks := tk }) :
    wpAny (model prog w) A (pyIter (.ref e)) (fun it s₂ => PairAt3 prog w A h₀ env xi xc [.If test suite [] ipos] Q E it s₂) E s := by
  have D := Draws.list (prog := prog) (w := w) (A := A.in1) hh it l X.itl.symm vs.toArray
  have hA := StrsAre.areOf hi
  refine wpAny_pyIter_enum X.en ?_
  refine ⟨e, e :: [it, l], [e, it], vs.toArray.size, _, _, _, (fun i v0 v1 => ∃ t, v0 = .int i t ∧ vs.toArray[i]? = some v1), m, news, (PairJ (fun mb => FindJ mb news xc as.zipIdx (fun p => pz p.1 p.2)) m xi), rfl, WalksT.enumerateD D e X.eit (by simp [X.eit, X.el]) (by simp), ?_, ?_, ?_, ?_, ⟨⟨_, by simpa using X.en⟩, ⟨X.iter, X.list⟩⟩, F, N, ?_, ?_, ?_⟩
  · rintro i vals ⟨t, x, hPx, rfl⟩
    exact ⟨_, _, rfl, t, rfl, hPx⟩
  · simp [X.Le, X.Lit, X.Ll]
  · intro b hb
    rcases List.mem_cons.mp hb with rfl | hb
    · exact X.ne
    · rw [List.mem_singleton.mp hb]; exact X.ni
  · intro p hp hb
    rcases List.mem_cons.mp hb with e1 | hb
    · exact (X.off p hp).1 e1.symm
    · exact (X.off p hp).2 (List.mem_singleton.mp hb).symm
  · exact ⟨m xi, m xc, by rw [← bindM_start m xi]; exact bindM_start m xc, rfl, by simp⟩
  · rintro i v0 v1 m₁ news₁ s₁ own ⟨h1, tk1, rfl⟩ _ ⟨t, rfl, hPx⟩ hJ _ _ F₁ N₁
    obtain ⟨a, hga, hk⟩ := hA.get i v1 (by simpa using hPx)
    obtain ⟨vi, vl, rfl, rfl, hn⟩ := hJ
    rw [bind2_find] at F₁
    exact wpAny_mono (turn_leave (pz := fun p => pz p.1 p.2) (m := bindM m xi (some (.int i t))) (zipIdx_get hga) hn F₁ N₁ (g1 i a t v1 _ own hga hk F₁ N₁) fun hp h₄ tk₄ F₄ N₄ => g2 i a t v1 own h₄ tk₄ hga hp (find_of_first hn (zipIdx_get hga) hp) hk F₄ N₄)
      (fun f s₂ h => LoopStep3.mono (fun _ _ hj => ⟨_, hj⟩) h) fun _ _ e => e
  · rintro h' tk m' news' F' N' _ hJ
    obtain ⟨vi, vl, rfl, rfl, hn⟩ := hJ
    exact g3 h' tk vi vl F' N' fun p hp => hn p (by rw [List.take_of_length_le (by simp [hi.length])]; exact hp)
end
inductive TwoSorted (news : List (Addr × Obj)) (a b : Addr) (xa xb : List Str) : Prop
  | mk (p1 p2 : Addr) (v1 v2 : List Value) (n1 n2 : Nat) (x1 x2 : List Str) (hp1 : (if ltL xb xa = true then b else a) = p1) (hp2 : (if ltL xa xb = true then b else a) = p2) (hl1 : (p1, listOf v1.toArray n1) ∈ news) (hl2 : (p2, listOf v2.toArray n2) ∈ news) (hx1 : StrsAre v1 x1) (hx2 : StrsAre v2 x2) (hn1 : x1.length = xa.length) (hn2 : x2.length = xa.length)
    (hal : alikeS x1 x2 = alikeS xa xb) (hxy : x1 = xa ∨ x1 = xb) (htk : x1.take (alikeS xa xb) = xa.take (alikeS xa xb)) : TwoSorted news a b xa xb
/-- the lesser and the greater of two lists of a ledger -/
theorem two_sortedNX {news : List (Addr × Obj)} {a b : Addr} {na nb : Nat} {va vb : List Value} {xa xb : List Str} (ha : (a, listOf va.toArray na) ∈ news) (hb : (b, listOf vb.toArray nb) ∈ news) (hi : StrsAre va xa) (hj : StrsAre vb xb) (hz : xa.length = xb.length) :
    ∃ (p1 p2 : Addr) (v1 v2 : List Value) (n1 n2 : Nat) (x1 x2 : List Str), (if ltL xb xa = true then b else a) = p1 ∧ (if ltL xa xb = true then b else a) = p2 ∧ (p1, listOf v1.toArray n1) ∈ news ∧ (p2, listOf v2.toArray n2) ∈ news ∧ StrsAre v1 x1 ∧ StrsAre v2 x2 ∧ x1.length = xa.length ∧ x2.length = xa.length ∧ alikeS x1 x2 = alikeS xa xb ∧ (x1 = xa ∨ x1 = xb) ∧ x1.take (alikeS xa xb) = xa.take (alikeS xa xb) := by
  have tk : ∀ x y : List Str, x.take (alikeS x y) = y.take (alikeS x y) := by
    intro x
    induction x with
    | nil => intro y; cases y <;> simp [alikeS]
    | cons c r ih =>
      intro y
      cases y with
      | nil => simp [alikeS]
      | cons d t =>
        unfold alikeS
        by_cases e : c = d
        · subst e
          rw [if_pos rfl]
          simp only [List.take_succ_cons, ih]
        · rw [if_neg e]; rfl
  by_cases e : xa = xb
  · subst e
    rw [ltL_irrefl, if_neg Bool.false_ne_true]
    exact ⟨_, _, _, _, _, _, _, _, rfl, rfl, ha, ha, hi, hi, rfl, rfl, rfl, .inl rfl, rfl⟩
  · have t := ltL_tri xa xb e
    cases q : ltL xb xa with
    | true =>
      rw [q] at t
      rw [if_pos (show true = true from rfl), t, if_neg (by decide)]
      exact ⟨_, _, _, _, _, _, _, _, rfl, rfl, hb, ha, hj, hi, hz.symm, rfl, alike_comm _ _, .inr rfl, (tk _ _).symm⟩
    | false =>
      rw [q] at t
      rw [if_neg Bool.false_ne_true, t, if_pos (show (!false) = true from rfl)]
      exact ⟨_, _, _, _, _, _, _, _, rfl, rfl, ha, hb, hi, hj, rfl, hz.symm, rfl, .inl rfl, rfl⟩
theorem two_sortedN {news : List (Addr × Obj)} {a b : Addr} {na nb : Nat} {va vb : List Value} {xa xb : List Str} (ha : (a, listOf va.toArray na) ∈ news) (hb : (b, listOf vb.toArray nb) ∈ news) (hi : StrsAre va xa) (hj : StrsAre vb xb) (hz : xa.length = xb.length) :
    TwoSorted news a b xa xb := by
  obtain ⟨p1, p2, v1, v2, n1, n2, x1, x2, hp1, hp2, hl1, hl2, hx1, hx2, hn1, hn2, hal, hxy, htk⟩ := two_sortedNX ha hb hi hj hz
  exact ⟨p1, p2, v1, v2, n1, n2, x1, x2, hp1, hp2, hl1, hl2, hx1, hx2, hn1, hn2, hal, hxy, htk⟩
end piece_L16
section piece_L19
section
variable {prog : Program} {w : World} {A : Around} {h₀ : Heap} {L : Addr} {m : Str → Option Value} {env : Env}
noncomputable def PlaceTurn (h₀ : Heap) (L : Addr) (m : Str → Option Value) (s₁ : Shared) (ledger : List (Addr × Obj)) (p : Option (Int × Int)) (r : Value) (s' : Shared) : Prop :=
  ∃ h' tk' own, s' = { s₁ with heap := h', toks := tk' } ∧ Fr h₀ L h' m ∧ News h₀ L h' (own ++ ledger) ∧ (∀ q ∈ own, ∀ z ∈ ledger, z.1 ≠ q.1) ∧ PlIn r p own
/-- a comprehension whose items are places of names -/
theorem place_src {elt : Expr} {x : Str} {scope : Scope} {cl : List (Str × Addr)} {Fin : Shared → List Value → List (Addr × Obj) → Prop} {s₁ : Shared} {D : Addr} {k : Nat} {ws : List Value} {names : List Str} {lit : List (Addr × Obj)} (hh : A.handled = none)
    (F : Fr h₀ L s₁.heap m) (N : News h₀ L s₁.heap lit) (hD : (D, listOf ws.toArray k) ∈ lit) (hi : StrsAre ws names) (hl : names.length ≤ 1000000)
    (turn : ∀ z t I oI C oC D1 ys m₂ h tk nw (E' : Value → Shared → Prop), z ∈ names → LCg.NsObj oC m₂ → m₂ x = some (.str z t) → Fr h₀ L h m → News h₀ L h ((I, oI) :: (C, oC) :: (D1, LCg.lst ys) :: nw) →
      wpAny (model prog w) A (eval elt (compEnvC scope cl C env)) (PlaceTurn h₀ L m s₁ ((I, oI) :: (C, oC) :: (D1, LCg.lst ys) :: nw) (placeS z)) E' { s₁ with heap := h, toks := tk })
    (fin : ∀ ys nw, PlsIn ys (names.map placeS) nw → (∀ p ∈ lit, p ∈ nw) → Fin s₁ ys nw) : CSrc prog w A h₀ L m env elt [] x scope cl Fin (.ref D) s₁ := by
  refine ⟨true, D, ws.toArray, lit, fun i ys nw => (∀ p ∈ lit, p ∈ nw) ∧ PlsIn ys ((names.take i).map placeS) nw, rfl, hh, F, N, .inr ⟨_, hD, rfl, _, rfl⟩, by have := hi.length; simp only [List.size_toArray]; omega, ⟨fun p hp => hp, PlsIn.nil⟩, ?_, ?_⟩
  · rintro s2 ⟨h2, tk2, rfl⟩ i ys nw v I oI C oC D1 m2 h tk E' ⟨hsub, hrows⟩ hS hv hoC hx F1 N1 off1 dis1
    refine wpAny_pure ?_
    rw [if_pos rfl]
    obtain ⟨z, tz, rfl, hz⟩ := hi.item i v (by simpa using hv)
    refine wpAny_mono (turn z tz I oI C oC D1 ys m2 h tk nw E' (List.mem_of_getElem? hz) hoC hx F1 N1) (fun r s' h' => ?_) fun _ _ e => e
    obtain ⟨h', tk', own, rfl, F', N', d, hp⟩ := h'
    refine ⟨h', tk', own ++ nw, rfl, F', ?_, ?_, ?_, fun p hp => List.mem_append_right _ (hsub p hp), ?_⟩
    · intro p hp
      refine N' p ?_
      simp only [List.mem_append, List.mem_cons] at hp ⊢
      rcases hp with h | h | h | h | h
      · exact .inr (.inl h)
      · exact .inr (.inr (.inl h))
      · exact .inr (.inr (.inr (.inl h)))
      · exact .inl h
      · exact .inr (.inr (.inr (.inr h)))
    · refine LCg.Off3.of fun p hp => ?_
      rcases List.mem_append.mp hp with h | h
      · exact ⟨(d p h _ (List.Mem.head _)).symm, (d p h _ (List.Mem.tail _ (List.Mem.head _))).symm, (d p h _ (List.Mem.tail _ (List.Mem.tail _ (List.Mem.head _)))).symm⟩
      · exact off1.mem p h
    · exact hS.mono fun p hp => List.mem_append_right _ hp
    · rw [List.take_add_one, hz, List.map_append]
      exact hrows.snoc (fun p hp => List.mem_append_right _ hp) (hp.mono fun p hp => List.mem_append_left _ hp)
  · rintro ys nw hyl ⟨hsub, hrows⟩
    have e : ws.toArray.size = names.length := hi.length
    rw [e, List.take_length] at hrows
    exact fin ys nw hrows hsub
end
end piece_L19
section piece_L20
section
open PySem.W PyProof.Rows.LCg
variable {prog : Program} {w : World} {A : Around} {E : Value → Shared → Prop} {s : Shared} {h₀ : Heap} {L : Addr} {m : Str → Option Value} {env : Env}
/-- what a comprehension over a zip of two lists keeps at hand in a turn -/
noncomputable abbrev ZLed (z TI TO i1 i2 C D : Addr) (oz oTI oTO o1 o2 oC : Obj) (ys : List Value) (news : List (Addr × Obj)) : List (Addr × Obj) :=
  (C, oC) :: (D, lst ys) :: (z, oz) :: (TI, oTI) :: (TO, oTO) :: (i1, o1) :: (i2, o2) :: news
/-- a turn's end: what is at hand stands as before -/
inductive ZEnd (h₀ : Heap) (L : Addr) (m : Str → Option Value) (s : Shared) (led : List (Addr × Obj)) (P : Value → Prop) (v : Value) : Shared → Prop
  | intro (h' : Heap) (tk' : Nat) (F : Fr h₀ L h' m) (N : News h₀ L h' led) (hv : P v) : ZEnd h₀ L m s led P v { s with heap := h', toks := tk' }
theorem ZEnd.mk {led all : List (Addr × Obj)} {P : Value → Prop} {v : Value} {h' : Heap} {tk' : Nat} (F : Fr h₀ L h' m) (N : News h₀ L h' all) (sub : ∀ p ∈ led, p ∈ all) (hv : P v) : ZEnd h₀ L m s led P v { s with heap := h', toks := tk' } := .intro h' tk' F (fun p hp => N p (sub p hp)) hv
/-- how the zip stands after i turns -/
noncomputable abbrev ZSt (h : Heap) (z TI TO i1 i2 l1 l2 : Addr) (vs ws : List Value) (i : Nat) : Prop := IsZip h z TI TO .none ∧ IsPair h TI (.ref i1) (.ref i2) ∧ (∃ a b, IsPair h TO a b) ∧ h.IsListIter i1 l1 i ∧ h.IsListIter i2 l2 i ∧ h.IsList l1 vs.toArray ∧ h.IsList l2 ws.toArray
inductive ZObjs (h : Heap) (z TI TO i1 i2 l1 l2 : Addr) (vs ws : List Value) (i : Nat) : Prop
  | mk (oz oTI oTO o1 o2 : Obj) (ez : h.get? z = some oz) (eTI : h.get? TI = some oTI) (eTO : h.get? TO = some oTO) (e1 : h.get? i1 = some o1) (e2 : h.get? i2 = some o2)
    (back : ∀ g : Heap, g.get? z = some oz → g.get? TI = some oTI → g.get? TO = some oTO → g.get? i1 = some o1 → g.get? i2 = some o2 → g.IsList l1 vs.toArray → g.IsList l2 ws.toArray → ZSt g z TI TO i1 i2 l1 l2 vs ws i) : ZObjs h z TI TO i1 i2 l1 l2 vs ws i
theorem ZObjs.of {h : Heap} {z TI TO i1 i2 l1 l2 : Addr} {vs ws : List Value} {i : Nat} (st : ZSt h z TI TO i1 i2 l1 l2 vs ws i) : ZObjs h z TI TO i1 i2 l1 l2 vs ws i := by
  obtain ⟨ez, eTI, ⟨x1, x2, eTO⟩, ⟨o1, e1, q1⟩, ⟨o2, e2, q2⟩, _, _⟩ := st
  exact .mk _ _ _ o1 o2 ez eTI eTO e1 e2 fun g a b c d e f1 f2 => ⟨a, b, ⟨x1, x2, c⟩, ⟨o1, d, q1⟩, ⟨o2, e, q2⟩, f1, f2⟩
inductive ZInv (h₀ : Heap) (L : Addr) (m : Str → Option Value) (s : Shared) (z TI TO i1 i2 l1 l2 C D : Addr) (vs ws : List Value) (news : List (Addr × Obj)) (P : Nat → Value → Prop) : Nat → Shared → Prop
  | mk (h' : Heap) (tk i : Nat) (ys : List Value) (m' : Str → Option Value) (hi : i ≤ vs.length) (hyl : ys.length = i) (st : ZSt h' z TI TO i1 i2 l1 l2 vs ws i) (F : Fr h₀ L h' m) (hn : h'.Ns C m') (N : News h₀ L h' ((D, lst ys) :: news)) (hP : ∀ (i : Nat) v, ys[i]? = some v → P i v) :
    ZInv h₀ L m s z TI TO i1 i2 l1 l2 C D vs ws news P (vs.length + 1 - i) { s with heap := h', toks := tk }
theorem z_snoc {ys : List Value} {v : Value} {P : Nat → Value → Prop} (hP : ∀ (i : Nat) v, ys[i]? = some v → P i v) (hv : P ys.length v) : ∀ (j : Nat) u, (ys ++ [v])[j]? = some u → P j u := by
  intro j u hj
  by_cases hjl : j < ys.length
  · rw [List.getElem?_append_left hjl] at hj; exact hP j u hj
  · have hjl' : j = ys.length := by
      have := (List.getElem?_eq_some_iff.mp hj).1
      rw [List.length_append, List.length_singleton] at this
      omega
    rw [hjl', List.getElem?_append_right (Nat.le_refl _), Nat.sub_self] at hj
    rw [hjl']
    have hj' : v = u := by simpa using hj
    exact hj' ▸ hv
theorem z_led {z TI TO i1 i2 C D : Addr} {oz oTI oTO o1 o2 oC oD : Obj} {news : List (Addr × Obj)} {h : Heap} (NC : h.get? C = some oC ∧ C ≠ L ∧ h₀.get? C = none) (ND : h.get? D = some oD ∧ D ≠ L ∧ h₀.get? D = none) (N : News h₀ L h news)
    (hnew : ∀ q ∈ [z, TI, TO, i1, i2], q ≠ L ∧ h₀.get? q = none) (ez : h.get? z = some oz) (eTI : h.get? TI = some oTI) (eTO : h.get? TO = some oTO) (e1 : h.get? i1 = some o1) (e2 : h.get? i2 = some o2) :
    News h₀ L h ((C, oC) :: (D, oD) :: (z, oz) :: (TI, oTI) :: (TO, oTO) :: (i1, o1) :: (i2, o2) :: news) := by
  intro q hq
  simp only [List.mem_cons] at hq
  rcases hq with rfl | rfl | rfl | rfl | rfl | rfl | rfl | hq
  · exact NC
  · exact ND
  · exact ⟨ez, hnew _ (List.Mem.head _)⟩
  · exact ⟨eTI, hnew _ (List.Mem.tail _ (List.Mem.head _))⟩
  · exact ⟨eTO, hnew _ (List.Mem.tail _ (List.Mem.tail _ (List.Mem.head _)))⟩
  · exact ⟨e1, hnew _ (List.Mem.tail _ (List.Mem.tail _ (List.Mem.tail _ (List.Mem.head _))))⟩
  · exact ⟨e2, hnew _ (List.Mem.tail _ (List.Mem.tail _ (List.Mem.tail _ (List.Mem.tail _ (List.Mem.head _)))))⟩
  · exact N _ hq
/-- one turn, whose item is no new object -/
noncomputable def ZTurn (prog : Program) (w : World) (A : Around) (h₀ : Heap) (L : Addr) (m : Str → Option Value) (env : Env) (elt : Expr) (a b : Str) (scope : Scope) (cl : List (Str × Addr)) (s : Shared) (vs ws : List Value) (news : List (Addr × Obj)) (P : Nat → Value → Prop) : Prop :=
  ∀ (i : Nat) (x y : Value) (z TI TO i1 i2 C D : Addr) (oz oTI oTO o1 o2 oC : Obj) (ys : List Value) m₂ h tk (E' : Value → Shared → Prop), vs[i]? = some x → ws[i]? = some y → NsObj oC m₂ → m₂ a = some x → m₂ b = some y → Fr h₀ L h m →
    News h₀ L h (ZLed z TI TO i1 i2 C D oz oTI oTO o1 o2 oC ys news) →
    wpAny (model prog w) A (eval elt (compEnvC scope cl C env)) (ZEnd h₀ L m s (ZLed z TI TO i1 i2 C D oz oTI oTO o1 o2 oC ys news) (P i)) E' { s with heap := h, toks := tk }
theorem zip_block {elt iter : Expr} {a b : Str} {pa pb tp : Pos} {kk : Nat} {scope : Scope} {cl : List (Str × Addr)} {pos : Pos} {s₂ : Shared} {z TI TO i1 i2 l1 l2 : Addr} {vs ws : List Value} {k1 k2 : Nat} {news : List (Addr × Obj)} {P : Nat → Value → Prop}
    {RR : Value → Addr → Result → Shared → Prop}
    (hh : A.handled = none) (hsz : vs.length ≤ sizeLine) (hlen : ws.length = vs.length) (Z : ZipApart z TI TO i1 i2 l1 l2)
    (hst : IsZip s₂.heap z TI TO .none ∧ IsPair s₂.heap TI (.ref i1) (.ref i2) ∧ (∃ a b, IsPair s₂.heap TO a b) ∧ s₂.heap.IsListIter i1 l1 0 ∧ s₂.heap.IsListIter i2 l2 0 ∧ s₂.heap.IsList l1 vs.toArray ∧ s₂.heap.IsList l2 ws.toArray)
    (hnew : ∀ q ∈ [z, TI, TO, i1, i2], q ≠ L ∧ h₀.get? q = none ∧ ∀ p ∈ news, p.1 ≠ q)
    (hcell : ∀ y ∈ scope.names, y.2 ≠ .cell) (hkind : scope.kind = .function) (hxa : scope.names.lookup a = some .local) (hxb : scope.names.lookup b = some .local) (hab : ¬ a = b)
    (F : Fr h₀ L s₂.heap m) (N : News h₀ L s₂.heap news) (hm1 : (l1, listOf vs.toArray k1) ∈ news) (hm2 : (l2, listOf ws.toArray k2) ∈ news)
    (turn : ZTurn prog w A h₀ L m env elt a b scope cl s₂ vs ws news P)
    (hRR : ∀ D C h tk m' ys, Fr h₀ L h m → News h₀ L h ((D, lst ys) :: news) → Off1 D news → h.Ns C m' → h₀.get? C = none → h₀.get? D = none → C ≠ L → D ≠ L → C ≠ D → (∀ p ∈ news, p.1 ≠ C) → ys.length = vs.length → (∀ (i : Nat) v, ys[i]? = some v → P i v) → RR (.ref D) C (.ok .next) { s₂ with heap := h, toks := tk }) :
    wpAny (model prog w) A (newList []) (fun acc s₃ => wpAny (model prog w) A (newFunctionEnv scope env.globals cl [] env.qual none .none (some env)) (fun cenv s₄ =>
      codeAny (model prog w) A (.compStart (.ListComp elt [⟨.Tuple [.Name a pa, .Name b pb] kk tp, iter, [], 0⟩] scope pos) 0 (.ref z) acc { cenv with scope := relabel scope env }) (RR acc cenv.locals) s₄) E s₃) E s₂ := by
  refine wpAny_newObj_type (wpAny_newFunctionEnv hcell (by intro y hy; simp at hy) (fun h₁ hns₁ hsb₁ => ?_) hkind)
  dsimp only at hns₁ hsb₁ ⊢
  generalize hH2 : s₂.heap.push { cls := .type "list", dict := none, data := .seq ([] : List Value).toArray } = H2 at hns₁ hsb₁ ⊢
  have hC : H2.objs.size = s₂.heap.objs.size + 1 := by rw [← hH2, Heap.size_push]
  have hDC : s₂.heap.objs.size ≠ H2.objs.size := by rw [hC]; exact Nat.ne_of_lt (Nat.lt_succ_self _)
  have below : ∀ b, b < s₂.heap.objs.size → b ≠ H2.objs.size ∧ b ≠ s₂.heap.objs.size := fun b hb => ⟨by rw [hC]; exact Nat.ne_of_lt (Nat.lt_succ_of_lt hb), Nat.ne_of_lt hb⟩
  have old : ∀ b o, s₂.heap.get? b = some o → h₁.get? b = some o := fun b o e => hsb₁.extBut b o (below b (Heap.lt_size e)).1 (Heap.get?_push_of_some _ (hH2 ▸ Heap.get?_push_of_some _ e))
  have hacc : h₁.get? s₂.heap.objs.size = some (lst []) := hsb₁.extBut _ _ hDC (Heap.get?_push_of_some _ (hH2 ▸ Heap.get?_push_size _ rfl))
  have fresh : ∀ a, s₂.heap.objs.size ≤ a → s₂.heap.get? a = none := fun a ha => by
    cases e : s₂.heap.get? a with
    | none => rfl
    | some o' => exact absurd (Heap.lt_size e) (Nat.not_lt.mpr ha)
  have fresh₀ : ∀ a, s₂.heap.objs.size ≤ a → h₀.get? a = none := fun a ha => by
    cases e : h₀.get? a with
    | none => rfl
    | some o' => have := F.keep a o' e; rw [fresh a ha] at this; cases this
  have hD₀ : h₀.get? s₂.heap.objs.size = none := fresh₀ _ (Nat.le_refl _)
  have hC₀ : h₀.get? H2.objs.size = none := fresh₀ _ (by rw [hC]; exact Nat.le_succ _)
  have hLlt : L < s₂.heap.objs.size := F.ns.lt
  have hDL : s₂.heap.objs.size ≠ L := Ne.symm (below L hLlt).2
  have hCL : H2.objs.size ≠ L := Ne.symm (below L hLlt).1
  have hfp : ∀ b ∈ [z, TI, TO, i1, i2, l1, l2], b < s₂.heap.objs.size := by
    obtain ⟨e1, e2, ⟨_, _, e3⟩, ⟨_, e4, _⟩, ⟨_, e5, _⟩, ⟨_, e6, _⟩, ⟨_, e7, _⟩⟩ := hst
    intro b hb
    simp only [List.mem_cons, List.not_mem_nil, or_false] at hb
    rcases hb with rfl | rfl | rfl | rfl | rfl | rfl | rfl
    · exact Heap.lt_size e1
    · exact Heap.lt_size e2
    · exact Heap.lt_size e3
    · exact Heap.lt_size e4
    · exact Heap.lt_size e5
    · exact Heap.lt_size e6
    · exact Heap.lt_size e7
  have W := WalksT.zip2 (prog := prog) (w := w) hh z TI TO i1 i2 l1 l2 Z vs.toArray ws.toArray
  have hn : min vs.toArray.size ws.toArray.size = vs.length := by simp [hlen]
  rw [hn] at W
  have hwr : ∀ b ∈ [z, TO, i1, i2], b ∈ [z, TI, TO, i1, i2] := by
    intro b hb
    simp only [List.mem_cons, List.not_mem_nil, or_false] at hb ⊢
    rcases hb with rfl | rfl | rfl | rfl <;> simp
  have hCf : H2.objs.size ∉ [z, TI, TO, i1, i2, l1, l2] := fun hm => (below _ (hfp _ hm)).1 rfl
  have hDf : s₂.heap.objs.size ∉ [z, TI, TO, i1, i2, l1, l2] := fun hm => (below _ (hfp _ hm)).2 rfl
  have hLf : L ∉ [z, TI, TO, i1, i2] := fun hm => (hnew _ hm).1 rfl
  have hCw : H2.objs.size ∉ [z, TO, i1, i2] := fun hm => hCf (W.sub _ hm)
  have hDw : s₂.heap.objs.size ∉ [z, TO, i1, i2] := fun hm => hDf (W.sub _ hm)
  have hLw : L ∉ [z, TO, i1, i2] := fun hm => hLf (hwr _ hm)
  have h0w : ∀ b o, h₀.get? b = some o → b ∉ [z, TO, i1, i2] := fun b o e hm => by rw [(hnew _ (hwr _ hm)).2.1] at e; cases e
  have hNw : ∀ p ∈ news, p.1 ∉ [z, TO, i1, i2] := fun p hp hm => (hnew _ (hwr _ hm)).2.2 p hp rfl
  have hNC : ∀ p ∈ news, p.1 ≠ H2.objs.size := fun p hp => (below _ (Heap.lt_size (N p hp).1)).1
  have hND : ∀ p ∈ news, p.1 ≠ s₂.heap.objs.size := fun p hp => (below _ (Heap.lt_size (N p hp).1)).2
  have hst₁ := W.frame 0 _ _ hst fun b _ o e => old b o e
  have loop : ∀ s₃ : Shared, s₃ = { s₂ with heap := h₁, toks := s₂.toks + ([] : List (Str × Value)).length } →
      codeAny (model prog w) A (.compLoop (.ListComp elt [⟨.Tuple [.Name a pa, .Name b pb] kk tp, iter, [], 0⟩] scope pos) 0 (.ref z) (.ref s₂.heap.objs.size) (compEnvC scope cl H2.objs.size env))
        (RR (.ref s₂.heap.objs.size) H2.objs.size) s₃ := by
    rintro s₃ rfl
    refine kcp_loop (ZInv h₀ L m s₂ z TI TO i1 i2 l1 l2 H2.objs.size s₂.heap.objs.size vs ws news P) ?_ (vs.length + 1)
      (.mk h₁ _ 0 [] _ (Nat.zero_le _) rfl hst₁ (F.keeps old) hns₁ (fun p hp => ?_) fun i v e => nomatch e)
    · rintro k s' ⟨h', tk, i, ys, m', hi, hyl, hst', F', hn', N', hP'⟩
      by_cases hlt : i < vs.length
      · refine W.item i _ _ _ hlt hst' fun T vals h₂ tk₂ hPt hTs hT hMd hk₂ => ?_
        obtain ⟨x, y, hx, hy, rfl⟩ := hPt
        have hTw := W.apart _ _ _ hMd
        refine W.go _ _ _ _ _ _ _ _ hMd fun h₃ hst₃ hk₃ => ?_
        have hT₃ : h₃.IsTuple T #[x, y] := by obtain ⟨o, e, r⟩ := hT; exact ⟨o, hk₃ _ _ hTw e, r⟩
        have up₃ : ∀ c o, c ∉ [z, TO, i1, i2] → h'.get? c = some o → h₃.get? c = some o := fun c o hc e => hk₃ c o hc (hk₂ c o hc e)
        refine kcp_assign (env := compEnvC scope cl H2.objs.size env) hh hT₃ (lookup_relabel_local hxa) (lookup_relabel_local hxb) (by simp [compEnvC, relabel, hkind]) (hn'.at' fun o e => up₃ _ o hCw e) fun h₄ tk₄ hn₄ hs₄ => ?_
        have up : ∀ c o, c ∉ [z, TO, i1, i2] → c ≠ H2.objs.size → h'.get? c = some o → h₄.get? c = some o := fun c o h1 h2 e => hs₄ c o h2 (up₃ c o h1 e)
        have hst₄ := W.frame _ _ _ hst₃ fun b hb o e => hs₄ b o (fun q => hCf (by rw [← show b = H2.objs.size from q]; exact hb)) e
        obtain ⟨oC, heC, hoC⟩ := ns_obj hn₄
        have F₄ : Fr h₀ L h₄ m := ⟨F'.ns.at' fun o e => up _ o hLw (Ne.symm hCL) e, fun c o e => up c o (h0w c o e) (fun q => by rw [q, hC₀] at e; cases e) (F'.keep c o e), F'.above⟩
        obtain ⟨oz, oTI, oTO, o1, o2, ez, eTI, eTO, e1, e2, back⟩ := ZObjs.of (i := i + 1) hst₄
        have N₄ : News h₀ L h₄ (ZLed z TI TO i1 i2 H2.objs.size s₂.heap.objs.size oz oTI oTO o1 o2 oC ys news) :=
          z_led ⟨heC, hCL, hC₀⟩ ⟨up _ _ hDw hDC (N' _ (List.Mem.head _)).1, hDL, hD₀⟩ (fun q hq => ⟨up _ _ (hNw _ hq) (hNC _ hq) (N' _ (List.Mem.tail _ hq)).1, (N' _ (List.Mem.tail _ hq)).2⟩) (fun q hq => ⟨(hnew q hq).1, (hnew q hq).2.1⟩) ez eTI eTO e1 e2
        refine wpAny_mono (turn i x y z TI TO i1 i2 H2.objs.size s₂.heap.objs.size oz oTI oTO o1 o2 oC ys _ h₄ _ _ (by simpa using hx) (by simpa using hy) hoC (by simp [hab]) (by simp) F₄ N₄) (fun v s₅ h₅ => ?_) fun _ _ e => e
        obtain ⟨h₅, tk₅, F₅, N₅, hv⟩ := h₅
        have N₅' : News h₀ L h₅ news := fun q hq => N₅ q (List.Mem.tail _ (List.Mem.tail _ (List.Mem.tail _ (List.Mem.tail _ (List.Mem.tail _ (List.Mem.tail _ (List.Mem.tail _ hq)))))))
        have zC := (N₅ _ (List.Mem.head _)).1
        refine append_at (hsz := by show ys.toArray.size ≤ sizeLine; rw [List.size_toArray, hyl]; exact Nat.le_trans hi hsz) (N₅ _ (List.Mem.tail _ (List.Mem.head _))).1 fun h₆ hs₆ hD₆ => ?_
        have g6 : ∀ b ∈ [z, TI, TO, i1, i2, l1, l2], ∀ o, h₅.get? b = some o → h₆.get? b = some o := fun b hb o e => hs₆.extBut _ _ (below b (hfp b hb)).2 e
        refine ⟨vs.length + 1 - (i + 1), by omega, .mk h₆ tk₅ (i + 1) (ys ++ [v]) _ hlt (by rw [List.length_append, List.length_singleton, hyl])
          (back h₆ (g6 _ (List.Mem.head _) _ (N₅ _ (List.Mem.tail _ (List.Mem.tail _ (List.Mem.head _)))).1)
            (g6 _ (List.Mem.tail _ (List.Mem.head _)) _ (N₅ _ (List.Mem.tail _ (List.Mem.tail _ (List.Mem.tail _ (List.Mem.head _))))).1)
            (g6 _ (List.Mem.tail _ (List.Mem.tail _ (List.Mem.head _))) _ (N₅ _ (List.Mem.tail _ (List.Mem.tail _ (List.Mem.tail _ (List.Mem.tail _ (List.Mem.head _)))))).1)
            (g6 _ (List.Mem.tail _ (List.Mem.tail _ (List.Mem.tail _ (List.Mem.head _)))) _ (N₅ _ (List.Mem.tail _ (List.Mem.tail _ (List.Mem.tail _ (List.Mem.tail _ (List.Mem.tail _ (List.Mem.head _))))))).1)
            (g6 _ (List.Mem.tail _ (List.Mem.tail _ (List.Mem.tail _ (List.Mem.tail _ (List.Mem.head _))))) _ (N₅ _ (List.Mem.tail _ (List.Mem.tail _ (List.Mem.tail _ (List.Mem.tail _ (List.Mem.tail _ (List.Mem.tail _ (List.Mem.head _)))))))).1)
            ⟨_, g6 _ (List.Mem.tail _ (List.Mem.tail _ (List.Mem.tail _ (List.Mem.tail _ (List.Mem.tail _ (List.Mem.head _)))))) _ (N₅' _ hm1).1, rfl, _, rfl⟩
            ⟨_, g6 _ (List.Mem.tail _ (List.Mem.tail _ (List.Mem.tail _ (List.Mem.tail _ (List.Mem.tail _ (List.Mem.tail _ (List.Mem.head _))))))) _ (N₅' _ hm2).1, rfl, _, rfl⟩)
          (F₅.change hs₆ hDL hD₀) ((hoC.ns zC).sameBut hs₆ (Ne.symm hDC)) (fun q hq => ?_) (z_snoc hP' (hyl.symm ▸ hv))⟩
        rcases List.mem_cons.mp hq with rfl | hq
        · exact ⟨hD₆.trans (congrArg some (lst_snoc ys v)), hDL, hD₀⟩
        · exact ⟨hs₆.extBut _ _ (hND q hq) (N₅' q hq).1, (N₅' q hq).2⟩
      · have hin : i = vs.length := Nat.le_antisymm hi (Nat.not_lt.mp hlt)
        subst hin
        refine W.done _ _ _ hst' fun h₂ tk₂ hk₂ => ?_
        refine hRR _ _ h₂ tk₂ _ ys ⟨F'.ns.at' fun o e => hk₂ _ o hLw e, fun b o e => hk₂ b o (h0w b o e) (F'.keep b o e), F'.above⟩ (fun p hp => ?_) ?_ (hn'.at' fun o e => hk₂ _ o hCw e) hC₀ hD₀ hCL hDL (Ne.symm hDC) hNC hyl hP'
        · rcases List.mem_cons.mp hp with rfl | hp'
          · exact ⟨hk₂ _ _ hDw (N' _ hp).1, (N' _ hp).2⟩
          · exact ⟨hk₂ _ _ (hNw _ hp') (N' _ hp).1, (N' _ hp).2⟩
        · exact Off3.one (I := H2.objs.size) (C := H2.objs.size) (Off3.of fun p hp => ⟨hNC p hp, hNC p hp, hND p hp⟩)
    · rcases List.mem_cons.mp hp with rfl | hp
      · exact ⟨hacc, hDL, hD₀⟩
      · exact ⟨old _ _ (N p hp).1, (N p hp).2⟩
  exact codeAny_compStart_list (loop _ rfl) (W.self 0 _ _ _ hst₁ (loop _ rfl))
/-- a comprehension's source that is a zip of two lists -/
inductive ZSrc (prog : Program) (w : World) (A : Around) (h₀ : Heap) (L : Addr) (m : Str → Option Value) (env : Env) (elt : Expr) (a b : Str) (scope : Scope) (cl : List (Str × Addr)) (Fin : Shared → List Value → List (Addr × Obj) → Prop) (xv : Value) (s₁ : Shared) : Prop
  | mk (z TI TO i1 i2 l1 l2 : Addr) (vs ws : List Value) (k1 k2 : Nat) (news : List (Addr × Obj)) (P : Nat → Value → Prop) (e : xv = .ref z) (hh : A.handled = none) (hsz : vs.length ≤ sizeLine) (hlen : ws.length = vs.length) (Z : ZipApart z TI TO i1 i2 l1 l2)
    (st : ZSt s₁.heap z TI TO i1 i2 l1 l2 vs ws 0) (hnew : ∀ q ∈ [z, TI, TO, i1, i2], q ≠ L ∧ h₀.get? q = none ∧ ∀ p ∈ news, p.1 ≠ q) (F : Fr h₀ L s₁.heap m) (N : News h₀ L s₁.heap news) (hm1 : (l1, listOf vs.toArray k1) ∈ news) (hm2 : (l2, listOf ws.toArray k2) ∈ news)
    (turn : ZTurn prog w A h₀ L m env elt a b scope cl s₁ vs ws news P) (fin : ∀ ys, ys.length = vs.length → (∀ (i : Nat) v, ys[i]? = some v → P i v) → Fin s₁ ys news) : ZSrc prog w A h₀ L m env elt a b scope cl Fin xv s₁
theorem call_zip_src {elt : Expr} {a b : Str} {scope : Scope} {cl : List (Str × Addr)} {Fin : Shared → List Value → List (Addr × Obj) → Prop} {l1 l2 : Addr} {vs ws : List Value} {k1 k2 : Nat} {news : List (Addr × Obj)} {P : Nat → Value → Prop}
    (hh : A.handled = none) (F : Fr h₀ L s.heap m) (N : News h₀ L s.heap news) (hm1 : (l1, listOf vs.toArray k1) ∈ news) (hm2 : (l2, listOf ws.toArray k2) ∈ news) (hsz : vs.length ≤ sizeLine) (hlen : ws.length = vs.length)
    (turn : ∀ h, ZTurn prog w A h₀ L m env elt a b scope cl { s with heap := h } vs ws news P) (fin : ∀ h ys, ys.length = vs.length → (∀ (i : Nat) v, ys[i]? = some v → P i v) → Fin { s with heap := h } ys news) :
    wpAny (model prog w) A (call (.type "zip") [.ref l1, .ref l2]) (ZSrc prog w A h₀ L m env elt a b scope cl Fin) E s := by
  have g1 : s.heap.IsList l1 vs.toArray := ⟨_, (N _ hm1).1, rfl, _, rfl⟩
  have g2 : s.heap.IsList l2 ws.toArray := ⟨_, (N _ hm2).1, rfl, _, rfl⟩
  have a1 : l1 < s.heap.objs.size := Heap.lt_size (N _ hm1).1
  have a2 : l2 < s.heap.objs.size := Heap.lt_size (N _ hm2).1
  have hLs : L < s.heap.objs.size := F.ns.lt
  refine call_zip_2 g1 g2 fun h' hz hTI hTO hi1 hi2 _ hk => ?_
  refine ⟨_, _, _, _, _, l1, l2, vs, ws, k1, k2, news, P, rfl, hh, hsz, hlen, zipApart_new a1 a2, ⟨hz, hTI, ⟨_, _, hTO⟩, hi1, hi2, g1.at fun o e => hk _ o e, g2.at fun o e => hk _ o e⟩, ?_, F.keeps hk, N.grown hk, hm1, hm2, turn h', fin h'⟩
  have fresh₀ : ∀ a, s.heap.objs.size ≤ a → h₀.get? a = none := fun a ha => by
    cases e : h₀.get? a with
    | none => rfl
    | some o' => exact absurd (Heap.lt_size (F.keep a o' e)) (Nat.not_lt.mpr ha)
  have all : ∀ q, s.heap.objs.size ≤ q → q ≠ L ∧ h₀.get? q = none ∧ ∀ p ∈ news, p.1 ≠ q := fun q hq => ⟨Nat.ne_of_gt (Nat.lt_of_lt_of_le hLs hq), fresh₀ q hq, fun p hp => Nat.ne_of_lt (Nat.lt_of_lt_of_le (Heap.lt_size (N p hp).1) hq)⟩
  intro q hq
  simp only [List.mem_cons, List.not_mem_nil, or_false] at hq
  rcases hq with rfl | rfl | rfl | rfl | rfl
  · exact all _ (Nat.le_add_right _ _)
  · exact all _ (Nat.le_add_right _ _)
  · exact all _ (Nat.le_add_right _ _)
  · exact all _ (Nat.le_refl _)
  · exact all _ (Nat.le_add_right _ _)
theorem assign_zip {elt iter : Expr} {a b y : Str} {pa pb tp py : Pos} {kk : Nat} {scope : Scope} {cl : List (Str × Addr)} {pos spos : Pos} {Q : Flow → Shared → Prop} (_F₀ : Fr h₀ L s.heap m) (hLe : env.locals = L)
    (hsw : swapsWith (.ListComp elt [⟨.Tuple [.Name a pa, .Name b pb] kk tp, iter, [], 0⟩] scope pos) (some (.Name y py)) spos.line env = pure true)
    (hclos : closureFor scope env = pure cl) (hcell : ∀ z ∈ scope.names, z.2 ≠ .cell) (hkind : scope.kind = .function)
    (hnames : ∀ z ∈ scope.names, z.2 = .local → scope.names.lookup z.1 = some .local) (hxa : scope.names.lookup a = some .local) (hxb : scope.names.lookup b = some .local) (hab : ¬ a = b)
    (hy : env.kindOf y = some .local) (hp : (env.scope.kind == .class || (env.scope.kind == .module && env.locals != env.globals)) = false)
    (h : wpAny (model prog w) A (eval iter env) (ZSrc prog w A h₀ L m env elt a b scope cl (fun s₂ => FinA h₀ L m s₂ y Q)) E s)
    (hs : ∀ x, foldedSetIterable iter env x = pure x) :
    wpAny (model prog w) A (exec (.Assign [.Name y py] (.ListComp elt [⟨.Tuple [.Name a pa, .Name b pb] kk tp, iter, [], 0⟩] scope pos) spos) env) Q E s := by
  subst hLe
  rw [exec_Assign_Name_used _ _ _ _ hsw]
  refine wpAny_bind (wpAny_standAt (wpAny_bind ?_))
  show wpAny _ A (do let _ ← comprehension (.ListComp elt [⟨.Tuple [.Name a pa, .Name b pb] kk tp, iter, [], 0⟩] scope pos) scope env _ (newList []) false (eval iter env) (some (assign (.Name y py) env))) _ _ s
  refine wpAny_bind (wpAny_mono (wpAny_comprehension_free (use := some (assign (.Name y py) env)) (Q := fun _ s' => Q .next s') rfl hs hclos hkind hnames
    (wpAny_mono h (fun xv s₁ h₁ => ?_) fun _ _ e => e)) (fun _ s' hq => wpAny_pure (wpAny_pure hq)) fun _ _ e => e)
  obtain ⟨z, TI, TO, i1, i2, l1, l2, vs, ws, k1, k2, news, P, rfl, hh, hsz, hlen, Z, hst, hnew, F, N, hm1, hm2, turn, fin⟩ := h₁
  refine wpAny_pyIter_zip hst.1 ?_
  refine zip_block hh hsz hlen Z hst hnew hcell hkind hxa hxb hab F N hm1 hm2 turn ?_
  intro D C h' tk m' ys F' N' o1 hn hC₀ hD₀ hCL hDL hCD offC hyl hP
  show wpAny _ A (assign (.Name y py) env (.ref D)) _ _ _
  refine wpAny_assign_Name (wpAny_storeName_local hy F'.ns (fun h₂ hn₂ hs₂ => ?_) hp)
  have hL₀ : h₀.get? env.locals = none := Heap.get?_none_of_le F'.above
  have F₂ : Fr h₀ env.locals h₂ (fun z => if z = y then some (.ref D) else m z) := ⟨hn₂, fun b o e => hs₂.extBut b o (fun q => by rw [q, hL₀] at e; cases e) (F'.keep b o e), F'.above⟩
  refine ⟨m', hn.sameBut hs₂ hCL, fun h'' hs'' => fin ys hyl hP D h'' _ (F₂.change hs'' hCL hC₀) (fun p hp => ?_) o1⟩
  have z : h₂.get? p.1 = some p.2 := hs₂.extBut _ _ (N' p hp).2.1 (N' p hp).1
  refine ⟨hs''.extBut _ _ ?_ z, (N' p hp).2⟩
  rcases List.mem_cons.mp hp with rfl | hp
  · exact Ne.symm hCD
  · exact offC p hp
end
end piece_L20
section piece_V7
theorem map_no_len : typeLookup (.type "map") "__len__" = pure none := by rw [typeLookup_type, builtinLookup_eq_fast]; kernel_rfl
theorem map_no_hint : typeLookup (.type "map") "__length_hint__" = pure none := by rw [typeLookup_type, builtinLookup_eq_fast]; kernel_rfl
/-- what a map's next must do, item by item: it hands the item on -/
noncomputable def MapStep (prog : Program) (w : World) (A : Around) (E : Value → Shared → Prop) (s₀ : Shared) (M T I l : Addr) (f : Value) (xs : Array Value) : Prop :=
  ∀ (k : Nat) (v : Value) (h : Heap) (tk : Nat) (Q : Option Value → Shared → Prop), MapAt h M T I l f xs k → Heap.ExtBut I s₀.heap h → xs[k]? = some v →
    (∀ h' tk', MapAt h' M T I l f xs (k + 1) → Heap.ExtBut I h h' → Q (some v) { s₀ with heap := h', toks := tk' }) → wpAny (model prog w) A (pyNext (.ref M)) Q E { s₀ with heap := h, toks := tk }
section
variable {prog : Program} {w : World} {A : Around} {E : Value → Shared → Prop} {s : Shared} {M T I l : Addr} {f : Value} {xs : Array Value}
theorem MapAt.keeps {h h' : Heap} {k : Nat} (x : MapAt h M T I l f xs k) (e : ∀ b o, b = M ∨ b = T ∨ b = I ∨ b = l → h.get? b = some o → h'.get? b = some o) : MapAt h' M T I l f xs k :=
  ⟨e _ _ (.inl rfl) x.obj, e _ _ (.inr (.inl rfl)) x.tup, x.it.at fun o ho => e I o (.inr (.inr (.inl rfl))) ho, x.lst.at fun o ho => e l o (.inr (.inr (.inr rfl))) ho, x.nm, x.nT, x.nl⟩
theorem MapAt.lt {h : Heap} {k : Nat} (x : MapAt h M T I l f xs k) : ∀ b, b = M ∨ b = T ∨ b = I ∨ b = l → b < h.objs.size := by
  rintro b (rfl | rfl | rfl | rfl)
  · exact Heap.lt_size x.obj
  · exact Heap.lt_size x.tup
  · obtain ⟨_, e, _⟩ := x.it; exact Heap.lt_size e
  · obtain ⟨_, e, _⟩ := x.lst; exact Heap.lt_size e
theorem next_map_fin {k : Nat} {Q : Option Value → Shared → Prop} (hh : A.handled = none) (x : MapAt s.heap M T I l f xs k) (hx : xs[k]? = none)
    (h : ∀ h', Heap.ExtBut I s.heap h' → Q none { s with heap := h' }) : wpAny (model prog w) A (pyNext (.ref M)) Q E s := by
  have hT : s.TypeIs (.ref M) "map" := ⟨_, x.obj, rfl⟩
  unfold pyNext
  refine wpAny_bind (wpAny_attempt (wpAny_callSpecial?_slot (name := Str.ofString "__next__") hT slot_map_next (wpAny_call_entry slot_map_next hT entry_map_next (map_next_end hh x hx fun h' e hk he => ?_) (args_map_next _))))
  obtain ⟨o, ho, hc⟩ := he
  refine wpAny_bind (wpAny_isInstance (T := "StopIteration") (b := true) ⟨o, ho, hc⟩ isSubtype_stop ?_)
  exact wpAny_pure (h _ hk)
theorem extend_map {R : Result → Shared → Prop} {S : Addr} {res : Value} (hh : A.handled = none) (hn : xs.size ≤ 1000) (st : MapStep prog w A.in1 (fun e s' => R (.error e) s') s M T I l f xs) (hS : s.heap.get? S = none) :
    ∀ (j i : Nat) (h : Heap) (tk : Nat) (acc : Array Value) (c : Nat), xs.size - i = j → i ≤ xs.size → MapAt h M T I l f xs i → Heap.ExtBut I s.heap h → h.get? S = some { cls := .type "list", dict := none, data := .seq acc c, slots := #[] } → acc.toList = xs.toList.take i → (∀ b, b = M ∨ b = T ∨ b = I ∨ b = l → S ≠ b) →
      (∀ h' tk' c', Heap.ExtBut I s.heap h' → h'.get? S = some { cls := .type "list", dict := none, data := .seq xs c', slots := #[] } → R (.ok (.ret res)) { s with heap := h', toks := tk' }) →
      codeAny (model prog w) A (.builtin "list.extend.loop" ⟨[.ref S, .ref M, res], []⟩) R { s with heap := h, toks := tk } := by
  intro j
  induction j with
  | zero =>
    intro i h tk acc c hk hi x k hSo hacc hM hR
    have hSI : S ≠ I := hM I (.inr (.inr (.inl rfl)))
    have hin : i = xs.size := by omega
    subst hin
    refine codeAny_builtin F.entry_extend_loop ?_
    rw [Around.under_plainId F.plain_extend_loop _]
    show wpAny _ A.in1 (pyNext (.ref M) >>= _) _ _ _
    refine wpAny_bind (next_map_fin hh x (by simp) fun h' hk' => ?_)
    have e : acc = xs := Array.toList_inj.mp (by rw [hacc]; exact List.take_of_length_le (by simp))
    subst e
    exact wpAny_pure (hR h' _ c (ext_trans k hk') (hk' _ _ hSI hSo))
  | succ j ih =>
    intro i h tk acc c hk hi x k hSo hacc hM hR
    have hSI : S ≠ I := hM I (.inr (.inr (.inl rfl)))
    have hlt : i < xs.size := by omega
    refine codeAny_builtin F.entry_extend_loop ?_
    rw [Around.under_plainId F.plain_extend_loop _]
    show wpAny _ A.in1 (pyNext (.ref M) >>= _) _ _ _
    refine wpAny_bind (st i xs[i] h tk _ x k (by simp [hlt]) fun h' tk' x' k' => ?_)
    have hS' := k' _ _ hSI hSo
    have hsz : acc.size = i := by
      rw [← Array.length_toList, hacc, List.length_take, Array.length_toList]; omega
    show wpAny _ A.in1 (updateSeq S (·.push xs[i]) >>= _) _ _ _
    refine wpAny_bind ?_
    refine wpAny_updateSeq hS' rfl (wpAny_pure ⟨plainId_quiet F.plain_extend_loop _, ih (i + 1) _ tk' (acc.push xs[i]) _ (by omega) hlt (x'.keeps fun b o hb e => (Heap.get?_update_other _ _ (hM b hb)).trans e) (fun b o hb e => ?_) (Heap.get?_update_self _ hS' rfl) ?_ hM hR⟩)
      (by rw [hsz, sizeLine_eq]; omega) (by show (acc.push xs[i]).size ≤ sizeLine + 1; rw [Array.size_push, hsz, sizeLine_eq]; omega)
    · have hbS : S ≠ b := by rintro rfl; rw [hS] at e; cases e
      exact (Heap.get?_update_other _ _ hbS).trans (k' _ _ hb (k _ _ hb e))
    · rw [Array.toList_push, hacc, List.take_add_one]
      simp [hlt]
theorem collect_map {Q : List Value → Shared → Prop} (hh : A.handled = none) (hn : xs.size ≤ 1000) (x : MapAt s.heap M T I l f xs 0) (st : MapStep prog w A.in1 E s M T I l f xs)
    (hQ : ∀ h' tk, Heap.ExtBut I s.heap h' → s.heap.objs.size ≤ h'.objs.size → Q xs.toList { s with heap := h', toks := tk }) : wpAny (model prog w) A (collect (.ref M)) Q E s := by
  have hlt := x.lt
  have hT : s.TypeIs (.ref M) "map" := ⟨_, x.obj, rfl⟩
  unfold collect
  refine wpAny_bind (wpAny_runValue (codeAny_builtin F.entry_proto_collect ?_))
  rw [Around.under_plainId F.plain_proto_collect _]
  show wpAny _ A.in1 (newList [] >>= fun l => again (.builtin "list.__iadd__" ⟨[l, .ref M], []⟩)) _ _ s
  refine wpAny_bind (wpAny_newObj_type ?_)
  refine wpAny_pure ⟨plainId_quiet F.plain_list_iadd _, codeAny_builtin F.entry_list_iadd ?_⟩
  rw [Around.under_plainId F.plain_list_iadd _]
  have up : ∀ b o, s.heap.get? b = some o → (s.heap.push { cls := .type "list", data := .seq ([] : List Value).toArray }).get? b = some o := fun b o e => Heap.get?_push_of_some _ e
  have x1 := x.keeps fun b o _ e => up b o e
  have hT1 : Shared.TypeIs { s with heap := s.heap.push { cls := .type "list", data := .seq ([] : List Value).toArray } } (.ref M) "map" := ⟨_, x1.obj, rfl⟩
  have hSI : s.heap.objs.size ≠ M := Nat.ne_of_gt (hlt M (.inl rfl))
  show wpAny _ A.in1 (Builtin.List.listExtendWith (.ref s.heap.objs.size) (.ref M) (.ref s.heap.objs.size)) _ _ _
  unfold Builtin.List.listExtendWith
  refine wpAny_bind (wpAny_typeOf hT1 ?_)
  have h1 : Builtin.List.listSameRef (.ref s.heap.objs.size) (.ref M) = false := by simp [Builtin.List.listSameRef, hSI]
  have h2 : (Value.type "map" == Value.type "list") = false := by decide
  have h3 : (Value.type "map" == Value.type "tuple") = false := by decide
  simp only [h1, h2, h3, Bool.or_false, Bool.false_eq_true, if_false]
  refine wpAny_bind (iter_map x1.obj ?_)
  refine wpAny_bind (wpAny_holding ?_)
  unfold Builtin.List.listLengthHint
  refine wpAny_bind (wpAny_specialOf hT1 map_no_len ?_)
  show wpAny _ A.in1 (specialOf (Value.ref M) (Str.ofString "__length_hint__") >>= _) _ _ _
  refine wpAny_bind (wpAny_specialOf hT1 map_no_hint ?_)
  refine wpAny_pure ?_
  show wpAny _ A.in1 (rule "list.extend.makes-room" >>= fun _ => Builtin.List.listTouch (.ref s.heap.objs.size) >>= fun _ =>
    again (.builtin "list.extend.loop" ⟨[.ref s.heap.objs.size, .ref M, .ref s.heap.objs.size], []⟩)) _ _ _
  refine wpAny_bind (wpAny_rule ?_)
  have hS₁ : (s.heap.push { cls := .type "list", data := .seq ([] : List Value).toArray }).get? s.heap.objs.size = some { cls := .type "list", data := .seq ([] : List Value).toArray } := Heap.get?_push_size _ rfl
  refine wpAny_bind ?_
  show wpAny _ A.in1 (updateSeq s.heap.objs.size (·.push .none) >>= fun _ => updateSeq s.heap.objs.size (·.pop)) _ _ _
  refine wpAny_bind (wpAny_updateSeq hS₁ rfl ?_)
  have hS₂ := Heap.get?_update_self (Obj.mapSeq (·.push Value.none)) hS₁ rfl
  refine wpAny_updateSeq hS₂ rfl ?_
  have hS₃ := Heap.get?_update_self (Obj.mapSeq (·.pop)) hS₂ rfl
  have oth : ∀ b o, b ≠ s.heap.objs.size → (s.heap.push { cls := .type "list", data := .seq ([] : List Value).toArray }).get? b = some o →
      (((s.heap.push { cls := .type "list", data := .seq ([] : List Value).toArray }).update s.heap.objs.size (Obj.mapSeq (·.push Value.none))).update s.heap.objs.size (Obj.mapSeq (·.pop))).get? b = some o :=
    fun b o hb e => (Heap.get?_update_other _ _ (Ne.symm hb)).trans ((Heap.get?_update_other _ _ (Ne.symm hb)).trans e)
  have hnew : s.heap.get? s.heap.objs.size = none := by
    cases q : s.heap.get? s.heap.objs.size with
    | none => rfl
    | some o => exact absurd (Heap.lt_size q) (Nat.lt_irrefl _)
  refine wpAny_pure ⟨plainId_quiet F.plain_extend_loop _, extend_map (s := s) hh hn st hnew xs.size 0 _ s.toks #[] _ rfl (Nat.zero_le _) (x1.keeps fun b o hb e => oth b o (Nat.ne_of_lt (hlt b hb)) e) (fun b o _ e => oth b o (Nat.ne_of_lt (Heap.lt_size e)) (up b o e)) hS₃ (by simp) (fun b hb => Nat.ne_of_gt (hlt b hb)) ?_⟩
  intro h' tk' c' hk hS
  show wpAny _ A (load s.heap.objs.size >>= _) _ _ _
  refine wpAny_bind (wpAny_load hS ?_)
  exact wpAny_pure (hQ h' tk' hk (Nat.le_of_lt (Heap.lt_size hS)))
theorem call_tuple_map {Q : Value → Shared → Prop} (hh : A.handled = none) (hn : xs.size ≤ 1000) (x : MapAt s.heap M T I l f xs 0) (st : MapStep prog w A.in1.in1.in1 E s M T I l f xs)
    (hQ : ∀ h' tk D, Heap.ExtBut I s.heap h' → s.heap.get? D = none → h'.get? D = some (tupOf xs.toList) → Q (.ref D) { s with heap := h', toks := tk }) : wpAny (model prog w) A (call (.type "tuple") [.ref M]) Q E s := by
  refine callType_codes (Q₁ := fun obj s₁ => s₁.TypeIs obj "tuple" ∧ Q obj s₁) F.called_tuple (F.typeCall_tuple_1 _) F.entry_object_init ?_ fun obj s₁ h₁ => ?_
  · refine codeAny_of_tree ?_
    show wpAny _ A.in1.in1 (do checkBuiltinCall "tuple.__new__" ⟨[.type "tuple", .ref M], []⟩; again (.builtin "tuple.__new__" ⟨[.type "tuple", .ref M], []⟩)) _ _ s
    refine wpAny_bind (wpAny_of_eq (F.newCall_tuple_1 _) (wpAny_pure ⟨plainId_quiet F.plain_tuple_new _, codeAny_builtin F.entry_tuple_new ?_⟩))
    rw [Around.under_plainId F.plain_tuple_new _]
    have hsub := sub_tuple_self
    have hinit := init_tuple_lookup
    have hmh := madeHere_tuple
    have hTI : s.TypeIs (.ref M) "map" := ⟨_, x.obj, rfl⟩
    wp_walk using wpAny_typeOf hTI, collect_map (A := A.in1.in1) (E := fun e s' => wants (fun obj s₁ => s₁.TypeIs obj "tuple" ∧ Q obj s₁) E (.error e) s') hh hn x st
    intro h' tk hk hsz
    show wpAny _ _ (Builtin.Tuple.tupleExact xs.toList.toArray >>= fun v => ret v) _ _ _
    unfold Builtin.Tuple.tupleExact
    refine wpAny_bind (wpAny_newObj_type ?_ (by show xs.toList.toArray.size ≤ sizeLine; simp only [Array.toArray_toList]; rw [sizeLine_eq]; omega))
    refine wpAny_pure ?_
    refine ⟨⟨_, Heap.get?_push_size _ rfl, rfl⟩, hQ _ _ _ (fun b o hb e => Heap.get?_push_of_some _ (hk b o hb e)) ?_ (Heap.get?_push_size _ rfl)⟩
    cases q : s.heap.get? h'.objs.size with
    | none => rfl
    | some o => exact absurd (Nat.lt_of_lt_of_le (Heap.lt_size q) hsz) (Nat.lt_irrefl _)
  · exact ⟨h₁.1, F.args_object_init_2 obj _, object_init_meets F.called_tuple.init.lookup F.called_tuple.made (by decide) prog w A.in1 _ s₁ ⟨h₁.1, rfl, h₁.2⟩⟩
end
end piece_V7
theorem fill_all : (fun (_ : OpenLaw) (_ : Params → Frag) => True) PySem.Challenge.rw_mq0396_01 hd.heap_1 := by
  w_top off
  k_fill
  trivial
local macro_rules | `(tactic| walk_at $s:str) => `(tactic| k_extra $s)
theorem lay_base_1 : True := by
  k_with_none
  k_with "m_open" => (
    refine Ctr.opened ?_
    intro dp un gd s Q E A₀ base h₀ outer env L m B F X T hf hk hd hu hp ret
    (refine' enter ?k1 ?k2 ?k3 ?k5 ?kA ?kF ?kK ?k6 ?k7 ?k8 ?k9 ?kB ?_ ?c2 ?c3 ?c4 ?c5; (case kA => exact rfl); (case kF => exact hf); (case kK => exact hk); (case k1 => exact B); (case k2 => exact F); (case k3 => exact X); (case k5 => exact T); (case k6 => k_is); (case k7 => k_is); (case k8 => (simp only; omega)); (case k9 => exact BindsTo.of_eq rfl); (case kB => exact locs rfl); (case c2 => exact rfl); (case c3 => exact rfl); (case c4 => exact rfl); (case c5 => decide))
    clear B F X T hf hk
    intro L' h' F' N' B' X' T'
    (try dsimp only)
    (try k_lift B')
    k_fold)
  k_with "m_end" => ((repeat (first | k_unfold | dsimp only)); refine ret _ _ _ (Fr.keep (by assumption)) ?_; (try dsimp only))
  k_with "m_site" => (
    (case k1 => k_asm); (case k2 => k_asm); (case k3 => k_asm); (case k4 => k_asm); (case k5 => k_asm); (case kA => exact rfl); (case kh => exact rfl); (case kf => exact rfl); (case kK => exact rfl)
    (case kd => (first | exact room1 hd rfl | exact room0 hd rfl | exact room1 hdep rfl | exact room0 hdep rfl | ((try simp only [depth_deeper, Around.in1_depth]); omega))); (case ku => (first | exact room1 hu rfl | exact room0 hu rfl | exact room2 hu rfl | exact room1 hun rfl | exact room0 hun rfl | exact room2 hun rfl | ((try simp only [Around.deeper_units, Around.in1_units, Around.mark_units]); omega))))
  k_with "call builtin:issubclass" => (k_here; (with_reducible show wpAny _ _ (call (Value.builtin "issubclass") [Value.type _, Value.ref _]) _ _ _); k_dflt (refine isub_str ?k1 ?_; (case k1 => exact News.get (by assumption) (by news_mem))); intro _)
  k_with "call ref" => (k_here; k_dflt (refine' Ctr.useE (c_fspath _ _ _ _ _ _) ?k1 ?k2 ?k3 ?k4 ?k5 ?kA ?kh ?kf ?kK ?kd ?ku ?kp ?_; walk_at "m_site"); (case kp => trivial); intro h' k' F' N'; (try k_sweep); (try dsimp only); (try k_fold))
  k_with "call ref" => (k_here; k_dflt (refine' Ctr.useV (c_get_sep _ _ _ _ _ _) ?k1 ?k2 ?k3 ?k4 ?k5 ?kA ?kh ?kf ?kK ?kd ?ku ?kp ?_; walk_at "m_site"); (case kp => trivial); intro t9 h' k' F' N'; (try k_sweep); (try dsimp only); (try k_fold))
  k_with "m_steps" => (repeat' (first | (k_unfold; (try dsimp only)) | walk1 | (dsimp only; walk1) | fail "no step"))
  k_with "m_all" => first | exact List.forall_mem_nil _ | (refine List.forall_mem_cons.mpr ⟨by with_unfolding_all rfl, ?_⟩; walk_at "m_all")
  k_with "m_off" => (intro z hz1 hz2; first | with_reducible rfl | ((have hz3 := hz1); (try simp only [List.contains_cons, List.contains_nil, Bool.or_false, Bool.or_eq_false_iff, beq_eq_false_iff_ne, ne_eq] at hz3); (try simp only [List.forall_mem_cons, List.not_mem_nil, false_imp_iff, implies_true, and_true, ne_eq] at hz2); first | (simp only [frM, kstB, hz1, hz2, hz3, if_false, Bool.false_eq_true]; done) | (simp only [frM, kstB, hz1, hz2, if_false, Bool.false_eq_true]; done) | (simp only [frM, kstB, hz1, hz3, if_false, Bool.false_eq_true]; done) | (simp_all [frM, kstB]; done)))
  k_with "LPost" => (dsimp only [LPost])
  k_with "m_for" => (refine Stop.go ?_; (with_unfolding_all refine' For_invVF (by assumption) ?f1 ?f2 ?_); (case f1 => exact rfl); (case f2 => exact rfl))
  k_with "m_own" => (intro p9 hp9; first | exact absurd hp9 List.not_mem_nil | exact hp9 | exact List.Mem.tail _ hp9 | exact List.Mem.tail _ (List.Mem.tail _ hp9) | exact List.Mem.tail _ (List.Mem.tail _ (List.Mem.tail _ hp9)) | ((simp only [List.nil_append, List.append_nil, List.cons_append, List.mem_cons, List.mem_append, List.not_mem_nil, or_false, false_or] at hp9 ⊢); first | exact hp9 | exact Or.inr hp9 | (rcases hp9 with hp9 | hp9 <;> simp [hp9])))
  k_with "m_lend1" => (refine LEnd.mk2 _ (by assumption) (by assumption) (by walk_at "m_all") (by walk_at "m_ea") (by walk_at "m_own") (by walk_at "m_off") ?_; (try dsimp only))
  k_with "m_lend2" => (refine LEnd.mk2 (_, _) (by assumption) (by assumption) (by walk_at "m_all") (by walk_at "m_ea") (by walk_at "m_own") (by walk_at "m_off") ?_; (try dsimp only))
  k_with "m_lend3" => (refine LEnd.mk2 (_, _, _) (by assumption) (by assumption) (by walk_at "m_all") (by walk_at "m_ea") (by walk_at "m_own") (by walk_at "m_off") ?_; (try dsimp only))
  k_with "m_lend4" => (refine LEnd.mk2 (_, _, _, _) (by assumption) (by assumption) (by walk_at "m_all") (by walk_at "m_ea") (by walk_at "m_own") (by walk_at "m_off") ?_; (try dsimp only))
  k_with "m_ea" => first | exact (fun _ h9 => absurd h9 List.not_mem_nil) | (refine List.forall_mem_cons.mpr ⟨by k_mem, ?_⟩; walk_at "m_ea")
  k_with "m_isl" => first | with_reducible assumption | exact l_isl (by with_reducible assumption) (by k_mem) | (refine l_isl (by assumption) (by k_mem)) | assumption
  k_with "m_sz" => first | omega | ((simp only [List.length_append, List.length_cons, List.length_nil, List.length_dropLast, List.length_reverse]); omega)
  k_with "truthy ref" => (k_here; (with_reducible show wpAny _ _ (truthy (Value.ref _)) _ _ _); k_dflt (refine l_truthy (by walk_at "m_isl") (by walk_at "m_sz") ?_))
  k_with "call builtin:list.append" => (k_here; (with_reducible show wpAny _ _ (call (Value.builtin _) [Value.ref _, _]) _ _ _); k_dflt (refine l_append (by assumption) (by assumption) (by k_upd) (by walk_at "m_sz") ?_); intro h' F' N'; (try k_sweep))
  k_with "call builtin:str.join" => (k_here; (with_reducible show wpAny _ _ (call (Value.builtin _) [Value.str _ _, Value.ref _]) _ _ _); k_dflt (refine l_join (by walk_at "m_isl") (by assumption) (by decide) (by omega) ?_); intro t' k')
  k_with "call ref" => (k_here; k_dflt (refine' Ctr.useT3 (c_splitrootP _ _ _ _ _ _) ?k1 ?k2 ?k3 ?k4 ?k5 ?kA ?kh ?kf ?kK ?kd ?ku ?kp ?_; walk_at "m_site"); (case kp => ((try dsimp only); omega)); intro a9 t1 t2 t3 h' k' lt9 F' l1 N'; (try simp only [AllNe, and_true] at l1); (try k_sweep); (try dsimp only); (try k_fold))
  k_with "call ref" => (k_here; k_dflt (refine' Ctr.useT5 (c_splitext1 _ _ _ _ _ _ _ _) ?k1 ?k2 ?k3 ?k4 ?k5 ?kA ?kh ?kf ?kK ?kd ?ku ?kp ?_; walk_at "m_site"); (case kp => ((try dsimp only); omega)); intro a9 b9 c9 t1 t2 h' k' F' l1 N' o4; (try simp only [AllNe, and_true] at l1); (try k_sweep); (try dsimp only); (try k_fold))
  k_with "m_size" => ((try rw [PySem.sizeLine_eq]); omega)
  k_with "call builtin:str.split" => (k_here; (with_reducible show wpAny _ _ (call (Value.builtin "str.split") [Value.str _ _, Value.str _ _]) _ _ _); k_dflt (refine KSpl.split1 (by k_asm) (by k_asm) (by decide) ?_ (by walk_at "m_size")); intro D' l9 h' k' e9 a9 F' N' l1; rw [e9] at a9; (try k_lt l1))
  k_with "m_ne" => first | assumption | exact ne_of_isE (by assumption)
  k_with "subscriptTail Name UnaryOp ref int" => (k_here; k_dflt (refine l_lastS (by walk_at "m_isl") (by walk_at "m_ne") (by assumption) ?_); intro y9 t9 hy9)
  k_with "call builtin:list.pop" => (k_here; (with_reducible show wpAny _ _ (call (Value.builtin _) [Value.ref _]) _ _ _); k_dflt (refine l_popS (by assumption) (by assumption) (by k_upd) (by walk_at "m_ne") (by walk_at "m_sz") ?_); intro v9 h' F' N'; (try k_sweep))
  k_with "call ref" => (k_here; k_dflt (refine' Ctr.useV (c_normpath _ _ _ _ _ _) ?k1 ?k2 ?k3 ?k4 ?k5 ?kA ?kh ?kf ?kK ?kd ?ku ?kp ?_; walk_at "m_site"); (case kp => ((try dsimp only); omega)); intro t9 h' k' F' N'; (try k_sweep); (try dsimp only); (try k_fold))
  k_with "call ref" => (k_here; k_dflt (refine' Ctr.useVP (c_basenameP _ _ _ _ _ _) ?k1 ?k2 ?k3 ?k4 ?k5 ?kA ?kh ?kf ?kK ?kd ?ku ?kp ?_; walk_at "m_site"); (case kp => ((try dsimp only); omega)); intro t9 h' k' lb9 F' N'; (try k_sweep); (try dsimp only); (try k_fold))
  k_with "call ref" => (k_here; k_dflt (refine' Ctr.useVP (c_dirnameP _ _ _ _ _ _) ?k1 ?k2 ?k3 ?k4 ?k5 ?kA ?kh ?kf ?kK ?kd ?ku ?kp ?_; walk_at "m_site"); (case kp => ((try dsimp only); omega)); intro t9 h' k' lb9 F' N'; (try k_sweep); (try dsimp only); (try k_fold))
  k_with "call ref" => (k_here; k_dflt (refine' Ctr.useT2 (c_splitP _ _ _ _ _ _) ?k1 ?k2 ?k3 ?k4 ?k5 ?kA ?kh ?kf ?kK ?kd ?ku ?kp ?_; walk_at "m_site"); (case kp => ((try dsimp only); omega)); intro a9 t1 t2 h' k' lb9 F' l1 N'; (try simp only [AllNe, and_true] at l1); (try k_sweep); (try dsimp only); (try k_fold))
  k_with "m_isl" => exact Fr.lst (by assumption) (by assumption)
  k_with "m_slz" => first | omega | (simp only [List.length_append, List.length_cons, List.length_nil, List.length_dropLast, List.length_reverse, List.length_take, List.length_drop]; omega)
  k_with "call builtin:len" => (k_here; (with_reducible show wpAny _ _ (call (Value.builtin "len") [Value.ref _]) _ _ _); k_dflt (refine l_lenS (by walk_at "m_isl") (by assumption) (by walk_at "m_slz") ?_); intro t9 k9)
  k_with "subscriptTail Name Name ref int" => (k_here; k_dflt (refine l_itemS (by walk_at "m_isl") (by assumption) (by walk_at "m_slz") (by walk_at "m_slz") ?_); intro y9 t9 hy9)
  k_with "subscriptTail Name Slice ref ref" => (k_here; (with_reducible show wpAny _ _ (subscriptTail _ (PySem.Expr.Slice none none (some _) _) (Value.ref _) (Value.ref _)) _ _ _); k_dflt (refine' l_rev (by assumption) (by assumption) (by walk_at "m_isl") (IsPart.int _ _) (by walk_at "m_slz") ?_ (by with_unfolding_all rfl) (by intro _; with_unfolding_all rfl)); intro D' h' F' N' l1; (try k_lt l1); (try k_sweep))
  k_with "m_lend5" => (refine LEnd.mk2 (_, _, _, _, _) (by assumption) (by assumption) (by walk_at "m_all") (by walk_at "m_ea") (by walk_at "m_own") (by walk_at "m_off") ?_; (try dsimp only))
  k_with "call ref" => (k_here; k_dflt (refine' Ctr.useV (c_abspath _ _ _ _ _ _) ?k1 ?k2 ?k3 ?k4 ?k5 ?kA ?kh ?kf ?kK ?kd ?ku ?kp ?_; walk_at "m_site"); (case kp => ((try dsimp only); exact ⟨by omega, by assumption⟩)); intro t9 h' k' F' N'; (try k_sweep); (try dsimp only); (try k_fold))
  k_with "call ref" => (k_here; k_dflt (refine' Ctr.useO (c_number _ _ _ _ _ _) ?k1 ?k2 ?k3 ?k4 ?k5 ?kA ?kh ?kf ?kK ?kd ?ku ?kp ?_ ?_; walk_at "m_site"); (case kp => ((try dsimp only); omega)); (first | intro n9 t9 h' k' o' F' N' | intro h' k' o' F' N'); (try k_sweep); (try dsimp only); (try k_fold))
  trivial
section piece_W1
set_option maxHeartbeats 4000000 in
theorem c_get_sep (w mean mg mb) (x : Str) (t : Tok) : Ctr w mean mg mb 1 20 136 [.str x t] (fun _ => True) (fun _ _ r => ∃ t', r = .str (Str.ofString "/") t') := by
  walk_at "m_open"
  replace F' : Fr s.heap L' h' (fun y => List.lookup y [(Str.ofString "path", Value.str x t)]) := F'
  k_steps
  all_goals walk_at "m_end"
  all_goals exact ⟨_, rfl⟩
set_option maxHeartbeats 4000000 in
theorem c_fspath (w mean mg mb) (x : Str) (t : Tok) : Ctr w mean mg mb 1 20 108 [.str x t] (fun _ => True) (fun _ _ r => r = .str x t) := by
  walk_at "m_open"
  replace F' : Fr s.heap L' h' (fun y => List.lookup y [(Str.ofString "path", Value.str x t)]) := F'
  k_steps
  all_goals walk_at "m_end"
  all_goals rfl
end piece_W1
section piece_W2
set_option maxHeartbeats 4000000 in
theorem c_basename (w mean mg mb) (x : Str) (t : Tok) : Ctr w mean mg mb 2 30 174 [.str x t] (fun _ => x.length ≤ 100000) (fun _ _ r => ∃ t', r = .str (bnS x) t') := by
  walk_at "m_open"
  replace F' : Fr s.heap L' h' (fun y => List.lookup y [(Str.ofString "p", Value.str x t)]) := F'
  walk_at "m_steps"
  all_goals walk_at "m_end"
  all_goals exact ⟨_, rfl⟩

theorem lay_own_W2_1 : True := by
  k_with "m_dn" => first
    | with_reducible exact dn_a (by assumption) (by with_reducible assumption)
    | with_reducible exact dn_b (by with_reducible assumption) (by with_reducible assumption)
    | with_reducible exact dn_c (by with_reducible assumption)
  trivial
set_option maxHeartbeats 4000000 in
theorem c_dirname (w mean mg mb) (x : Str) (t : Tok) : Ctr w mean mg mb 2 30 181 [.str x t] (fun _ => x.length ≤ 100000) (fun _ _ r => ∃ t', r = .str (dnS x) t') := by
  walk_at "m_open"
  replace F' : Fr s.heap L' h' (fun y => List.lookup y [(Str.ofString "p", Value.str x t)]) := F'
  walk_at "m_steps"
  all_goals walk_at "m_end"
  all_goals refine ⟨_, congrArg (fun z => Value.str z _) ?_⟩
  all_goals walk_at "m_dn"
set_option maxHeartbeats 4000000 in
theorem c_split (w mean mg mb) (x : Str) (t : Tok) : Ctr w mean mg mb 2 30 150 [.str x t] (fun _ => x.length ≤ 100000)
    (fun h h' r => ∃ a t1 t2, r = .ref a ∧ h.get? a = none ∧ h'.get? a = some (tupOf [.str (dnS x) t1, .str (bnS x) t2])) := by
  walk_at "m_open"
  replace F' : Fr s.heap L' h' (fun y => List.lookup y [(Str.ofString "p", Value.str x t)]) := F'
  walk_at "m_steps"
  all_goals walk_at "m_end"
  all_goals refine ⟨_, _, _, rfl, (News.fresh (by assumption) (List.Mem.head _)), (News.get (by assumption) (List.Mem.head _)).trans (congrArg some (congrArg (fun z => tupOf [.str z _, _]) ?_))⟩
  all_goals walk_at "m_dn"
theorem c_basenameP (w mean mg mb) (x : Str) (t : Tok) : Ctr w mean mg mb 2 30 174 [.str x t] (fun _ => x.length ≤ 100000) (fun _ _ r => (bnS x).length ≤ x.length ∧ ∃ t', r = .str (bnS x) t') := (c_basename w mean mg mb x t).mono fun _ _ _ o => ⟨Txt.slice_le x _ _, o⟩
theorem c_dirnameP (w mean mg mb) (x : Str) (t : Tok) : Ctr w mean mg mb 2 30 181 [.str x t] (fun _ => x.length ≤ 100000) (fun _ _ r => (dnS x).length ≤ x.length ∧ ∃ t', r = .str (dnS x) t') := (c_dirname w mean mg mb x t).mono fun _ _ _ o => ⟨dnS_len x, o⟩
theorem c_splitP (w mean mg mb) (x : Str) (t : Tok) : Ctr w mean mg mb 2 30 150 [.str x t] (fun _ => x.length ≤ 100000)
    (fun h h' r => ((dnS x).length ≤ x.length ∧ (bnS x).length ≤ x.length) ∧ ∃ a t1 t2, r = .ref a ∧ h.get? a = none ∧ h'.get? a = some (tupOf [.str (dnS x) t1, .str (bnS x) t2])) := (c_split w mean mg mb x t).mono fun _ _ _ o => ⟨⟨dnS_len x, Txt.slice_le x _ _⟩, o⟩
end piece_W2
theorem lay_base_2 : True := by
  k_with_none
  k_with "m_open" => (
    refine Ctr.opened ?_
    intro dp un gd s Q E A₀ base h₀ outer env L m B F X T hf hk hd hu hp ret
    (refine' enter ?k1 ?k2 ?k3 ?k5 ?kA ?kF ?kK ?k6 ?k7 ?k8 ?k9 ?kB ?_ ?c2 ?c3 ?c4 ?c5; (case kA => exact rfl); (case kF => exact hf); (case kK => exact hk); (case k1 => exact B); (case k2 => exact F); (case k3 => exact X); (case k5 => exact T); (case k6 => k_is); (case k7 => k_is); (case k8 => (simp only; omega)); (case k9 => exact BindsTo.of_eq rfl); (case kB => exact locs rfl); (case c2 => exact rfl); (case c3 => exact rfl); (case c4 => exact rfl); (case c5 => decide))
    clear B F X T hf hk
    intro L' h' F' N' B' X' T'
    (try dsimp only)
    (try k_lift B')
    k_fold)
  k_with "m_end" => ((repeat (first | k_unfold | dsimp only)); refine ret _ _ _ (Fr.keep (by assumption)) ?_; (try dsimp only))
  k_with "m_site" => (
    (case k1 => k_asm); (case k2 => k_asm); (case k3 => k_asm); (case k4 => k_asm); (case k5 => k_asm); (case kA => exact rfl); (case kh => exact rfl); (case kf => exact rfl); (case kK => exact rfl)
    (case kd => (first | exact room1 hd rfl | exact room0 hd rfl | exact room1 hdep rfl | exact room0 hdep rfl | ((try simp only [depth_deeper, Around.in1_depth]); omega))); (case ku => (first | exact room1 hu rfl | exact room0 hu rfl | exact room2 hu rfl | exact room1 hun rfl | exact room0 hun rfl | exact room2 hun rfl | ((try simp only [Around.deeper_units, Around.in1_units, Around.mark_units]); omega))))
  k_with "call builtin:issubclass" => (k_here; (with_reducible show wpAny _ _ (call (Value.builtin "issubclass") [Value.type _, Value.ref _]) _ _ _); k_dflt (refine isub_str ?k1 ?_; (case k1 => exact News.get (by assumption) (by news_mem))); intro _)
  k_with "call ref" => (k_here; k_dflt (refine' Ctr.useE (c_fspath _ _ _ _ _ _) ?k1 ?k2 ?k3 ?k4 ?k5 ?kA ?kh ?kf ?kK ?kd ?ku ?kp ?_; walk_at "m_site"); (case kp => trivial); intro h' k' F' N'; (try k_sweep); (try dsimp only); (try k_fold))
  k_with "call ref" => (k_here; k_dflt (refine' Ctr.useV (c_get_sep _ _ _ _ _ _) ?k1 ?k2 ?k3 ?k4 ?k5 ?kA ?kh ?kf ?kK ?kd ?ku ?kp ?_; walk_at "m_site"); (case kp => trivial); intro t9 h' k' F' N'; (try k_sweep); (try dsimp only); (try k_fold))
  k_with "m_steps" => (repeat' (first | (k_unfold; (try dsimp only)) | walk1 | (dsimp only; walk1) | fail "no step"))
  k_with "m_all" => first | exact List.forall_mem_nil _ | (refine List.forall_mem_cons.mpr ⟨by with_unfolding_all rfl, ?_⟩; walk_at "m_all")
  k_with "m_off" => (intro z hz1 hz2; first | with_reducible rfl | ((have hz3 := hz1); (try simp only [List.contains_cons, List.contains_nil, Bool.or_false, Bool.or_eq_false_iff, beq_eq_false_iff_ne, ne_eq] at hz3); (try simp only [List.forall_mem_cons, List.not_mem_nil, false_imp_iff, implies_true, and_true, ne_eq] at hz2); first | (simp only [frM, kstB, hz1, hz2, hz3, if_false, Bool.false_eq_true]; done) | (simp only [frM, kstB, hz1, hz2, if_false, Bool.false_eq_true]; done) | (simp only [frM, kstB, hz1, hz3, if_false, Bool.false_eq_true]; done) | (simp_all [frM, kstB]; done)))
  k_with "LPost" => (dsimp only [LPost])
  k_with "m_for" => (refine Stop.go ?_; (with_unfolding_all refine' For_invVF (by assumption) ?f1 ?f2 ?_); (case f1 => exact rfl); (case f2 => exact rfl))
  k_with "m_own" => (intro p9 hp9; first | exact absurd hp9 List.not_mem_nil | exact hp9 | exact List.Mem.tail _ hp9 | exact List.Mem.tail _ (List.Mem.tail _ hp9) | exact List.Mem.tail _ (List.Mem.tail _ (List.Mem.tail _ hp9)) | ((simp only [List.nil_append, List.append_nil, List.cons_append, List.mem_cons, List.mem_append, List.not_mem_nil, or_false, false_or] at hp9 ⊢); first | exact hp9 | exact Or.inr hp9 | (rcases hp9 with hp9 | hp9 <;> simp [hp9])))
  k_with "m_lend1" => (refine LEnd.mk2 _ (by assumption) (by assumption) (by walk_at "m_all") (by walk_at "m_ea") (by walk_at "m_own") (by walk_at "m_off") ?_; (try dsimp only))
  k_with "m_lend2" => (refine LEnd.mk2 (_, _) (by assumption) (by assumption) (by walk_at "m_all") (by walk_at "m_ea") (by walk_at "m_own") (by walk_at "m_off") ?_; (try dsimp only))
  k_with "m_lend3" => (refine LEnd.mk2 (_, _, _) (by assumption) (by assumption) (by walk_at "m_all") (by walk_at "m_ea") (by walk_at "m_own") (by walk_at "m_off") ?_; (try dsimp only))
  k_with "m_lend4" => (refine LEnd.mk2 (_, _, _, _) (by assumption) (by assumption) (by walk_at "m_all") (by walk_at "m_ea") (by walk_at "m_own") (by walk_at "m_off") ?_; (try dsimp only))
  k_with "m_ea" => first | exact (fun _ h9 => absurd h9 List.not_mem_nil) | (refine List.forall_mem_cons.mpr ⟨by k_mem, ?_⟩; walk_at "m_ea")
  k_with "m_isl" => first | with_reducible assumption | exact l_isl (by with_reducible assumption) (by k_mem) | (refine l_isl (by assumption) (by k_mem)) | assumption
  k_with "m_sz" => first | omega | ((simp only [List.length_append, List.length_cons, List.length_nil, List.length_dropLast, List.length_reverse]); omega)
  k_with "truthy ref" => (k_here; (with_reducible show wpAny _ _ (truthy (Value.ref _)) _ _ _); k_dflt (refine l_truthy (by walk_at "m_isl") (by walk_at "m_sz") ?_))
  k_with "call builtin:list.append" => (k_here; (with_reducible show wpAny _ _ (call (Value.builtin _) [Value.ref _, _]) _ _ _); k_dflt (refine l_append (by assumption) (by assumption) (by k_upd) (by walk_at "m_sz") ?_); intro h' F' N'; (try k_sweep))
  k_with "call builtin:str.join" => (k_here; (with_reducible show wpAny _ _ (call (Value.builtin _) [Value.str _ _, Value.ref _]) _ _ _); k_dflt (refine l_join (by walk_at "m_isl") (by assumption) (by decide) (by omega) ?_); intro t' k')
  k_with "call ref" => (k_here; k_dflt (refine' Ctr.useT3 (c_splitrootP _ _ _ _ _ _) ?k1 ?k2 ?k3 ?k4 ?k5 ?kA ?kh ?kf ?kK ?kd ?ku ?kp ?_; walk_at "m_site"); (case kp => ((try dsimp only); omega)); intro a9 t1 t2 t3 h' k' lt9 F' l1 N'; (try simp only [AllNe, and_true] at l1); (try k_sweep); (try dsimp only); (try k_fold))
  k_with "call ref" => (k_here; k_dflt (refine' Ctr.useT5 (c_splitext1 _ _ _ _ _ _ _ _) ?k1 ?k2 ?k3 ?k4 ?k5 ?kA ?kh ?kf ?kK ?kd ?ku ?kp ?_; walk_at "m_site"); (case kp => ((try dsimp only); omega)); intro a9 b9 c9 t1 t2 h' k' F' l1 N' o4; (try simp only [AllNe, and_true] at l1); (try k_sweep); (try dsimp only); (try k_fold))
  k_with "m_size" => ((try rw [PySem.sizeLine_eq]); omega)
  k_with "call builtin:str.split" => (k_here; (with_reducible show wpAny _ _ (call (Value.builtin "str.split") [Value.str _ _, Value.str _ _]) _ _ _); k_dflt (refine KSpl.split1 (by k_asm) (by k_asm) (by decide) ?_ (by walk_at "m_size")); intro D' l9 h' k' e9 a9 F' N' l1; rw [e9] at a9; (try k_lt l1))
  k_with "m_ne" => first | assumption | exact ne_of_isE (by assumption)
  k_with "subscriptTail Name UnaryOp ref int" => (k_here; k_dflt (refine l_lastS (by walk_at "m_isl") (by walk_at "m_ne") (by assumption) ?_); intro y9 t9 hy9)
  k_with "call builtin:list.pop" => (k_here; (with_reducible show wpAny _ _ (call (Value.builtin _) [Value.ref _]) _ _ _); k_dflt (refine l_popS (by assumption) (by assumption) (by k_upd) (by walk_at "m_ne") (by walk_at "m_sz") ?_); intro v9 h' F' N'; (try k_sweep))
  k_with "call ref" => (k_here; k_dflt (refine' Ctr.useV (c_normpath _ _ _ _ _ _) ?k1 ?k2 ?k3 ?k4 ?k5 ?kA ?kh ?kf ?kK ?kd ?ku ?kp ?_; walk_at "m_site"); (case kp => ((try dsimp only); omega)); intro t9 h' k' F' N'; (try k_sweep); (try dsimp only); (try k_fold))
  k_with "call ref" => (k_here; k_dflt (refine' Ctr.useVP (c_basenameP _ _ _ _ _ _) ?k1 ?k2 ?k3 ?k4 ?k5 ?kA ?kh ?kf ?kK ?kd ?ku ?kp ?_; walk_at "m_site"); (case kp => ((try dsimp only); omega)); intro t9 h' k' lb9 F' N'; (try k_sweep); (try dsimp only); (try k_fold))
  k_with "call ref" => (k_here; k_dflt (refine' Ctr.useVP (c_dirnameP _ _ _ _ _ _) ?k1 ?k2 ?k3 ?k4 ?k5 ?kA ?kh ?kf ?kK ?kd ?ku ?kp ?_; walk_at "m_site"); (case kp => ((try dsimp only); omega)); intro t9 h' k' lb9 F' N'; (try k_sweep); (try dsimp only); (try k_fold))
  k_with "call ref" => (k_here; k_dflt (refine' Ctr.useT2 (c_splitP _ _ _ _ _ _) ?k1 ?k2 ?k3 ?k4 ?k5 ?kA ?kh ?kf ?kK ?kd ?ku ?kp ?_; walk_at "m_site"); (case kp => ((try dsimp only); omega)); intro a9 t1 t2 h' k' lb9 F' l1 N'; (try simp only [AllNe, and_true] at l1); (try k_sweep); (try dsimp only); (try k_fold))
  k_with "m_isl" => exact Fr.lst (by assumption) (by assumption)
  k_with "m_slz" => first | omega | (simp only [List.length_append, List.length_cons, List.length_nil, List.length_dropLast, List.length_reverse, List.length_take, List.length_drop]; omega)
  k_with "call builtin:len" => (k_here; (with_reducible show wpAny _ _ (call (Value.builtin "len") [Value.ref _]) _ _ _); k_dflt (refine l_lenS (by walk_at "m_isl") (by assumption) (by walk_at "m_slz") ?_); intro t9 k9)
  k_with "subscriptTail Name Name ref int" => (k_here; k_dflt (refine l_itemS (by walk_at "m_isl") (by assumption) (by walk_at "m_slz") (by walk_at "m_slz") ?_); intro y9 t9 hy9)
  k_with "subscriptTail Name Slice ref ref" => (k_here; (with_reducible show wpAny _ _ (subscriptTail _ (PySem.Expr.Slice none none (some _) _) (Value.ref _) (Value.ref _)) _ _ _); k_dflt (refine' l_rev (by assumption) (by assumption) (by walk_at "m_isl") (IsPart.int _ _) (by walk_at "m_slz") ?_ (by with_unfolding_all rfl) (by intro _; with_unfolding_all rfl)); intro D' h' F' N' l1; (try k_lt l1); (try k_sweep))
  k_with "m_lend5" => (refine LEnd.mk2 (_, _, _, _, _) (by assumption) (by assumption) (by walk_at "m_all") (by walk_at "m_ea") (by walk_at "m_own") (by walk_at "m_off") ?_; (try dsimp only))
  k_with "call ref" => (k_here; k_dflt (refine' Ctr.useV (c_abspath _ _ _ _ _ _) ?k1 ?k2 ?k3 ?k4 ?k5 ?kA ?kh ?kf ?kK ?kd ?ku ?kp ?_; walk_at "m_site"); (case kp => ((try dsimp only); exact ⟨by omega, by assumption⟩)); intro t9 h' k' F' N'; (try k_sweep); (try dsimp only); (try k_fold))
  k_with "call ref" => (k_here; k_dflt (refine' Ctr.useO (c_number _ _ _ _ _ _) ?k1 ?k2 ?k3 ?k4 ?k5 ?kA ?kh ?kf ?kK ?kd ?ku ?kp ?_ ?_; walk_at "m_site"); (case kp => ((try dsimp only); omega)); (first | intro n9 t9 h' k' o' F' N' | intro h' k' o' F' N'); (try k_sweep); (try dsimp only); (try k_fold))
  trivial
section piece_W3
set_option maxHeartbeats 4000000 in
theorem c_splitroot (w mean mg mb) (x : Str) (t : Tok) : Ctr w mean mg mb 2 30 167 [.str x t] (fun _ => x.length ≤ 100000)
    (fun h h' r => ∃ a t1 t2 t3, r = .ref a ∧ h.get? a = none ∧ h'.get? a = some (tupOf [.str (Str.ofString "") t1, .str (rootS x) t2, .str (tailS x) t3])) := by
  suffices H : Ctr w mean mg mb 2 30 167 [.str x t] (fun _ => x.length ≤ 100000)
    (fun h h' r => ∃ a r' tl t1 t2 t3, r = .ref a ∧ h.get? a = none ∧ h'.get? a = some (tupOf [.str (Str.ofString "") t1, .str r' t2, .str tl t3]) ∧ srR x r' tl) from
    fun A s Q E st hd hu hp ret => H A s Q E st hd hu hp fun r h' tk' e ⟨a, r', tl, t1, t2, t3, o1, o2, o3, o4⟩ => ret r h' tk' e ⟨a, t1, t2, t3, o1, o2, by rw [← o4.eqs.1, ← o4.eqs.2]; exact o3⟩
  walk_at "m_open"
  replace F' : Fr s.heap L' h' (fun y => List.lookup y [(Str.ofString "p", Value.str x t)]) := F'
  walk_at "m_steps"
  all_goals walk_at "m_end"
  all_goals refine ⟨_, _, _, _, _, _, rfl, (News.fresh (by assumption) (List.Mem.head _)), (News.get (by assumption) (List.Mem.head _)), ?_⟩
  all_goals first
    | with_reducible exact .none (by assumption)
    | with_reducible exact .one (by assumption) (by assumption)
    | with_reducible exact .three (by assumption) (by assumption) (by assumption)
    | with_reducible exact .two (by assumption) (by assumption) (by assumption)
section
theorem lay_own_W3_1 : True := by
  k_with "exec While Compare cons nil" => (k_here; refine stop_here ?_)
  trivial
set_option maxHeartbeats 4000000 in
theorem c_splitext1 (w mean mg mb) (x : Str) (t t2 t3 : Tok) : Ctr w mean mg mb 2 30 122 [.str x t, .str (Str.ofString "/") t2, .none, .str (Str.ofString ".") t3] (fun _ => x.length ≤ 100000)
    (fun h h' r => ∃ a b e t1 t2, r = .ref a ∧ h.get? a = none ∧ h'.get? a = some (tupOf [.str b t1, .str e t2]) ∧ sxR x b e) := by
  walk_at "m_open"
  replace F' : Fr s.heap L' h' (fun y => List.lookup y [(Str.ofString "extsep", .str (Str.ofString ".") t3), (Str.ofString "altsep", .none), (Str.ofString "sep", .str (Str.ofString "/") t2), (Str.ofString "p", Value.str x t)]) := F'
  walk_at "m_steps"
  · refine Stop.go ?_
    rename Fr _ _ _ _ => Fw
    rename News _ _ _ _ => Nw
    refine' while_st (σ := Int × Tok) (fun c => [(Str.ofString "filenameIndex", .int c.1 c.2)]) (fun _ => []) []
      (fun c => Txt.rfind x (Str.ofString "/") < c.1 ∧ c.1 ≤ Txt.rfind x (Str.ofString ".") ∧ ∀ j, Txt.rfind x (Str.ofString "/") < j → j < c.1 → Txt.slice x (some j) (some (j + 1)) = Str.ofString ".") (fun c => (Txt.rfind x (Str.ofString ".") - c.1).toNat) (_, _) Fw Nw ?hp ?hi ?turn
    case hp => walk_at "m_all"
    case hi => dsimp only; exact ⟨by omega, by omega, fun j _ _ => by omega⟩
    clear Fw Nw
    rintro ⟨k, tk⟩ u h' tk' ⟨hk1, hk2, hk3⟩ F' N'
    dsimp only at hk1 hk2 hk3 F' N' ⊢
    simp only [List.nil_append, List.append_nil] at N'
    walk_at "m_steps"
    · walk_at "m_end"
      exact ⟨_, _, _, _, _, rfl, (News.fresh (by assumption) (List.Mem.head _)), (News.get (by assumption) (List.Mem.head _)), .cut k (by assumption) (by assumption) (by with_reducible assumption)⟩
    · refine' LEnd.mk' (_, _) (by assumption) (by assumption) ?ea ?eb ?ed ?ee ?ei
      case ea => exact List.forall_mem_nil _
      case eb => exact List.forall_mem_nil _
      case ed => walk_at "m_all"
      case ee => walk_at "m_off"
      case ei =>
        dsimp only
        refine ⟨⟨by omega, by omega, fun j h1 h2 => ?_⟩, by omega⟩
        rcases Int.lt_or_eq_of_le (Int.le_of_lt_add_one h2) with h | rfl
        · exact hk3 j h1 h
        · rename (_ != _) = false => hne
          simpa using hne
    · walk_at "m_end"
      have e : k = Txt.rfind x (Str.ofString ".") := by omega
      subst e
      exact ⟨_, _, _, _, _, rfl, (News.fresh (by assumption) (List.Mem.head _)), (News.get (by assumption) (List.Mem.head _)), .whole hk3⟩
  · walk_at "m_end"
    exact ⟨_, _, _, _, _, rfl, (News.fresh (by assumption) (List.Mem.head _)), (News.get (by assumption) (List.Mem.head _)), .whole fun j h1 h2 => by omega⟩
end
set_option maxHeartbeats 4000000 in
theorem c_splitext (w mean mg mb) (x : Str) (t : Tok) : Ctr w mean mg mb 3 40 157 [.str x t] (fun _ => x.length ≤ 100000)
    (fun h h' r => ∃ a b e t1 t2, r = .ref a ∧ h.get? a = none ∧ h'.get? a = some (tupOf [.str b t1, .str e t2]) ∧ sxR x b e) := by
  walk_at "m_open"
  replace F' : Fr s.heap L' h' (fun y => List.lookup y [(Str.ofString "p", Value.str x t)]) := F'
  walk_at "m_steps"
  all_goals walk_at "m_end"
  all_goals exact ⟨_, _, _, _, _, rfl, (News.fresh (by assumption) (List.Mem.head _)), (News.get (by assumption) (List.Mem.head _)), (by assumption)⟩
theorem c_splitrootP (w mean mg mb) (x : Str) (t : Tok) : Ctr w mean mg mb 2 30 167 [.str x t] (fun _ => x.length ≤ 100000)
    (fun h h' r => ((tailS x).length ≤ x.length ∧ (rootS x).length ≤ 2) ∧ ∃ a t1 t2 t3, r = .ref a ∧ h.get? a = none ∧ h'.get? a = some (tupOf [.str (Str.ofString "") t1, .str (rootS x) t2, .str (tailS x) t3])) := (c_splitroot w mean mg mb x t).mono fun _ _ _ o => ⟨⟨tailS_len x, rootS_len x⟩, o⟩
end piece_W3
theorem lay_base_3 : True := by
  k_with_none
  k_with "m_open" => (
    refine Ctr.opened ?_
    intro dp un gd s Q E A₀ base h₀ outer env L m B F X T hf hk hd hu hp ret
    (refine' enter ?k1 ?k2 ?k3 ?k5 ?kA ?kF ?kK ?k6 ?k7 ?k8 ?k9 ?kB ?_ ?c2 ?c3 ?c4 ?c5; (case kA => exact rfl); (case kF => exact hf); (case kK => exact hk); (case k1 => exact B); (case k2 => exact F); (case k3 => exact X); (case k5 => exact T); (case k6 => k_is); (case k7 => k_is); (case k8 => (simp only; omega)); (case k9 => exact BindsTo.of_eq rfl); (case kB => exact locs rfl); (case c2 => exact rfl); (case c3 => exact rfl); (case c4 => exact rfl); (case c5 => decide))
    clear B F X T hf hk
    intro L' h' F' N' B' X' T'
    (try dsimp only)
    (try k_lift B')
    k_fold)
  k_with "m_end" => ((repeat (first | k_unfold | dsimp only)); refine ret _ _ _ (Fr.keep (by assumption)) ?_; (try dsimp only))
  k_with "m_site" => (
    (case k1 => k_asm); (case k2 => k_asm); (case k3 => k_asm); (case k4 => k_asm); (case k5 => k_asm); (case kA => exact rfl); (case kh => exact rfl); (case kf => exact rfl); (case kK => exact rfl)
    (case kd => (first | exact room1 hd rfl | exact room0 hd rfl | exact room1 hdep rfl | exact room0 hdep rfl | ((try simp only [depth_deeper, Around.in1_depth]); omega))); (case ku => (first | exact room1 hu rfl | exact room0 hu rfl | exact room2 hu rfl | exact room1 hun rfl | exact room0 hun rfl | exact room2 hun rfl | ((try simp only [Around.deeper_units, Around.in1_units, Around.mark_units]); omega))))
  k_with "call builtin:issubclass" => (k_here; (with_reducible show wpAny _ _ (call (Value.builtin "issubclass") [Value.type _, Value.ref _]) _ _ _); k_dflt (refine isub_str ?k1 ?_; (case k1 => exact News.get (by assumption) (by news_mem))); intro _)
  k_with "call ref" => (k_here; k_dflt (refine' Ctr.useE (c_fspath _ _ _ _ _ _) ?k1 ?k2 ?k3 ?k4 ?k5 ?kA ?kh ?kf ?kK ?kd ?ku ?kp ?_; walk_at "m_site"); (case kp => trivial); intro h' k' F' N'; (try k_sweep); (try dsimp only); (try k_fold))
  k_with "call ref" => (k_here; k_dflt (refine' Ctr.useV (c_get_sep _ _ _ _ _ _) ?k1 ?k2 ?k3 ?k4 ?k5 ?kA ?kh ?kf ?kK ?kd ?ku ?kp ?_; walk_at "m_site"); (case kp => trivial); intro t9 h' k' F' N'; (try k_sweep); (try dsimp only); (try k_fold))
  k_with "m_steps" => (repeat' (first | (k_unfold; (try dsimp only)) | walk1 | (dsimp only; walk1) | fail "no step"))
  k_with "m_all" => first | exact List.forall_mem_nil _ | (refine List.forall_mem_cons.mpr ⟨by with_unfolding_all rfl, ?_⟩; walk_at "m_all")
  k_with "m_off" => (intro z hz1 hz2; first | with_reducible rfl | ((have hz3 := hz1); (try simp only [List.contains_cons, List.contains_nil, Bool.or_false, Bool.or_eq_false_iff, beq_eq_false_iff_ne, ne_eq] at hz3); (try simp only [List.forall_mem_cons, List.not_mem_nil, false_imp_iff, implies_true, and_true, ne_eq] at hz2); first | (simp only [frM, kstB, hz1, hz2, hz3, if_false, Bool.false_eq_true]; done) | (simp only [frM, kstB, hz1, hz2, if_false, Bool.false_eq_true]; done) | (simp only [frM, kstB, hz1, hz3, if_false, Bool.false_eq_true]; done) | (simp_all [frM, kstB]; done)))
  k_with "LPost" => (dsimp only [LPost])
  k_with "m_for" => (refine Stop.go ?_; (with_unfolding_all refine' For_invVF (by assumption) ?f1 ?f2 ?_); (case f1 => exact rfl); (case f2 => exact rfl))
  k_with "m_own" => (intro p9 hp9; first | exact absurd hp9 List.not_mem_nil | exact hp9 | exact List.Mem.tail _ hp9 | exact List.Mem.tail _ (List.Mem.tail _ hp9) | exact List.Mem.tail _ (List.Mem.tail _ (List.Mem.tail _ hp9)) | ((simp only [List.nil_append, List.append_nil, List.cons_append, List.mem_cons, List.mem_append, List.not_mem_nil, or_false, false_or] at hp9 ⊢); first | exact hp9 | exact Or.inr hp9 | (rcases hp9 with hp9 | hp9 <;> simp [hp9])))
  k_with "m_lend1" => (refine LEnd.mk2 _ (by assumption) (by assumption) (by walk_at "m_all") (by walk_at "m_ea") (by walk_at "m_own") (by walk_at "m_off") ?_; (try dsimp only))
  k_with "m_lend2" => (refine LEnd.mk2 (_, _) (by assumption) (by assumption) (by walk_at "m_all") (by walk_at "m_ea") (by walk_at "m_own") (by walk_at "m_off") ?_; (try dsimp only))
  k_with "m_lend3" => (refine LEnd.mk2 (_, _, _) (by assumption) (by assumption) (by walk_at "m_all") (by walk_at "m_ea") (by walk_at "m_own") (by walk_at "m_off") ?_; (try dsimp only))
  k_with "m_lend4" => (refine LEnd.mk2 (_, _, _, _) (by assumption) (by assumption) (by walk_at "m_all") (by walk_at "m_ea") (by walk_at "m_own") (by walk_at "m_off") ?_; (try dsimp only))
  k_with "m_ea" => first | exact (fun _ h9 => absurd h9 List.not_mem_nil) | (refine List.forall_mem_cons.mpr ⟨by k_mem, ?_⟩; walk_at "m_ea")
  k_with "m_isl" => first | with_reducible assumption | exact l_isl (by with_reducible assumption) (by k_mem) | (refine l_isl (by assumption) (by k_mem)) | assumption
  k_with "m_sz" => first | omega | ((simp only [List.length_append, List.length_cons, List.length_nil, List.length_dropLast, List.length_reverse]); omega)
  k_with "truthy ref" => (k_here; (with_reducible show wpAny _ _ (truthy (Value.ref _)) _ _ _); k_dflt (refine l_truthy (by walk_at "m_isl") (by walk_at "m_sz") ?_))
  k_with "call builtin:list.append" => (k_here; (with_reducible show wpAny _ _ (call (Value.builtin _) [Value.ref _, _]) _ _ _); k_dflt (refine l_append (by assumption) (by assumption) (by k_upd) (by walk_at "m_sz") ?_); intro h' F' N'; (try k_sweep))
  k_with "call builtin:str.join" => (k_here; (with_reducible show wpAny _ _ (call (Value.builtin _) [Value.str _ _, Value.ref _]) _ _ _); k_dflt (refine l_join (by walk_at "m_isl") (by assumption) (by decide) (by omega) ?_); intro t' k')
  k_with "call ref" => (k_here; k_dflt (refine' Ctr.useT3 (c_splitrootP _ _ _ _ _ _) ?k1 ?k2 ?k3 ?k4 ?k5 ?kA ?kh ?kf ?kK ?kd ?ku ?kp ?_; walk_at "m_site"); (case kp => ((try dsimp only); omega)); intro a9 t1 t2 t3 h' k' lt9 F' l1 N'; (try simp only [AllNe, and_true] at l1); (try k_sweep); (try dsimp only); (try k_fold))
  k_with "call ref" => (k_here; k_dflt (refine' Ctr.useT5 (c_splitext1 _ _ _ _ _ _ _ _) ?k1 ?k2 ?k3 ?k4 ?k5 ?kA ?kh ?kf ?kK ?kd ?ku ?kp ?_; walk_at "m_site"); (case kp => ((try dsimp only); omega)); intro a9 b9 c9 t1 t2 h' k' F' l1 N' o4; (try simp only [AllNe, and_true] at l1); (try k_sweep); (try dsimp only); (try k_fold))
  k_with "m_size" => ((try rw [PySem.sizeLine_eq]); omega)
  k_with "call builtin:str.split" => (k_here; (with_reducible show wpAny _ _ (call (Value.builtin "str.split") [Value.str _ _, Value.str _ _]) _ _ _); k_dflt (refine KSpl.split1 (by k_asm) (by k_asm) (by decide) ?_ (by walk_at "m_size")); intro D' l9 h' k' e9 a9 F' N' l1; rw [e9] at a9; (try k_lt l1))
  k_with "m_ne" => first | assumption | exact ne_of_isE (by assumption)
  k_with "subscriptTail Name UnaryOp ref int" => (k_here; k_dflt (refine l_lastS (by walk_at "m_isl") (by walk_at "m_ne") (by assumption) ?_); intro y9 t9 hy9)
  k_with "call builtin:list.pop" => (k_here; (with_reducible show wpAny _ _ (call (Value.builtin _) [Value.ref _]) _ _ _); k_dflt (refine l_popS (by assumption) (by assumption) (by k_upd) (by walk_at "m_ne") (by walk_at "m_sz") ?_); intro v9 h' F' N'; (try k_sweep))
  k_with "call ref" => (k_here; k_dflt (refine' Ctr.useV (c_normpath _ _ _ _ _ _) ?k1 ?k2 ?k3 ?k4 ?k5 ?kA ?kh ?kf ?kK ?kd ?ku ?kp ?_; walk_at "m_site"); (case kp => ((try dsimp only); omega)); intro t9 h' k' F' N'; (try k_sweep); (try dsimp only); (try k_fold))
  k_with "call ref" => (k_here; k_dflt (refine' Ctr.useVP (c_basenameP _ _ _ _ _ _) ?k1 ?k2 ?k3 ?k4 ?k5 ?kA ?kh ?kf ?kK ?kd ?ku ?kp ?_; walk_at "m_site"); (case kp => ((try dsimp only); omega)); intro t9 h' k' lb9 F' N'; (try k_sweep); (try dsimp only); (try k_fold))
  k_with "call ref" => (k_here; k_dflt (refine' Ctr.useVP (c_dirnameP _ _ _ _ _ _) ?k1 ?k2 ?k3 ?k4 ?k5 ?kA ?kh ?kf ?kK ?kd ?ku ?kp ?_; walk_at "m_site"); (case kp => ((try dsimp only); omega)); intro t9 h' k' lb9 F' N'; (try k_sweep); (try dsimp only); (try k_fold))
  k_with "call ref" => (k_here; k_dflt (refine' Ctr.useT2 (c_splitP _ _ _ _ _ _) ?k1 ?k2 ?k3 ?k4 ?k5 ?kA ?kh ?kf ?kK ?kd ?ku ?kp ?_; walk_at "m_site"); (case kp => ((try dsimp only); omega)); intro a9 t1 t2 h' k' lb9 F' l1 N'; (try simp only [AllNe, and_true] at l1); (try k_sweep); (try dsimp only); (try k_fold))
  k_with "m_isl" => exact Fr.lst (by assumption) (by assumption)
  k_with "m_slz" => first | omega | (simp only [List.length_append, List.length_cons, List.length_nil, List.length_dropLast, List.length_reverse, List.length_take, List.length_drop]; omega)
  k_with "call builtin:len" => (k_here; (with_reducible show wpAny _ _ (call (Value.builtin "len") [Value.ref _]) _ _ _); k_dflt (refine l_lenS (by walk_at "m_isl") (by assumption) (by walk_at "m_slz") ?_); intro t9 k9)
  k_with "subscriptTail Name Name ref int" => (k_here; k_dflt (refine l_itemS (by walk_at "m_isl") (by assumption) (by walk_at "m_slz") (by walk_at "m_slz") ?_); intro y9 t9 hy9)
  k_with "subscriptTail Name Slice ref ref" => (k_here; (with_reducible show wpAny _ _ (subscriptTail _ (PySem.Expr.Slice none none (some _) _) (Value.ref _) (Value.ref _)) _ _ _); k_dflt (refine' l_rev (by assumption) (by assumption) (by walk_at "m_isl") (IsPart.int _ _) (by walk_at "m_slz") ?_ (by with_unfolding_all rfl) (by intro _; with_unfolding_all rfl)); intro D' h' F' N' l1; (try k_lt l1); (try k_sweep))
  k_with "m_lend5" => (refine LEnd.mk2 (_, _, _, _, _) (by assumption) (by assumption) (by walk_at "m_all") (by walk_at "m_ea") (by walk_at "m_own") (by walk_at "m_off") ?_; (try dsimp only))
  k_with "call ref" => (k_here; k_dflt (refine' Ctr.useV (c_abspath _ _ _ _ _ _) ?k1 ?k2 ?k3 ?k4 ?k5 ?kA ?kh ?kf ?kK ?kd ?ku ?kp ?_; walk_at "m_site"); (case kp => ((try dsimp only); exact ⟨by omega, by assumption⟩)); intro t9 h' k' F' N'; (try k_sweep); (try dsimp only); (try k_fold))
  k_with "call ref" => (k_here; k_dflt (refine' Ctr.useO (c_number _ _ _ _ _ _) ?k1 ?k2 ?k3 ?k4 ?k5 ?kA ?kh ?kf ?kK ?kd ?ku ?kp ?_ ?_; walk_at "m_site"); (case kp => ((try dsimp only); omega)); (first | intro n9 t9 h' k' o' F' N' | intro h' k' o' F' N'); (try k_sweep); (try dsimp only); (try k_fold))
  trivial
section piece_W4
section
theorem lay_own_W4_1 : True := by
  k_with "exec For Name Name cons nil" => (k_here; refine stop_here ?_)
  k_with "pyIter ref" => (k_here; refine stop_here ?_)
  trivial
set_option maxHeartbeats 4000000 in
theorem c_join (w mean mg mb) (a : Str) (t : Tok) (vs : List Value) (bs : List Str) (hvs : StrsAre vs bs) : Ctr w mean mg mb 2 40 143 (.str a t :: vs) (fun _ => a.length + sumLen bs + bs.length ≤ 100000)
    (fun h h' r => ∃ t', r = .str (joinS a bs) t') := by
  refine Ctr.opened ?_
  intro dp un gd s Q E A₀ base h₀ outer env L m B F X T hf hk hd hu hp ret
  (refine' enter_rest (vs := vs) (g₁ := fun D => some [(Str.ofString "a", .str a t), (Str.ofString "p", .ref D)]) (binds := fun D => [(Str.ofString "a", .str a t), (Str.ofString "p", .ref D)]) ?k1 ?k2 ?k3 ?k5 ?kA ?kF ?kK ?k6 ?k7 ?k8 ?k9 ?kG ?kB ?_ ?c2 ?c3 ?c4 ?c5; (case kA => exact rfl); (case kF => exact hf); (case kK => exact hk); (case k1 => exact B); (case k2 => exact F); (case k3 => exact X); (case k5 => exact T); (case k6 => k_is); (case k7 => k_is); (case k8 => (simp only; omega)); (case kB => exact fun _ => locs rfl); (case c2 => exact rfl); (case c3 => exact rfl); (case c4 => exact rfl); (case c5 => decide))
  case k9 =>
    have hsz : ¬ (vs.toArray.size > sizeLine) := by
      have h1 := hvs.length
      rw [List.size_toArray, h1, sizeLine_eq]
      have h2 : a.length + sumLen bs + bs.length ≤ 100000 := hp
      omega
    have e : newTuple vs = (alloc (tupOf vs) >>= fun D => pure (Value.ref D)) := by
      unfold newTuple newObj
      dsimp only
      rw [if_neg hsz]
      rfl
    unfold bindArgs
    dsimp only [fnOf]
    simp only [Option.isNone_some, Bool.and_false, List.map_cons, List.map_nil, List.nil_append, List.append_nil, List.length_cons, List.length_nil, Nat.zero_add, List.drop_succ_cons, List.drop_zero, e]
    exact rfl
  case kG => exact fun _ => rfl
  clear B F X T hf hk
  intro D hT L' h' eT hD0 hD F' N' B' X' T'
  try dsimp only
  k_fold
  walk_at "m_steps"
  walk_at "m_for"
  walk_at "m_steps"
  refine Stop.go ?_
  rename Fr _ _ _ _ => Fw
  rename News _ _ _ _ => Nw
  refine' for_tuple (σ := Str × Tok) (fun c => [(Str.ofString "path", .str c.1 c.2)]) (fun _ => []) [] (fun i c => c.1 = joinS a (bs.take i)) (_, _) ?hh ?hl ?hL Fw Nw (fun _ => rfl) (fun _ hp => nomatch hp) ?hp ?hi ?turn ?done
  case hp => walk_at "m_all"
  case hi => rfl
  case hh => exact rfl
  case hl => exact ⟨_, Fw.keep _ _ hD, rfl, _, rfl⟩
  case hL =>
    intro e
    exact absurd (Nat.lt_of_lt_of_le (Heap.lt_size hD) Fw.above) (by rw [e]; exact Nat.lt_irrefl _)
  case done =>
    clear Fw Nw
    rintro ⟨pa, tp⟩ u h' tk' hI F' N'
    dsimp only at hI F' N' ⊢
    walk_at "m_steps"
    (repeat (first | k_unfold | dsimp only))
    refine ret _ _ _ (eT.trans (Fr.keep (by assumption))) ?_
    rw [hvs.length, List.take_length] at hI
    subst hI
    exact ⟨_, rfl⟩
  case turn =>
    clear Fw Nw
    rintro i v ⟨pa, tp⟩ u h' tk' own hv hI ho F' N'
    obtain ⟨b, tb, rfl, hb⟩ := hvs.item i v hv
    dsimp only at hI F' N' ⊢
    have hi : i < bs.length := by
      rcases Nat.lt_or_ge i bs.length with h | h
      · exact h
      · rw [List.getElem?_eq_none h] at hb; cases hb
    have et : bs.take (i + 1) = bs.take i ++ [b] := by rw [List.take_add_one, hb]; rfl
    have hl2 : b.length ≤ 100000 := by have := len_mem hb; omega
    have hl1 : pa.length + b.length + 1 ≤ 100000 := by
      have h1 := joinS_len (bs.take i) a
      have h2 := sumLen_take bs (i + 1)
      rw [et] at h2
      simp only [sumLen, List.map_append, List.sum_append, List.map_cons, List.map_nil, List.sum_cons, List.sum_nil] at h1 h2 hp
      rw [List.length_take] at h1
      subst hI
      omega
    walk_at "m_steps"
    all_goals walk_at "m_lend2"
    all_goals (rw [et, joinS_snoc, ← hI]; unfold joinStep)
    all_goals (rename Txt.startswith _ _ = _ => hsw)
    · rw [if_pos (.inl hsw)]
    · rename ((pa.length : Int) ≠ 0) => hn0
      rename Txt.endswith _ _ = _ => hew
      rw [if_neg (by rw [hsw]; intro h; rcases h with h | h <;> first | cases h | omega), if_pos hew]
    · rename ((pa.length : Int) ≠ 0) => hn0
      rename Txt.endswith _ _ = _ => hew
      rw [if_neg (by rw [hsw]; intro h; rcases h with h | h <;> first | cases h | omega), if_neg (by rw [hew]; decide)]
    · rename ((pa.length : Int) = 0) => hn0
      rw [if_pos (.inr (by omega))]
end
end piece_W4
theorem lay_base_4 : True := by
  k_with_none
  k_with "m_open" => (
    refine Ctr.opened ?_
    intro dp un gd s Q E A₀ base h₀ outer env L m B F X T hf hk hd hu hp ret
    (refine' enter ?k1 ?k2 ?k3 ?k5 ?kA ?kF ?kK ?k6 ?k7 ?k8 ?k9 ?kB ?_ ?c2 ?c3 ?c4 ?c5; (case kA => exact rfl); (case kF => exact hf); (case kK => exact hk); (case k1 => exact B); (case k2 => exact F); (case k3 => exact X); (case k5 => exact T); (case k6 => k_is); (case k7 => k_is); (case k8 => (simp only; omega)); (case k9 => exact BindsTo.of_eq rfl); (case kB => exact locs rfl); (case c2 => exact rfl); (case c3 => exact rfl); (case c4 => exact rfl); (case c5 => decide))
    clear B F X T hf hk
    intro L' h' F' N' B' X' T'
    (try dsimp only)
    (try k_lift B')
    k_fold)
  k_with "m_end" => ((repeat (first | k_unfold | dsimp only)); refine ret _ _ _ (Fr.keep (by assumption)) ?_; (try dsimp only))
  k_with "m_site" => (
    (case k1 => k_asm); (case k2 => k_asm); (case k3 => k_asm); (case k4 => k_asm); (case k5 => k_asm); (case kA => exact rfl); (case kh => exact rfl); (case kf => exact rfl); (case kK => exact rfl)
    (case kd => (first | exact room1 hd rfl | exact room0 hd rfl | exact room1 hdep rfl | exact room0 hdep rfl | ((try simp only [depth_deeper, Around.in1_depth]); omega))); (case ku => (first | exact room1 hu rfl | exact room0 hu rfl | exact room2 hu rfl | exact room1 hun rfl | exact room0 hun rfl | exact room2 hun rfl | ((try simp only [Around.deeper_units, Around.in1_units, Around.mark_units]); omega))))
  k_with "call builtin:issubclass" => (k_here; (with_reducible show wpAny _ _ (call (Value.builtin "issubclass") [Value.type _, Value.ref _]) _ _ _); k_dflt (refine isub_str ?k1 ?_; (case k1 => exact News.get (by assumption) (by news_mem))); intro _)
  k_with "call ref" => (k_here; k_dflt (refine' Ctr.useE (c_fspath _ _ _ _ _ _) ?k1 ?k2 ?k3 ?k4 ?k5 ?kA ?kh ?kf ?kK ?kd ?ku ?kp ?_; walk_at "m_site"); (case kp => trivial); intro h' k' F' N'; (try k_sweep); (try dsimp only); (try k_fold))
  k_with "call ref" => (k_here; k_dflt (refine' Ctr.useV (c_get_sep _ _ _ _ _ _) ?k1 ?k2 ?k3 ?k4 ?k5 ?kA ?kh ?kf ?kK ?kd ?ku ?kp ?_; walk_at "m_site"); (case kp => trivial); intro t9 h' k' F' N'; (try k_sweep); (try dsimp only); (try k_fold))
  k_with "m_steps" => (repeat' (first | (k_unfold; (try dsimp only)) | walk1 | (dsimp only; walk1) | fail "no step"))
  k_with "m_all" => first | exact List.forall_mem_nil _ | (refine List.forall_mem_cons.mpr ⟨by with_unfolding_all rfl, ?_⟩; walk_at "m_all")
  k_with "m_off" => (intro z hz1 hz2; first | with_reducible rfl | ((have hz3 := hz1); (try simp only [List.contains_cons, List.contains_nil, Bool.or_false, Bool.or_eq_false_iff, beq_eq_false_iff_ne, ne_eq] at hz3); (try simp only [List.forall_mem_cons, List.not_mem_nil, false_imp_iff, implies_true, and_true, ne_eq] at hz2); first | (simp only [frM, kstB, hz1, hz2, hz3, if_false, Bool.false_eq_true]; done) | (simp only [frM, kstB, hz1, hz2, if_false, Bool.false_eq_true]; done) | (simp only [frM, kstB, hz1, hz3, if_false, Bool.false_eq_true]; done) | (simp_all [frM, kstB]; done)))
  k_with "LPost" => (dsimp only [LPost])
  k_with "m_for" => (refine Stop.go ?_; (with_unfolding_all refine' For_invVF (by assumption) ?f1 ?f2 ?_); (case f1 => exact rfl); (case f2 => exact rfl))
  k_with "m_own" => (intro p9 hp9; first | exact absurd hp9 List.not_mem_nil | exact hp9 | exact List.Mem.tail _ hp9 | exact List.Mem.tail _ (List.Mem.tail _ hp9) | exact List.Mem.tail _ (List.Mem.tail _ (List.Mem.tail _ hp9)) | ((simp only [List.nil_append, List.append_nil, List.cons_append, List.mem_cons, List.mem_append, List.not_mem_nil, or_false, false_or] at hp9 ⊢); first | exact hp9 | exact Or.inr hp9 | (rcases hp9 with hp9 | hp9 <;> simp [hp9])))
  k_with "m_lend1" => (refine LEnd.mk2 _ (by assumption) (by assumption) (by walk_at "m_all") (by walk_at "m_ea") (by walk_at "m_own") (by walk_at "m_off") ?_; (try dsimp only))
  k_with "m_lend2" => (refine LEnd.mk2 (_, _) (by assumption) (by assumption) (by walk_at "m_all") (by walk_at "m_ea") (by walk_at "m_own") (by walk_at "m_off") ?_; (try dsimp only))
  k_with "m_lend3" => (refine LEnd.mk2 (_, _, _) (by assumption) (by assumption) (by walk_at "m_all") (by walk_at "m_ea") (by walk_at "m_own") (by walk_at "m_off") ?_; (try dsimp only))
  k_with "m_lend4" => (refine LEnd.mk2 (_, _, _, _) (by assumption) (by assumption) (by walk_at "m_all") (by walk_at "m_ea") (by walk_at "m_own") (by walk_at "m_off") ?_; (try dsimp only))
  k_with "m_ea" => first | exact (fun _ h9 => absurd h9 List.not_mem_nil) | (refine List.forall_mem_cons.mpr ⟨by k_mem, ?_⟩; walk_at "m_ea")
  k_with "m_isl" => first | with_reducible assumption | exact l_isl (by with_reducible assumption) (by k_mem) | (refine l_isl (by assumption) (by k_mem)) | assumption
  k_with "m_sz" => first | omega | ((simp only [List.length_append, List.length_cons, List.length_nil, List.length_dropLast, List.length_reverse]); omega)
  k_with "truthy ref" => (k_here; (with_reducible show wpAny _ _ (truthy (Value.ref _)) _ _ _); k_dflt (refine l_truthy (by walk_at "m_isl") (by walk_at "m_sz") ?_))
  k_with "call builtin:list.append" => (k_here; (with_reducible show wpAny _ _ (call (Value.builtin _) [Value.ref _, _]) _ _ _); k_dflt (refine l_append (by assumption) (by assumption) (by k_upd) (by walk_at "m_sz") ?_); intro h' F' N'; (try k_sweep))
  k_with "call builtin:str.join" => (k_here; (with_reducible show wpAny _ _ (call (Value.builtin _) [Value.str _ _, Value.ref _]) _ _ _); k_dflt (refine l_join (by walk_at "m_isl") (by assumption) (by decide) (by omega) ?_); intro t' k')
  k_with "call ref" => (k_here; k_dflt (refine' Ctr.useT3 (c_splitrootP _ _ _ _ _ _) ?k1 ?k2 ?k3 ?k4 ?k5 ?kA ?kh ?kf ?kK ?kd ?ku ?kp ?_; walk_at "m_site"); (case kp => ((try dsimp only); omega)); intro a9 t1 t2 t3 h' k' lt9 F' l1 N'; (try simp only [AllNe, and_true] at l1); (try k_sweep); (try dsimp only); (try k_fold))
  k_with "call ref" => (k_here; k_dflt (refine' Ctr.useT5 (c_splitext1 _ _ _ _ _ _ _ _) ?k1 ?k2 ?k3 ?k4 ?k5 ?kA ?kh ?kf ?kK ?kd ?ku ?kp ?_; walk_at "m_site"); (case kp => ((try dsimp only); omega)); intro a9 b9 c9 t1 t2 h' k' F' l1 N' o4; (try simp only [AllNe, and_true] at l1); (try k_sweep); (try dsimp only); (try k_fold))
  k_with "m_size" => ((try rw [PySem.sizeLine_eq]); omega)
  k_with "call builtin:str.split" => (k_here; (with_reducible show wpAny _ _ (call (Value.builtin "str.split") [Value.str _ _, Value.str _ _]) _ _ _); k_dflt (refine KSpl.split1 (by k_asm) (by k_asm) (by decide) ?_ (by walk_at "m_size")); intro D' l9 h' k' e9 a9 F' N' l1; rw [e9] at a9; (try k_lt l1))
  k_with "m_ne" => first | assumption | exact ne_of_isE (by assumption)
  k_with "subscriptTail Name UnaryOp ref int" => (k_here; k_dflt (refine l_lastS (by walk_at "m_isl") (by walk_at "m_ne") (by assumption) ?_); intro y9 t9 hy9)
  k_with "call builtin:list.pop" => (k_here; (with_reducible show wpAny _ _ (call (Value.builtin _) [Value.ref _]) _ _ _); k_dflt (refine l_popS (by assumption) (by assumption) (by k_upd) (by walk_at "m_ne") (by walk_at "m_sz") ?_); intro v9 h' F' N'; (try k_sweep))
  k_with "call ref" => (k_here; k_dflt (refine' Ctr.useV (c_normpath _ _ _ _ _ _) ?k1 ?k2 ?k3 ?k4 ?k5 ?kA ?kh ?kf ?kK ?kd ?ku ?kp ?_; walk_at "m_site"); (case kp => ((try dsimp only); omega)); intro t9 h' k' F' N'; (try k_sweep); (try dsimp only); (try k_fold))
  k_with "call ref" => (k_here; k_dflt (refine' Ctr.useVP (c_basenameP _ _ _ _ _ _) ?k1 ?k2 ?k3 ?k4 ?k5 ?kA ?kh ?kf ?kK ?kd ?ku ?kp ?_; walk_at "m_site"); (case kp => ((try dsimp only); omega)); intro t9 h' k' lb9 F' N'; (try k_sweep); (try dsimp only); (try k_fold))
  k_with "call ref" => (k_here; k_dflt (refine' Ctr.useVP (c_dirnameP _ _ _ _ _ _) ?k1 ?k2 ?k3 ?k4 ?k5 ?kA ?kh ?kf ?kK ?kd ?ku ?kp ?_; walk_at "m_site"); (case kp => ((try dsimp only); omega)); intro t9 h' k' lb9 F' N'; (try k_sweep); (try dsimp only); (try k_fold))
  k_with "call ref" => (k_here; k_dflt (refine' Ctr.useT2 (c_splitP _ _ _ _ _ _) ?k1 ?k2 ?k3 ?k4 ?k5 ?kA ?kh ?kf ?kK ?kd ?ku ?kp ?_; walk_at "m_site"); (case kp => ((try dsimp only); omega)); intro a9 t1 t2 h' k' lb9 F' l1 N'; (try simp only [AllNe, and_true] at l1); (try k_sweep); (try dsimp only); (try k_fold))
  k_with "m_isl" => exact Fr.lst (by assumption) (by assumption)
  k_with "m_slz" => first | omega | (simp only [List.length_append, List.length_cons, List.length_nil, List.length_dropLast, List.length_reverse, List.length_take, List.length_drop]; omega)
  k_with "call builtin:len" => (k_here; (with_reducible show wpAny _ _ (call (Value.builtin "len") [Value.ref _]) _ _ _); k_dflt (refine l_lenS (by walk_at "m_isl") (by assumption) (by walk_at "m_slz") ?_); intro t9 k9)
  k_with "subscriptTail Name Name ref int" => (k_here; k_dflt (refine l_itemS (by walk_at "m_isl") (by assumption) (by walk_at "m_slz") (by walk_at "m_slz") ?_); intro y9 t9 hy9)
  k_with "subscriptTail Name Slice ref ref" => (k_here; (with_reducible show wpAny _ _ (subscriptTail _ (PySem.Expr.Slice none none (some _) _) (Value.ref _) (Value.ref _)) _ _ _); k_dflt (refine' l_rev (by assumption) (by assumption) (by walk_at "m_isl") (IsPart.int _ _) (by walk_at "m_slz") ?_ (by with_unfolding_all rfl) (by intro _; with_unfolding_all rfl)); intro D' h' F' N' l1; (try k_lt l1); (try k_sweep))
  k_with "m_lend5" => (refine LEnd.mk2 (_, _, _, _, _) (by assumption) (by assumption) (by walk_at "m_all") (by walk_at "m_ea") (by walk_at "m_own") (by walk_at "m_off") ?_; (try dsimp only))
  k_with "call ref" => (k_here; k_dflt (refine' Ctr.useV (c_abspath _ _ _ _ _ _) ?k1 ?k2 ?k3 ?k4 ?k5 ?kA ?kh ?kf ?kK ?kd ?ku ?kp ?_; walk_at "m_site"); (case kp => ((try dsimp only); exact ⟨by omega, by assumption⟩)); intro t9 h' k' F' N'; (try k_sweep); (try dsimp only); (try k_fold))
  k_with "call ref" => (k_here; k_dflt (refine' Ctr.useO (c_number _ _ _ _ _ _) ?k1 ?k2 ?k3 ?k4 ?k5 ?kA ?kh ?kf ?kK ?kd ?ku ?kp ?_ ?_; walk_at "m_site"); (case kp => ((try dsimp only); omega)); (first | intro n9 t9 h' k' o' F' N' | intro h' k' o' F' N'); (try k_sweep); (try dsimp only); (try k_fold))
  trivial
section piece_L21
theorem parts_out {h h' : Heap} {r : Value} (o : PartsAre h h' r) : ∃ a p t vs q n, r = .ref a ∧ h.get? a = none ∧ h'.get? a = some (listOf (List.toArray (Value.str p t :: vs)) n) ∧ StrsAre (Value.str p t :: vs) (p :: q) ∧ StrsAre vs q ∧ PartsOk 24 (p :: q) ∧ (p :: q).length + sumLen (p :: q) ≤ 1000 ∧ (p :: q) ≠ [] ∧ p.length + sumLen q + q.length ≤ 1000 ∧ (joinS p q).length ≤ 2000 ∧ (List.toArray (Value.str p t :: vs)).size ≤ sizeLine := by
  obtain ⟨a, vs, xs, n, h1, h2, h3, h4, h5⟩ := o
  obtain ⟨g1, g2, g3, _⟩ := id h5
  cases h4 with
  | nil => exact absurd rfl g1
  | @cons p t vs' q h4 =>
    have hj := joinS_len q p
    have hl := h4.length
    rw [sumLen_cons] at g3
    rw [List.length_cons] at g2
    exact ⟨a, p, t, vs', q, n, h1, h2, h3, .cons _ _ h4, h4, h5, by rw [sumLen_cons, List.length_cons]; omega, by simp, by omega, by omega, by rw [sizeLine_eq, List.size_toArray, List.length_cons]; omega⟩
theorem ne_txt {prog : Program} {w : World} {A : Around} {E : Value → Shared → Prop} {s : Shared} {x y : Str} {t u : Tok} {Q : Value → Shared → Prop} (h : x = y) (hq : Q (.bool false) s) : wpAny (model prog w) A (compareOp .NotEq (.str x t) (.str y u)) Q E s := by
  subst h
  refine ne_str ?_
  rw [bne_self_eq_false]
  exact hq
theorem climb_out {h h' : Heap} {r : Value} {x R : Str} {ns : List Str} (e : climbS x = (R, ns)) (o : ∃ a b vs t1, r = .ref a ∧ h.get? a = none ∧ h'.get? a = some (tupOf [.str (climbS x).1 t1, .ref b]) ∧ h.get? b = none ∧ h'.get? b = some (listOf (List.toArray vs) 0) ∧ StrsAre vs (climbS x).2) :
    ∃ a b vs t1, r = .ref a ∧ h.get? a = none ∧ h'.get? a = some (tupOf [.str R t1, .ref b]) ∧ h.get? b = none ∧ h'.get? b = some (listOf (List.toArray vs) 0) ∧ StrsAre vs ns := by
  rw [e] at o; exact o
theorem below_of {h₀ h : Heap} {L : Addr} {m : Str → Option Value} (_F : Fr h₀ L h m) : Below callerA h₀ [] h₀ := below_caller h₀
noncomputable def LawTrue (h₀ : Heap) (L : Addr) (s : Shared) (fl : Flow) (s' : Shared) : Prop := ∃ h' tk' t m', fl = .ret t ∧ t = .bool true ∧ s' = { s with heap := h', toks := tk' } ∧ Fr h₀ L h' m'
theorem law_cut {M : Model} {A : Around} {a : Sem Flow} {s : Shared} {Q : Flow → Shared → Prop} {E : Value → Shared → Prop} {h₀ : Heap} {L : Addr} {m : Str → Option Value} (_F : Fr h₀ L s.heap m) (h1 : wpAny M A a (LawTrue h₀ L s) (fun _ _ => False) s) (h2 : ∀ h' tk' m', Fr h₀ L h' m' → Q (.ret (.bool true)) { s with heap := h', toks := tk' }) : wpAny M A a Q E s :=
  wpAny_mono h1 (fun fl s' h => by obtain ⟨h', tk', t, m', rfl, rfl, rfl, F⟩ := h; exact h2 h' tk' m' F) (fun _ _ h => h.elim)
end piece_L21
section piece_L22
theorem pth_parts (R : Str) (ns : List Str) : (pth R ns).length = R.length + (Txt.join (Str.ofString "/") ns).length := Str.length_append _ _
theorem splitroot_out {h h' : Heap} {r : Value} {x R T : Str} (o : ∃ a t1 t2 t3, r = .ref a ∧ h.get? a = none ∧ h'.get? a = some (tupOf [.str (Str.ofString "") t1, .str (rootS x) t2, .str (tailS x) t3])) (e1 : rootS x = R) (e2 : tailS x = T) :
    ∃ a t1 t2 t3, r = .ref a ∧ h.get? a = none ∧ h'.get? a = some (tupOf [.str (Str.ofString "") t1, .str R t2, .str T t3]) := by
  rw [e1, e2] at o; exact o
theorem splitext_out {h h' : Heap} {r : Value} {root : Str} {ns : List Str} (o : ∃ a b e t1 t2, r = .ref a ∧ h.get? a = none ∧ h'.get? a = some (tupOf [.str b t1, .str e t2]) ∧ sxR (pth root ns) b e) (hk : NamesOk root ns) :
    ∃ a t1 t2, r = .ref a ∧ h.get? a = none ∧ h'.get? a = some (tupOf [.str (Txt.slice (pth root ns) none (some (cutS (pth root ns) (lastS ns)))) t1, .str (Txt.slice (pth root ns) (some (cutS (pth root ns) (lastS ns))) none) t2]) := by
  obtain ⟨a, b, e, t1, t2, h1, h2, h3, h4⟩ := o
  obtain ⟨rfl, rfl⟩ := sx_law hk h4
  exact ⟨a, t1, t2, h1, h2, h3⟩
theorem here_txt {h₀ h' : Heap} {L : Addr} {m : Str → Option Value} {news : List (Addr × Obj)} {s : Shared} {tk : Nat} {x y : Str} {t : Tok} (F : Fr h₀ L h' m) (N : News h₀ L h' news) (e : x = y) : TxtIn h₀ L m news y s (.str x t) { s with heap := h', toks := tk } :=
  ⟨t, by rw [e], h', tk, rfl, F, N⟩
theorem here_int {h₀ h' : Heap} {L : Addr} {m : Str → Option Value} {news : List (Addr × Obj)} {s : Shared} {tk : Nat} {x y : Int} {t : Tok} (F : Fr h₀ L h' m) (N : News h₀ L h' news) (e : x = y) : IntIn h₀ L m news y s (.int x t) { s with heap := h', toks := tk } :=
  ⟨t, by rw [e], h', tk, rfl, F, N⟩
theorem last_of {ns : List Str} {y : Str} (h : ns.getLast? = some y) : y = lastS ns := by unfold lastS; rw [h]; rfl
theorem last_no {ns : List Str} (h : ns = []) : Str.ofString "" = lastS ns := by rw [h]; rfl
theorem last_lenS (ns : List Str) : (lastS ns).length ≤ sumLen ns := by
  unfold lastS
  cases h : ns.getLast? with
  | none => exact Nat.zero_le _
  | some y => exact mem_len (List.mem_of_getLast? h)
theorem here_place {h₀ h' : Heap} {L : Addr} {m : Str → Option Value} {news : List (Addr × Obj)} {s : Shared} {tk : Nat} {v : Value} {p : Option (Int × Int)} (F : Fr h₀ L h' m) (N : News h₀ L h' news) (e : PlIn v p news) : PlaceIn h₀ L m news p s v { s with heap := h', toks := tk } :=
  ⟨e, h', tk, rfl, F, N⟩
theorem cut_yes {way last : Str} {x : Int} (h1 : 0 < Txt.rfind last (Str.ofString ".")) (h2 : (Txt.stripChars (Txt.slice last none (some (Txt.rfind last (Str.ofString ".")))) (Str.ofString ".")).length ≠ 0) (hx : x = (way.length : Int) - last.length + Txt.rfind last (Str.ofString ".")) : x = cutS way last := by
  unfold cutS; rw [if_pos ⟨h1, h2⟩, hx]
theorem cut_no1 {way last : Str} {x : Int} (h1 : ¬ 0 < Txt.rfind last (Str.ofString ".")) (hx : x = (way.length : Int)) : x = cutS way last := by
  unfold cutS; rw [if_neg (fun h => h1 h.1), hx]
theorem cut_no2 {way last : Str} {x : Int} (h2 : (Txt.stripChars (Txt.slice last none (some (Txt.rfind last (Str.ofString ".")))) (Str.ofString ".")).length = 0) (hx : x = (way.length : Int)) : x = cutS way last := by
  unfold cutS; rw [if_neg (fun h => h.2 h2), hx]
theorem PlsIn.len {ys : List Value} {ps : List (Option (Int × Int))} {news : List (Addr × Obj)} (h : PlsIn ys ps news) : ys.length = ps.length := h.1
theorem news_tl {h₀ h : Heap} {L : Addr} {l t : List (Addr × Obj)} (N : News h₀ L h l) (e : ∀ p ∈ t, p ∈ l) : News h₀ L h t := fun p hp => N p (e p hp)
theorem news_rot {h₀ h : Heap} {L : Addr} {l t : List (Addr × Obj)} (N : News h₀ L h (t ++ l)) : News h₀ L h (l ++ t) := fun p hp => N p (by
  rcases List.mem_append.mp hp with h | h
  · exact List.mem_append_right _ h
  · exact List.mem_append_left _ h)
theorem ne_place {prog : Program} {w : World} {A : Around} {E : Value → Shared → Prop} {s : Shared} {Q : Value → Shared → Prop} {h₀ : Heap} {L : Addr} {v u : Value} {p : Option (Int × Int)} {news : List (Addr × Obj)} (N : News h₀ L s.heap news) (hv : PlIn v p news) (hw : PlIn u p news) (hu : A.units < cLine) (h : Q (.bool false) s) :
    wpAny (model prog w) A (compareOp .NotEq v u) Q E s := by
  cases p with
  | none => obtain ⟨t, rfl⟩ := hv; obtain ⟨t', rfl⟩ := hw; exact ne_txt rfl h
  | some q =>
    obtain ⟨a, t1, t2, rfl, h1⟩ := hv
    obtain ⟨b, u1, u2, rfl, h2⟩ := hw
    exact ne_tuples (N _ h1).1 (N _ h2).1 rfl hu (eq_two (eq_num _ _ _) (eq_num _ _ _)) h
theorem place_first {ns : List Str} {ys : List Value} {nw : List (Addr × Obj)} (h : PlsIn ys (ns.map placeS) nw) (hl : ns.length = 1) : ∃ v, ys[0]? = some v ∧ PlIn v (placeS (ns.headD Str.empty)) nw := by
  obtain ⟨a, rfl⟩ := List.length_eq_one_iff.mp hl
  exact h.2 0 _ rfl
theorem names_ne (R : Str) (ps : List Str) : namesOf R ps ≠ [] ∨ R ≠ Str.ofString "" := by
  unfold namesOf
  split
  · assumption
  · exact .inl (by simp)
theorem way_one {R : Str} {ns : List Str} {v : Value} {nw : List (Addr × Obj)} (h : NamesOk R ns) (hne : ns ≠ [] ∨ R ≠ Str.ofString "") (h1 : ns.length = 1) (h2 : R = Str.ofString "") (hv : PlIn v (placeS (ns.headD Str.empty)) nw) : PlIn v (placeS (pth R ns)) nw := by
  rw [place_way h hne, if_pos ⟨h1, h2⟩]; exact hv
theorem way_many {R : Str} {ns : List Str} {t : Tok} {nw : List (Addr × Obj)} (h : NamesOk R ns) (hne : ns ≠ [] ∨ R ≠ Str.ofString "") (h1 : ¬ (ns.length = 1 ∧ R = Str.ofString "")) : PlIn (.str (Str.ofString "refused") t) (placeS (pth R ns)) nw := by
  rw [place_way h hne, if_neg h1]; exact ⟨t, rfl⟩
open PySem.NumText in
theorem val_lt : ∀ (n : Nat) (cs : List Nat), cs.length = n → AllDigits cs → digitsVal cs < 10 ^ n
  | 0, cs, h, _ => by rw [List.length_eq_zero_iff.mp h]; decide
  | n + 1, cs, h, hd => by
    have hne : cs ≠ [] := by rintro rfl; cases h
    have ih := val_lt n cs.dropLast (by simp [h]) (fun c hc => hd c (List.dropLast_subset cs hc))
    have hl := hd _ (List.getLast_mem hne)
    rw [← List.dropLast_concat_getLast hne, digitsVal_snoc, Nat.pow_succ]
    omega
open PySem.NumText in
theorem num_log {n : Int} (h : (Str.ofString (toString n)).length ≤ 241) : n.natAbs.log2 < 1920 := by
  have h1 : (dg n.natAbs).length ≤ 241 := by
    rw [← cl_len, num_signs] at h
    split at h
    · rw [List.length_cons] at h; omega
    · exact h
  have h2 : n.natAbs < 10 ^ 241 := by
    have := val_lt _ _ rfl (dg_digits n.natAbs)
    rw [show digitsVal (dg n.natAbs) = n.natAbs from PySem.W.KIN.val_back _] at this
    exact Nat.lt_of_lt_of_le this (Nat.pow_le_pow_right (by decide) h1)
  by_cases h0 : n.natAbs = 0
  · rw [h0]; decide
  · exact (Nat.log2_lt h0).mpr (Nat.lt_of_lt_of_le h2 (by decide +kernel))
theorem num_facts {x : Str} {p : Int × Int} (ha : Al x) (hl : x.length ≤ 241) (h : placeS x = some p) :
    ((Str.ofString (toString p.1)).length ≤ 241 ∧ (Str.ofString (toString p.2)).length ≤ 241) ∧ p.1.natAbs.log2 < 1920 ∧ p.2.natAbs.log2 < 1920 := by
  obtain ⟨a, b, hs, h1, h2⟩ := place_split h
  obtain ⟨k1, _, _⟩ := two_parts hs
  have l1 := num_len (fun c hc => ha c (show c ∈ cl x by rw [k1]; exact List.mem_append_left _ hc)) h1
  have l2 := num_len (fun c hc => ha c (show c ∈ cl x by rw [k1]; exact List.mem_append_right _ (List.Mem.tail _ hc))) h2
  have e := congrArg List.length k1
  rw [List.length_append, List.length_cons, cl_len, cl_len, cl_len] at e
  have g1 : (Str.ofString (toString p.1)).length ≤ 241 := by omega
  have g2 : (Str.ofString (toString p.2)).length ≤ 241 := by omega
  exact ⟨⟨g1, g2⟩, num_log g1, num_log g2⟩
theorem wr_some {x : Str} {p : Int × Int} (h : placeS x = some p) : Str.ofString (toString p.1) ++ Str.ofString "." ++ Str.ofString (toString p.2) = wr x := by unfold wr; rw [h]
theorem Path.len1 {root : Str} {ps : List Str} (h : Path root ps) : ∀ n ∈ namesOf root ps, Al n ∧ n.length ≤ 241 := fun n hn => ⟨h.al n hn, by
  have := mem_len hn
  have := h.sum
  omega⟩
/-- the written names, once each is known -/
theorem strs_of {ys : List Value} {f : Str → Str} {ns : List Str} (hl : ys.length = ns.length) (h : ∀ (i : Nat) v, ys[i]? = some v → ∃ n t, ns[i]? = some n ∧ v = .str (f n) t) : StrsAre ys (ns.map f) := by
  induction ns generalizing ys with
  | nil => rw [List.length_eq_zero_iff.mp hl]; exact .nil
  | cons n r ih =>
    cases ys with
    | nil => cases hl
    | cons y ys =>
      obtain ⟨n', t, e, rfl⟩ := h 0 y rfl
      cases e
      exact .cons _ _ (ih (by simpa using hl) fun i v hv => h (i + 1) v hv)
theorem news_in {h₀ h : Heap} {L : Addr} {l : List (Addr × Obj)} {p : Addr × Obj} (N : News h₀ L h l) (hm : p ∈ l) : News h₀ L h (p :: l) := fun q hq => (List.mem_cons.mp hq).elim (fun e => e ▸ N _ hm) (N q)
theorem eq_tup_str {prog : Program} {w : World} {A : Around} {E : Value → Shared → Prop} {s : Shared} {Q : Value → Shared → Prop} {a : Addr} {vs : List Value} {y : Str} {u : Tok} (ha : s.heap.get? a = some (tupOf vs)) (hu : A.units < cLine) (h : Q (.bool false) s) :
    wpAny (model prog w) A (compareOp .Eq (.ref a) (.str y u)) Q E s := PySem.SeqAt.RcAt.tuple_str (items := vs.toArray) y u ⟨_, ha, rfl, 0, rfl⟩ hu prog w E Q h
theorem LawTrue.mk {h₀ h' : Heap} {L : Addr} {m' : Str → Option Value} {s : Shared} {tk' : Nat} (F : Fr h₀ L h' m') : LawTrue h₀ L s (.ret (.bool true)) { s with heap := h', toks := tk' } := ⟨h', tk', _, m', rfl, rfl, rfl, F⟩
theorem LawTrue.mk2 {h₀ h' : Heap} {L : Addr} {m' : Str → Option Value} {s : Shared} {tk' : Nat} {b : Bool} (F : Fr h₀ L h' m') (hb : b = true) : LawTrue h₀ L s (.ret (.bool b)) { s with heap := h', toks := tk' } := ⟨h', tk', _, m', rfl, by rw [hb], rfl, F⟩
end piece_L22
section piece_L23
/-- all that the walk's second half asks of the written path -/
structure Anew (R : Str) (ps : List Str) : Prop where
  names : (namesOf R ps).map wr = namesOf R (ps.map wr)
  places : (namesOf R (ps.map wr)).map placeS = (namesOf R ps).map placeS
  join : joinS R (namesOf R (ps.map wr)) = pth R (namesOf R (ps.map wr))
  norm : normS (pth R (namesOf R (ps.map wr))) = pth R (namesOf R (ps.map wr))
  climb : climbS (pth R (namesOf R (ps.map wr))) = (R, namesOf R (ps.map wr))
  alike : alikeS ps (namesOf R (ps.map wr)) = alikeS ps (ps.map wr)
  starts1 : Txt.startswith (pth R (namesOf R ps)) (Str.ofString "/") = decide (R ≠ Str.ofString "")
  starts2 : Txt.startswith (pth R (namesOf R (ps.map wr))) (Str.ofString "/") = decide (R ≠ Str.ofString "")
  parts1 : nzS (Txt.split (pth R (namesOf R ps)) (Str.ofString "/")) = ps
  parts2 : nzS (Txt.split (pth R (namesOf R (ps.map wr))) (Str.ofString "/")) = ps.map wr
  wl : (pth R (namesOf R (ps.map wr))).length ≤ 240
  sum : sumLen (namesOf R (ps.map wr)) + (namesOf R (ps.map wr)).length ≤ 241
  one : ∀ n ∈ namesOf R (ps.map wr), Al n ∧ n.length ≤ 640
  psum : sumLen ps + ps.length ≤ 241
theorem Path.anew {R : Str} {ps : List Str} (h : Path R ps) : Anew R ps where
  names := names_wr R ps
  places := by
    rw [← names_wr, List.map_map]
    exact List.map_congr_left fun n _ => place_wr n
  join := join_pth h.wr.st.names
  norm := norm_pth h.wr.st
  climb := climb_pth h.wr.st.names
  alike := alike_wr R ps
  starts1 := starts_pth h.st.names
  starts2 := starts_pth h.wr.st.names
  parts1 := rl_pth h.st
  parts2 := rl_pth h.wr.st
  wl := h.wr.wl
  sum := h.wr.sum
  one := h.wr.one
  psum := h.pieces
theorem Anew.parts_len {R : Str} {ps : List Str} (h : Anew R ps) : (nzS (Txt.split (pth R (namesOf R ps)) (Str.ofString "/"))).length = (nzS (Txt.split (pth R (namesOf R (ps.map wr))) (Str.ofString "/"))).length := by
  rw [h.parts1, h.parts2, List.length_map]
/-- the slash ahead of the common part -/
noncomputable def leadS (R : Str) : Str := if decide (R ≠ Str.ofString "") = true then Str.ofString "/" else Str.ofString ""
theorem lead_yes {R : Str} (h : (R.length : Int) ≠ 0) : Str.ofString "/" = leadS R := by
  have hr : R ≠ Str.ofString "" := fun e => h (by rw [e]; decide)
  unfold leadS
  simp [hr]
theorem lead_no {R : Str} (h : (R.length : Int) = 0) : Str.ofString "" = leadS R := by
  have hr : R = Str.ofString "" := len_zero.mp (by omega)
  unfold leadS
  simp [hr]
theorem lead_len (R : Str) : (leadS R).length ≤ 1 := by
  unfold leadS
  split <;> decide
theorem commonpath_out {R : Str} {ps : List Str} {r : Value} (h : Anew R ps) (o : ∃ t, r = .str ((if decide (R ≠ Str.ofString "") = true then Str.ofString "/" else Str.ofString "") ++ Txt.join (Str.ofString "/") ((nzS (Txt.split (pth R (namesOf R ps)) (Str.ofString "/"))).take (alikeS (nzS (Txt.split (pth R (namesOf R ps)) (Str.ofString "/"))) (nzS (Txt.split (pth R (namesOf R (ps.map wr))) (Str.ofString "/")))))) t) :
    ∃ t, r = .str (leadS R ++ Txt.join (Str.ofString "/") (ps.take (alikeS ps (ps.map wr)))) t := by
  rw [h.parts1, h.parts2] at o; exact o
/-- what holds of a path with a root -/
structure Away (R : Str) (ps : List Str) : Prop where
  pos1 : 0 < (pth R (namesOf R ps)).length
  pos2 : 0 < (pth R (namesOf R (ps.map wr))).length
  starts1 : Txt.startswith (pth R (namesOf R ps)) (Str.ofString "/") = true
  starts2 : Txt.startswith (pth R (namesOf R (ps.map wr))) (Str.ofString "/") = true
  len : (tailL (normS (pth R (namesOf R (ps.map wr))))).length = (tailL (normS (pth R (namesOf R ps)))).length
  few : (tailL (normS (pth R (namesOf R (ps.map wr))))).length ≤ 250
  rel : relS (pth R (namesOf R ps)) (pth R (namesOf R (ps.map wr))) = thereS (ps.map wr) ps
  back : normS (joinS (pth R (namesOf R (ps.map wr))) [thereS (ps.map wr) ps]) = pth R (namesOf R ps)
  short : (thereS (ps.map wr) ps).length ≤ 2000
theorem Path.away {R : Str} {ps : List Str} (h : Path R ps) (hr : R ≠ Str.ofString "") : Away R ps := by
  have e1 : namesOf R ps = ps := names_abs hr
  have e2 : namesOf R (ps.map Mine.wr) = ps.map Mine.wr := names_abs hr
  have hn1 := norm_pth h.st
  have hn2 := norm_pth h.wr.st
  have hz := h.pieces
  have hR : 0 < R.length := Nat.pos_of_ne_zero fun e => hr (len_zero.mp e)
  have p1 := pth_parts R (namesOf R ps)
  have p2 := pth_parts R (namesOf R (ps.map Mine.wr))
  refine ⟨by omega, by omega, ?_, ?_, ?_, ?_, ?_, ?_, ?_⟩
  · rw [starts_pth h.st.names]; exact decide_eq_true hr
  · rw [starts_pth h.wr.st.names]; exact decide_eq_true hr
  · rw [hn1, hn2, e1, e2, tailL_pth h.st, tailL_pth h.wr.st, List.length_map]
  · rw [hn2, e2, tailL_pth h.wr.st, List.length_map]; omega
  · rw [e1, e2]; exact rel_law h.st h.wr.st hr
  · rw [e1, e2]; exact back_law h.st h.wr.st hr (List.length_map _)
  · unfold thereS
    split
    · decide
    · have h1 := relL_len (ps.map Mine.wr) ps
      have h2 := tjoin_len1 (relL (ps.map Mine.wr) ps)
      rw [List.length_map] at h1
      omega
theorem relpath_out {R : Str} {ps : List Str} {r : Value} (h : Away R ps) (o : ∃ t, r = .str (relS (pth R (namesOf R ps)) (pth R (namesOf R (ps.map wr)))) t) : ∃ t, r = .str (thereS (ps.map wr) ps) t := by
  rw [h.rel] at o; exact o
theorem rel_list (ps : List Str) : List.replicate ((ps.length : Int) - (alikeS ps (ps.map wr) : Nat)).toNat (Str.ofString "..") ++ ps.drop (alikeS ps (ps.map wr)) = relL (ps.map wr) ps := by
  rw [alike_comm, ← relL_eq, List.length_map]
theorem there_some {ps : List Str} (h : relL (ps.map wr) ps ≠ []) : Txt.join (Str.ofString "/") (relL (ps.map wr) ps) = thereS (ps.map wr) ps := (if_neg h).symm
theorem there_none {ps : List Str} (h : relL (ps.map wr) ps = []) : Str.ofString "." = thereS (ps.map wr) ps := (if_pos h).symm
theorem rel_zero {R : Str} {ps : List Str} (h : Path R ps) : (Txt.join (Str.ofString "/") (relL (ps.map wr) ps)).length = 0 ↔ relL (ps.map wr) ps = [] := join_zero (relL_ok h.st.ok)
end piece_L23
section piece_W5
section
theorem lay_own_W5_1 : True := by
  k_with "exec For Name Name cons nil" => (k_here; refine stop_here ?_)
  k_with "pyIter ref" => (k_here; refine stop_here ?_)
  trivial
set_option maxHeartbeats 4000000 in
theorem c_normpath (w mean mg mb) (x : Str) (t : Tok) : Ctr w mean mg mb 3 40 188 [.str x t] (fun _ => x.length ≤ 50000) (fun _ _ r => ∃ t', r = .str (normS x) t') := by
  walk_at "m_open"
  replace F' : Fr s.heap L' h' (fun y => List.lookup y [(Str.ofString "path", Value.str x t)]) := F'
  walk_at "m_steps"
  · walk_at "m_for"
    walk_at "m_steps"
    refine Stop.go ?_
    rename Fr _ _ _ _ => Fw
    rename News _ _ _ _ => Nw
    rename StrsAre _ _ => hS
    rename (_ ∧ _ : Prop) => lt9
    refine' for_list1 (σ := List Value × Nat) (fun _ => []) (fun c => listOf c.1.toArray c.2) [] (fun i c => StrsAre c.1 (((Txt.split (tailS x) (Str.ofString "/")).take i).foldl (normStep (rootS x)) [])) ([], 0) ?hh (l_isl Nw (by k_mem)) ?hL Fw Nw ?ha ?hp ?hi ?turn ?done
    case hh => exact rfl
    case hL => exact (Nw _ (by k_mem : (_, listOf (strValues _).toArray 0) ∈ _)).2.1
    case ha => k_ne
    case hp => exact List.forall_mem_nil _
    case hi => exact .nil
    case turn =>
      have hSl := split_len (tailS x)
      clear Fw Nw
      rintro i v ⟨acc, n⟩ u h' tk' own hv hI ho F' N'
      obtain ⟨c, tc, rfl, hc⟩ := hS.item i v hv
      dsimp only at hI F' N' ⊢
      simp only [List.cons_append, List.nil_append] at N'
      have hft := fold_take (normStep (rootS x)) [] _ i c hc
      have hz1 := normFold_len (rootS x) ((Txt.split (tailS x) (Str.ofString "/")).take i) []
      have hz2 := hI.length
      have hz3 : ((Txt.split (tailS x) (Str.ofString "/")).take i).length ≤ (Txt.split (tailS x) (Str.ofString "/")).length := by rw [List.length_take]; omega
      have hz4 : acc.length ≤ 60000 := by simp only [List.length_nil] at hz1; omega
      have hz5 : c.length ≤ 60000 := by have := len_mem hc; omega
      clear hz1 hz2 hz3
      walk_at "m_steps"
      all_goals walk_at "m_lend2"
      all_goals rw [hft]
      all_goals first
        | with_reducible exact ne_skip1 hI (by assumption)
        | with_reducible exact ne_skip2 hI (by assumption)
        | with_reducible exact ne_app1 hI (by assumption) (by assumption) (by assumption)
        | with_reducible exact ne_app2 hI (by assumption) (by assumption) (by assumption) (by assumption)
        | with_reducible exact ne_app3 hI (by assumption) (by assumption) (by assumption) (by assumption) (by assumption)
        | with_reducible exact ne_pop hI (by assumption) (by assumption) (by assumption) (by assumption) (by assumption) (by assumption)
        | with_reducible exact ne_stay hI (by assumption) (by assumption) (by assumption) (by assumption) (by assumption)
    case done =>
      clear Fw Nw
      rintro ⟨acc, n⟩ u h' tk' hI F' N'
      dsimp only at hI F' N' ⊢
      rw [hS.length, List.take_length] at hI
      have hz1 := normFold_len (rootS x) (Txt.split (tailS x) (Str.ofString "/")) []
      have hz2 := split_len (tailS x)
      rw [← normL] at hI hz1
      simp only [sumLen_nil, List.length_nil] at hz1
      have hz3 := tjoin_len1 (normL x)
      have hz4 : (Txt.join (Str.ofString "/") (normL x)).length ≤ 200000 := by omega
      walk_at "m_steps"
      all_goals walk_at "m_end"
      all_goals (refine ⟨_, congrArg (fun z => Value.str z _) ?_⟩; unfold normS; rw [if_neg (by omega)])
      · rw [if_neg (by omega)]
      · rw [if_pos (by omega)]
  · walk_at "m_end"
    rename ((x.length : Int) = 0) => h0
    refine ⟨_, congrArg (fun z => Value.str z _) ?_⟩
    unfold normS
    rw [if_pos (by omega)]
end
end piece_W5
theorem lay_base_5 : True := by
  k_with_none
  k_with "m_open" => (
    refine Ctr.opened ?_
    intro dp un gd s Q E A₀ base h₀ outer env L m B F X T hf hk hd hu hp ret
    (refine' enter ?k1 ?k2 ?k3 ?k5 ?kA ?kF ?kK ?k6 ?k7 ?k8 ?k9 ?kB ?_ ?c2 ?c3 ?c4 ?c5; (case kA => exact rfl); (case kF => exact hf); (case kK => exact hk); (case k1 => exact B); (case k2 => exact F); (case k3 => exact X); (case k5 => exact T); (case k6 => k_is); (case k7 => k_is); (case k8 => (simp only; omega)); (case k9 => exact BindsTo.of_eq rfl); (case kB => exact locs rfl); (case c2 => exact rfl); (case c3 => exact rfl); (case c4 => exact rfl); (case c5 => decide))
    clear B F X T hf hk
    intro L' h' F' N' B' X' T'
    (try dsimp only)
    (try k_lift B')
    k_fold)
  k_with "m_end" => ((repeat (first | k_unfold | dsimp only)); refine ret _ _ _ (Fr.keep (by assumption)) ?_; (try dsimp only))
  k_with "m_site" => (
    (case k1 => k_asm); (case k2 => k_asm); (case k3 => k_asm); (case k4 => k_asm); (case k5 => k_asm); (case kA => exact rfl); (case kh => exact rfl); (case kf => exact rfl); (case kK => exact rfl)
    (case kd => (first | exact room1 hd rfl | exact room0 hd rfl | exact room1 hdep rfl | exact room0 hdep rfl | ((try simp only [depth_deeper, Around.in1_depth]); omega))); (case ku => (first | exact room1 hu rfl | exact room0 hu rfl | exact room2 hu rfl | exact room1 hun rfl | exact room0 hun rfl | exact room2 hun rfl | ((try simp only [Around.deeper_units, Around.in1_units, Around.mark_units]); omega))))
  k_with "call builtin:issubclass" => (k_here; (with_reducible show wpAny _ _ (call (Value.builtin "issubclass") [Value.type _, Value.ref _]) _ _ _); k_dflt (refine isub_str ?k1 ?_; (case k1 => exact News.get (by assumption) (by news_mem))); intro _)
  k_with "call ref" => (k_here; k_dflt (refine' Ctr.useE (c_fspath _ _ _ _ _ _) ?k1 ?k2 ?k3 ?k4 ?k5 ?kA ?kh ?kf ?kK ?kd ?ku ?kp ?_; walk_at "m_site"); (case kp => trivial); intro h' k' F' N'; (try k_sweep); (try dsimp only); (try k_fold))
  k_with "call ref" => (k_here; k_dflt (refine' Ctr.useV (c_get_sep _ _ _ _ _ _) ?k1 ?k2 ?k3 ?k4 ?k5 ?kA ?kh ?kf ?kK ?kd ?ku ?kp ?_; walk_at "m_site"); (case kp => trivial); intro t9 h' k' F' N'; (try k_sweep); (try dsimp only); (try k_fold))
  k_with "m_steps" => (repeat' (first | (k_unfold; (try dsimp only)) | walk1 | (dsimp only; walk1) | fail "no step"))
  k_with "m_all" => first | exact List.forall_mem_nil _ | (refine List.forall_mem_cons.mpr ⟨by with_unfolding_all rfl, ?_⟩; walk_at "m_all")
  k_with "m_off" => (intro z hz1 hz2; first | with_reducible rfl | ((have hz3 := hz1); (try simp only [List.contains_cons, List.contains_nil, Bool.or_false, Bool.or_eq_false_iff, beq_eq_false_iff_ne, ne_eq] at hz3); (try simp only [List.forall_mem_cons, List.not_mem_nil, false_imp_iff, implies_true, and_true, ne_eq] at hz2); first | (simp only [frM, kstB, hz1, hz2, hz3, if_false, Bool.false_eq_true]; done) | (simp only [frM, kstB, hz1, hz2, if_false, Bool.false_eq_true]; done) | (simp only [frM, kstB, hz1, hz3, if_false, Bool.false_eq_true]; done) | (simp_all [frM, kstB]; done)))
  k_with "LPost" => (dsimp only [LPost])
  k_with "m_for" => (refine Stop.go ?_; (with_unfolding_all refine' For_invVF (by assumption) ?f1 ?f2 ?_); (case f1 => exact rfl); (case f2 => exact rfl))
  k_with "m_own" => (intro p9 hp9; first | exact absurd hp9 List.not_mem_nil | exact hp9 | exact List.Mem.tail _ hp9 | exact List.Mem.tail _ (List.Mem.tail _ hp9) | exact List.Mem.tail _ (List.Mem.tail _ (List.Mem.tail _ hp9)) | ((simp only [List.nil_append, List.append_nil, List.cons_append, List.mem_cons, List.mem_append, List.not_mem_nil, or_false, false_or] at hp9 ⊢); first | exact hp9 | exact Or.inr hp9 | (rcases hp9 with hp9 | hp9 <;> simp [hp9])))
  k_with "m_lend1" => (refine LEnd.mk2 _ (by assumption) (by assumption) (by walk_at "m_all") (by walk_at "m_ea") (by walk_at "m_own") (by walk_at "m_off") ?_; (try dsimp only))
  k_with "m_lend2" => (refine LEnd.mk2 (_, _) (by assumption) (by assumption) (by walk_at "m_all") (by walk_at "m_ea") (by walk_at "m_own") (by walk_at "m_off") ?_; (try dsimp only))
  k_with "m_lend3" => (refine LEnd.mk2 (_, _, _) (by assumption) (by assumption) (by walk_at "m_all") (by walk_at "m_ea") (by walk_at "m_own") (by walk_at "m_off") ?_; (try dsimp only))
  k_with "m_lend4" => (refine LEnd.mk2 (_, _, _, _) (by assumption) (by assumption) (by walk_at "m_all") (by walk_at "m_ea") (by walk_at "m_own") (by walk_at "m_off") ?_; (try dsimp only))
  k_with "m_ea" => first | exact (fun _ h9 => absurd h9 List.not_mem_nil) | (refine List.forall_mem_cons.mpr ⟨by k_mem, ?_⟩; walk_at "m_ea")
  k_with "m_isl" => first | with_reducible assumption | exact l_isl (by with_reducible assumption) (by k_mem) | (refine l_isl (by assumption) (by k_mem)) | assumption
  k_with "m_sz" => first | omega | ((simp only [List.length_append, List.length_cons, List.length_nil, List.length_dropLast, List.length_reverse]); omega)
  k_with "truthy ref" => (k_here; (with_reducible show wpAny _ _ (truthy (Value.ref _)) _ _ _); k_dflt (refine l_truthy (by walk_at "m_isl") (by walk_at "m_sz") ?_))
  k_with "call builtin:list.append" => (k_here; (with_reducible show wpAny _ _ (call (Value.builtin _) [Value.ref _, _]) _ _ _); k_dflt (refine l_append (by assumption) (by assumption) (by k_upd) (by walk_at "m_sz") ?_); intro h' F' N'; (try k_sweep))
  k_with "call builtin:str.join" => (k_here; (with_reducible show wpAny _ _ (call (Value.builtin _) [Value.str _ _, Value.ref _]) _ _ _); k_dflt (refine l_join (by walk_at "m_isl") (by assumption) (by decide) (by omega) ?_); intro t' k')
  k_with "call ref" => (k_here; k_dflt (refine' Ctr.useT3 (c_splitrootP _ _ _ _ _ _) ?k1 ?k2 ?k3 ?k4 ?k5 ?kA ?kh ?kf ?kK ?kd ?ku ?kp ?_; walk_at "m_site"); (case kp => ((try dsimp only); omega)); intro a9 t1 t2 t3 h' k' lt9 F' l1 N'; (try simp only [AllNe, and_true] at l1); (try k_sweep); (try dsimp only); (try k_fold))
  k_with "call ref" => (k_here; k_dflt (refine' Ctr.useT5 (c_splitext1 _ _ _ _ _ _ _ _) ?k1 ?k2 ?k3 ?k4 ?k5 ?kA ?kh ?kf ?kK ?kd ?ku ?kp ?_; walk_at "m_site"); (case kp => ((try dsimp only); omega)); intro a9 b9 c9 t1 t2 h' k' F' l1 N' o4; (try simp only [AllNe, and_true] at l1); (try k_sweep); (try dsimp only); (try k_fold))
  k_with "m_size" => ((try rw [PySem.sizeLine_eq]); omega)
  k_with "call builtin:str.split" => (k_here; (with_reducible show wpAny _ _ (call (Value.builtin "str.split") [Value.str _ _, Value.str _ _]) _ _ _); k_dflt (refine KSpl.split1 (by k_asm) (by k_asm) (by decide) ?_ (by walk_at "m_size")); intro D' l9 h' k' e9 a9 F' N' l1; rw [e9] at a9; (try k_lt l1))
  k_with "m_ne" => first | assumption | exact ne_of_isE (by assumption)
  k_with "subscriptTail Name UnaryOp ref int" => (k_here; k_dflt (refine l_lastS (by walk_at "m_isl") (by walk_at "m_ne") (by assumption) ?_); intro y9 t9 hy9)
  k_with "call builtin:list.pop" => (k_here; (with_reducible show wpAny _ _ (call (Value.builtin _) [Value.ref _]) _ _ _); k_dflt (refine l_popS (by assumption) (by assumption) (by k_upd) (by walk_at "m_ne") (by walk_at "m_sz") ?_); intro v9 h' F' N'; (try k_sweep))
  k_with "call ref" => (k_here; k_dflt (refine' Ctr.useV (c_normpath _ _ _ _ _ _) ?k1 ?k2 ?k3 ?k4 ?k5 ?kA ?kh ?kf ?kK ?kd ?ku ?kp ?_; walk_at "m_site"); (case kp => ((try dsimp only); omega)); intro t9 h' k' F' N'; (try k_sweep); (try dsimp only); (try k_fold))
  k_with "call ref" => (k_here; k_dflt (refine' Ctr.useVP (c_basenameP _ _ _ _ _ _) ?k1 ?k2 ?k3 ?k4 ?k5 ?kA ?kh ?kf ?kK ?kd ?ku ?kp ?_; walk_at "m_site"); (case kp => ((try dsimp only); omega)); intro t9 h' k' lb9 F' N'; (try k_sweep); (try dsimp only); (try k_fold))
  k_with "call ref" => (k_here; k_dflt (refine' Ctr.useVP (c_dirnameP _ _ _ _ _ _) ?k1 ?k2 ?k3 ?k4 ?k5 ?kA ?kh ?kf ?kK ?kd ?ku ?kp ?_; walk_at "m_site"); (case kp => ((try dsimp only); omega)); intro t9 h' k' lb9 F' N'; (try k_sweep); (try dsimp only); (try k_fold))
  k_with "call ref" => (k_here; k_dflt (refine' Ctr.useT2 (c_splitP _ _ _ _ _ _) ?k1 ?k2 ?k3 ?k4 ?k5 ?kA ?kh ?kf ?kK ?kd ?ku ?kp ?_; walk_at "m_site"); (case kp => ((try dsimp only); omega)); intro a9 t1 t2 h' k' lb9 F' l1 N'; (try simp only [AllNe, and_true] at l1); (try k_sweep); (try dsimp only); (try k_fold))
  k_with "m_isl" => exact Fr.lst (by assumption) (by assumption)
  k_with "m_slz" => first | omega | (simp only [List.length_append, List.length_cons, List.length_nil, List.length_dropLast, List.length_reverse, List.length_take, List.length_drop]; omega)
  k_with "call builtin:len" => (k_here; (with_reducible show wpAny _ _ (call (Value.builtin "len") [Value.ref _]) _ _ _); k_dflt (refine l_lenS (by walk_at "m_isl") (by assumption) (by walk_at "m_slz") ?_); intro t9 k9)
  k_with "subscriptTail Name Name ref int" => (k_here; k_dflt (refine l_itemS (by walk_at "m_isl") (by assumption) (by walk_at "m_slz") (by walk_at "m_slz") ?_); intro y9 t9 hy9)
  k_with "subscriptTail Name Slice ref ref" => (k_here; (with_reducible show wpAny _ _ (subscriptTail _ (PySem.Expr.Slice none none (some _) _) (Value.ref _) (Value.ref _)) _ _ _); k_dflt (refine' l_rev (by assumption) (by assumption) (by walk_at "m_isl") (IsPart.int _ _) (by walk_at "m_slz") ?_ (by with_unfolding_all rfl) (by intro _; with_unfolding_all rfl)); intro D' h' F' N' l1; (try k_lt l1); (try k_sweep))
  k_with "m_lend5" => (refine LEnd.mk2 (_, _, _, _, _) (by assumption) (by assumption) (by walk_at "m_all") (by walk_at "m_ea") (by walk_at "m_own") (by walk_at "m_off") ?_; (try dsimp only))
  k_with "call ref" => (k_here; k_dflt (refine' Ctr.useV (c_abspath _ _ _ _ _ _) ?k1 ?k2 ?k3 ?k4 ?k5 ?kA ?kh ?kf ?kK ?kd ?ku ?kp ?_; walk_at "m_site"); (case kp => ((try dsimp only); exact ⟨by omega, by assumption⟩)); intro t9 h' k' F' N'; (try k_sweep); (try dsimp only); (try k_fold))
  k_with "call ref" => (k_here; k_dflt (refine' Ctr.useO (c_number _ _ _ _ _ _) ?k1 ?k2 ?k3 ?k4 ?k5 ?kA ?kh ?kf ?kK ?kd ?ku ?kp ?_ ?_; walk_at "m_site"); (case kp => ((try dsimp only); omega)); (first | intro n9 t9 h' k' o' F' N' | intro h' k' o' F' N'); (try k_sweep); (try dsimp only); (try k_fold))
  trivial
section piece_W7
section
theorem lay_own_W7_1 : True := by
  k_with "exec While BoolOp cons nil" => (k_here; refine stop_here ?_)
  trivial
set_option maxHeartbeats 4000000 in
theorem c_climb (w mean mg mb) (x : Str) (t : Tok) : Ctr w mean mg mb 3 40 246 [.str x t] (fun _ => x.length ≤ 50000)
    (fun h h' r => ∃ a b vs t1, r = .ref a ∧ h.get? a = none ∧ h'.get? a = some (tupOf [.str (climbS x).1 t1, .ref b]) ∧ h.get? b = none ∧ h'.get? b = some (listOf vs.toArray 0) ∧ StrsAre vs (climbS x).2) := by
  walk_at "m_open"
  replace F' : Fr s.heap L' h' (fun y => List.lookup y [(Str.ofString "path", Value.str x t)]) := F'
  walk_at "m_steps"
  refine Stop.go ?_
  rename Fr _ _ _ _ => Fw
  rename News _ _ _ _ => Nw
  refine' while_st1 (σ := Str × Tok × List Value × Nat × List Str) (fun c => [(Str.ofString "here", .str c.1 c.2.1)]) (fun c => listOf c.2.2.1.toArray c.2.2.2.1) [Str.ofString "head", Str.ofString "tail"]
    (fun c => StrsAre c.2.2.1 c.2.2.2.2 ∧ c.1.length ≤ x.length ∧ c.2.2.2.2.length ≤ x.length + 1 ∧ climbF (x.length + 1 - c.2.2.2.2.length) c.1 c.2.2.2.2 = climbF (x.length + 1) x []) (fun c => x.length + 1 - c.2.2.2.2.length) (x, t, [], 0, []) Fw Nw ?hp ?hi ?turn
  case hp => walk_at "m_all"
  case hi => exact ⟨.nil, Nat.le_refl _, by simp, rfl⟩
  case turn =>
    clear Fw Nw
    rintro ⟨here, th, vs, n, ns⟩ u h' tk' ⟨hI1, hI2, hI3, hI4⟩ F' N'
    dsimp only at hI1 hI2 hI3 hI4 F' N' ⊢
    have hz := hI1.length
    walk_at "m_steps"
    · rename (_ != _) = true => he
      simp at he
    · rename (_ != _) = true => he
      simp at he
    · refine LEnd.mk2 (_, _, _, _, ns ++ [bnS here]) (by assumption) (by assumption) (by walk_at "m_all") (by walk_at "m_ea") (by walk_at "m_own") (by walk_at "m_off") ?_
      dsimp only
      have hle : (ns.length : Int) ≤ x.length := by assumption
      have hb0 : ((bnS here).length : Int) ≠ 0 := by assumption
      refine ⟨⟨strs_snoc hI1 _ _, Nat.le_trans (dnS_len here) hI2, ?_, climb_step hb0 hle hI4⟩, ?_⟩ <;> (rw [List.length_append]; simp only [List.length_cons, List.length_nil]; omega)
    · walk_at "m_end"
      rename ¬ (_ ≤ _) => hle
      obtain ⟨e1, e2⟩ := climb_fst (climb_end2 hle hI4)
      rw [e1, e2]
      exact ⟨_, _, _, _, rfl, News.fresh (by assumption) (List.Mem.head _), News.get (by assumption) (List.Mem.head _), News.fresh (by assumption) (List.Mem.tail _ (List.Mem.head _)), News.get (by assumption) (List.Mem.tail _ (List.Mem.head _)), strs_rev hI1⟩
    · walk_at "m_end"
      rename (_ = (0 : Int)) => hle
      obtain ⟨e1, e2⟩ := climb_fst (climb_end1 hle hI4)
      rw [e1, e2]
      exact ⟨_, _, _, _, rfl, News.fresh (by assumption) (List.Mem.head _), News.get (by assumption) (List.Mem.head _), News.fresh (by assumption) (List.Mem.tail _ (List.Mem.head _)), News.get (by assumption) (List.Mem.tail _ (List.Mem.head _)), strs_rev hI1⟩
end
end piece_W7
theorem lay_base_6 : True := by
  k_with_none
  k_with "m_open" => (
    refine Ctr.opened ?_
    intro dp un gd s Q E A₀ base h₀ outer env L m B F X T hf hk hd hu hp ret
    (refine' enter ?k1 ?k2 ?k3 ?k5 ?kA ?kF ?kK ?k6 ?k7 ?k8 ?k9 ?kB ?_ ?c2 ?c3 ?c4 ?c5; (case kA => exact rfl); (case kF => exact hf); (case kK => exact hk); (case k1 => exact B); (case k2 => exact F); (case k3 => exact X); (case k5 => exact T); (case k6 => k_is); (case k7 => k_is); (case k8 => (simp only; omega)); (case k9 => exact BindsTo.of_eq rfl); (case kB => exact locs rfl); (case c2 => exact rfl); (case c3 => exact rfl); (case c4 => exact rfl); (case c5 => decide))
    clear B F X T hf hk
    intro L' h' F' N' B' X' T'
    (try dsimp only)
    (try k_lift B')
    k_fold)
  k_with "m_end" => ((repeat (first | k_unfold | dsimp only)); refine ret _ _ _ (Fr.keep (by assumption)) ?_; (try dsimp only))
  k_with "m_site" => (
    (case k1 => k_asm); (case k2 => k_asm); (case k3 => k_asm); (case k4 => k_asm); (case k5 => k_asm); (case kA => exact rfl); (case kh => exact rfl); (case kf => exact rfl); (case kK => exact rfl)
    (case kd => (first | exact room1 hd rfl | exact room0 hd rfl | exact room1 hdep rfl | exact room0 hdep rfl | ((try simp only [depth_deeper, Around.in1_depth]); omega))); (case ku => (first | exact room1 hu rfl | exact room0 hu rfl | exact room2 hu rfl | exact room1 hun rfl | exact room0 hun rfl | exact room2 hun rfl | ((try simp only [Around.deeper_units, Around.in1_units, Around.mark_units]); omega))))
  k_with "call builtin:issubclass" => (k_here; (with_reducible show wpAny _ _ (call (Value.builtin "issubclass") [Value.type _, Value.ref _]) _ _ _); k_dflt (refine isub_str ?k1 ?_; (case k1 => exact News.get (by assumption) (by news_mem))); intro _)
  k_with "call ref" => (k_here; k_dflt (refine' Ctr.useE (c_fspath _ _ _ _ _ _) ?k1 ?k2 ?k3 ?k4 ?k5 ?kA ?kh ?kf ?kK ?kd ?ku ?kp ?_; walk_at "m_site"); (case kp => trivial); intro h' k' F' N'; (try k_sweep); (try dsimp only); (try k_fold))
  k_with "call ref" => (k_here; k_dflt (refine' Ctr.useV (c_get_sep _ _ _ _ _ _) ?k1 ?k2 ?k3 ?k4 ?k5 ?kA ?kh ?kf ?kK ?kd ?ku ?kp ?_; walk_at "m_site"); (case kp => trivial); intro t9 h' k' F' N'; (try k_sweep); (try dsimp only); (try k_fold))
  k_with "m_steps" => (repeat' (first | (k_unfold; (try dsimp only)) | walk1 | (dsimp only; walk1) | fail "no step"))
  k_with "m_all" => first | exact List.forall_mem_nil _ | (refine List.forall_mem_cons.mpr ⟨by with_unfolding_all rfl, ?_⟩; walk_at "m_all")
  k_with "m_off" => (intro z hz1 hz2; first | with_reducible rfl | ((have hz3 := hz1); (try simp only [List.contains_cons, List.contains_nil, Bool.or_false, Bool.or_eq_false_iff, beq_eq_false_iff_ne, ne_eq] at hz3); (try simp only [List.forall_mem_cons, List.not_mem_nil, false_imp_iff, implies_true, and_true, ne_eq] at hz2); first | (simp only [frM, kstB, hz1, hz2, hz3, if_false, Bool.false_eq_true]; done) | (simp only [frM, kstB, hz1, hz2, if_false, Bool.false_eq_true]; done) | (simp only [frM, kstB, hz1, hz3, if_false, Bool.false_eq_true]; done) | (simp_all [frM, kstB]; done)))
  k_with "LPost" => (dsimp only [LPost])
  k_with "m_for" => (refine Stop.go ?_; (with_unfolding_all refine' For_invVF (by assumption) ?f1 ?f2 ?_); (case f1 => exact rfl); (case f2 => exact rfl))
  k_with "m_own" => (intro p9 hp9; first | exact absurd hp9 List.not_mem_nil | exact hp9 | exact List.Mem.tail _ hp9 | exact List.Mem.tail _ (List.Mem.tail _ hp9) | exact List.Mem.tail _ (List.Mem.tail _ (List.Mem.tail _ hp9)) | ((simp only [List.nil_append, List.append_nil, List.cons_append, List.mem_cons, List.mem_append, List.not_mem_nil, or_false, false_or] at hp9 ⊢); first | exact hp9 | exact Or.inr hp9 | (rcases hp9 with hp9 | hp9 <;> simp [hp9])))
  k_with "m_lend1" => (refine LEnd.mk2 _ (by assumption) (by assumption) (by walk_at "m_all") (by walk_at "m_ea") (by walk_at "m_own") (by walk_at "m_off") ?_; (try dsimp only))
  k_with "m_lend2" => (refine LEnd.mk2 (_, _) (by assumption) (by assumption) (by walk_at "m_all") (by walk_at "m_ea") (by walk_at "m_own") (by walk_at "m_off") ?_; (try dsimp only))
  k_with "m_lend3" => (refine LEnd.mk2 (_, _, _) (by assumption) (by assumption) (by walk_at "m_all") (by walk_at "m_ea") (by walk_at "m_own") (by walk_at "m_off") ?_; (try dsimp only))
  k_with "m_lend4" => (refine LEnd.mk2 (_, _, _, _) (by assumption) (by assumption) (by walk_at "m_all") (by walk_at "m_ea") (by walk_at "m_own") (by walk_at "m_off") ?_; (try dsimp only))
  k_with "m_ea" => first | exact (fun _ h9 => absurd h9 List.not_mem_nil) | (refine List.forall_mem_cons.mpr ⟨by k_mem, ?_⟩; walk_at "m_ea")
  k_with "m_isl" => first | with_reducible assumption | exact l_isl (by with_reducible assumption) (by k_mem) | (refine l_isl (by assumption) (by k_mem)) | assumption
  k_with "m_sz" => first | omega | ((simp only [List.length_append, List.length_cons, List.length_nil, List.length_dropLast, List.length_reverse]); omega)
  k_with "truthy ref" => (k_here; (with_reducible show wpAny _ _ (truthy (Value.ref _)) _ _ _); k_dflt (refine l_truthy (by walk_at "m_isl") (by walk_at "m_sz") ?_))
  k_with "call builtin:list.append" => (k_here; (with_reducible show wpAny _ _ (call (Value.builtin _) [Value.ref _, _]) _ _ _); k_dflt (refine l_append (by assumption) (by assumption) (by k_upd) (by walk_at "m_sz") ?_); intro h' F' N'; (try k_sweep))
  k_with "call builtin:str.join" => (k_here; (with_reducible show wpAny _ _ (call (Value.builtin _) [Value.str _ _, Value.ref _]) _ _ _); k_dflt (refine l_join (by walk_at "m_isl") (by assumption) (by decide) (by omega) ?_); intro t' k')
  k_with "call ref" => (k_here; k_dflt (refine' Ctr.useT3 (c_splitrootP _ _ _ _ _ _) ?k1 ?k2 ?k3 ?k4 ?k5 ?kA ?kh ?kf ?kK ?kd ?ku ?kp ?_; walk_at "m_site"); (case kp => ((try dsimp only); omega)); intro a9 t1 t2 t3 h' k' lt9 F' l1 N'; (try simp only [AllNe, and_true] at l1); (try k_sweep); (try dsimp only); (try k_fold))
  k_with "call ref" => (k_here; k_dflt (refine' Ctr.useT5 (c_splitext1 _ _ _ _ _ _ _ _) ?k1 ?k2 ?k3 ?k4 ?k5 ?kA ?kh ?kf ?kK ?kd ?ku ?kp ?_; walk_at "m_site"); (case kp => ((try dsimp only); omega)); intro a9 b9 c9 t1 t2 h' k' F' l1 N' o4; (try simp only [AllNe, and_true] at l1); (try k_sweep); (try dsimp only); (try k_fold))
  k_with "m_size" => ((try rw [PySem.sizeLine_eq]); omega)
  k_with "call builtin:str.split" => (k_here; (with_reducible show wpAny _ _ (call (Value.builtin "str.split") [Value.str _ _, Value.str _ _]) _ _ _); k_dflt (refine KSpl.split1 (by k_asm) (by k_asm) (by decide) ?_ (by walk_at "m_size")); intro D' l9 h' k' e9 a9 F' N' l1; rw [e9] at a9; (try k_lt l1))
  k_with "m_ne" => first | assumption | exact ne_of_isE (by assumption)
  k_with "subscriptTail Name UnaryOp ref int" => (k_here; k_dflt (refine l_lastS (by walk_at "m_isl") (by walk_at "m_ne") (by assumption) ?_); intro y9 t9 hy9)
  k_with "call builtin:list.pop" => (k_here; (with_reducible show wpAny _ _ (call (Value.builtin _) [Value.ref _]) _ _ _); k_dflt (refine l_popS (by assumption) (by assumption) (by k_upd) (by walk_at "m_ne") (by walk_at "m_sz") ?_); intro v9 h' F' N'; (try k_sweep))
  k_with "call ref" => (k_here; k_dflt (refine' Ctr.useV (c_normpath _ _ _ _ _ _) ?k1 ?k2 ?k3 ?k4 ?k5 ?kA ?kh ?kf ?kK ?kd ?ku ?kp ?_; walk_at "m_site"); (case kp => ((try dsimp only); omega)); intro t9 h' k' F' N'; (try k_sweep); (try dsimp only); (try k_fold))
  k_with "call ref" => (k_here; k_dflt (refine' Ctr.useVP (c_basenameP _ _ _ _ _ _) ?k1 ?k2 ?k3 ?k4 ?k5 ?kA ?kh ?kf ?kK ?kd ?ku ?kp ?_; walk_at "m_site"); (case kp => ((try dsimp only); omega)); intro t9 h' k' lb9 F' N'; (try k_sweep); (try dsimp only); (try k_fold))
  k_with "call ref" => (k_here; k_dflt (refine' Ctr.useVP (c_dirnameP _ _ _ _ _ _) ?k1 ?k2 ?k3 ?k4 ?k5 ?kA ?kh ?kf ?kK ?kd ?ku ?kp ?_; walk_at "m_site"); (case kp => ((try dsimp only); omega)); intro t9 h' k' lb9 F' N'; (try k_sweep); (try dsimp only); (try k_fold))
  k_with "call ref" => (k_here; k_dflt (refine' Ctr.useT2 (c_splitP _ _ _ _ _ _) ?k1 ?k2 ?k3 ?k4 ?k5 ?kA ?kh ?kf ?kK ?kd ?ku ?kp ?_; walk_at "m_site"); (case kp => ((try dsimp only); omega)); intro a9 t1 t2 h' k' lb9 F' l1 N'; (try simp only [AllNe, and_true] at l1); (try k_sweep); (try dsimp only); (try k_fold))
  k_with "m_isl" => exact Fr.lst (by assumption) (by assumption)
  k_with "m_slz" => first | omega | (simp only [List.length_append, List.length_cons, List.length_nil, List.length_dropLast, List.length_reverse, List.length_take, List.length_drop]; omega)
  k_with "call builtin:len" => (k_here; (with_reducible show wpAny _ _ (call (Value.builtin "len") [Value.ref _]) _ _ _); k_dflt (refine l_lenS (by walk_at "m_isl") (by assumption) (by walk_at "m_slz") ?_); intro t9 k9)
  k_with "subscriptTail Name Name ref int" => (k_here; k_dflt (refine l_itemS (by walk_at "m_isl") (by assumption) (by walk_at "m_slz") (by walk_at "m_slz") ?_); intro y9 t9 hy9)
  k_with "subscriptTail Name Slice ref ref" => (k_here; (with_reducible show wpAny _ _ (subscriptTail _ (PySem.Expr.Slice none none (some _) _) (Value.ref _) (Value.ref _)) _ _ _); k_dflt (refine' l_rev (by assumption) (by assumption) (by walk_at "m_isl") (IsPart.int _ _) (by walk_at "m_slz") ?_ (by with_unfolding_all rfl) (by intro _; with_unfolding_all rfl)); intro D' h' F' N' l1; (try k_lt l1); (try k_sweep))
  k_with "m_lend5" => (refine LEnd.mk2 (_, _, _, _, _) (by assumption) (by assumption) (by walk_at "m_all") (by walk_at "m_ea") (by walk_at "m_own") (by walk_at "m_off") ?_; (try dsimp only))
  k_with "call ref" => (k_here; k_dflt (refine' Ctr.useV (c_abspath _ _ _ _ _ _) ?k1 ?k2 ?k3 ?k4 ?k5 ?kA ?kh ?kf ?kK ?kd ?ku ?kp ?_; walk_at "m_site"); (case kp => ((try dsimp only); exact ⟨by omega, by assumption⟩)); intro t9 h' k' F' N'; (try k_sweep); (try dsimp only); (try k_fold))
  k_with "call ref" => (k_here; k_dflt (refine' Ctr.useO (c_number _ _ _ _ _ _) ?k1 ?k2 ?k3 ?k4 ?k5 ?kA ?kh ?kf ?kK ?kd ?ku ?kp ?_ ?_; walk_at "m_site"); (case kp => ((try dsimp only); omega)); (first | intro n9 t9 h' k' o' F' N' | intro h' k' o' F' N'); (try k_sweep); (try dsimp only); (try k_fold))
  trivial
section piece_W6
section
theorem lay_own_W6_1 : True := by
  k_with "exec For Name Name cons nil" => (k_here; refine stop_here ?_)
  k_with "pyIter str" => (k_here; refine stop_here ?_)
  k_with "m_numloop" => (
    walk_at "m_for"
    walk_at "m_steps"
    refine Stop.go ?_
    rename Fr _ _ _ _ => Fw
    rename News _ _ _ _ => Nw
    refine' for_str (σ := Int × Tok) (fun c => [(Str.ofString "value", .int c.1 c.2)]) (fun _ => []) [Str.ofString "figure"] (fun i c => ((figsS x).cps.toList.take i).foldl numStep (some 0) = some c.1) (_, _) ?hh Fw Nw (fun _ => rfl) ?hp ?hi ?turn ?done
    case hh => exact rfl
    case hp => walk_at "m_all"
    case hi => rfl
    case turn =>
      clear Fw Nw
      rintro i v ⟨n, tn⟩ u h' tk' own hi ⟨c, tc, hc, rfl⟩ hI ho F' N'
      dsimp only at hI F' N' ⊢
      have hft := num_take (by rw [hfx]; exact hc) hI
      walk_at "m_steps"
      · (repeat (first | k_unfold | dsimp only))
        rename (_ < 0) => hneg
        exact ret _ _ _ (Fr.keep (by assumption)) (.inl ⟨num_none1 hneg hft, rfl⟩)
      · rename ¬ (_ < 0) => hneg
        walk_at "m_lend2"
        rw [hft]
        exact if_neg hneg
    case done =>
      clear Fw Nw
      rintro ⟨n, tn⟩ u h' tk' hI F' N'
      dsimp only at hI F' N' ⊢
      walk_at "m_steps"
      all_goals walk_at "m_end"
      · rename (_ == Str.ofString "") = true => he
        exact .inl ⟨num_none2 (by rw [hfx]; exact he), rfl⟩
      · rename (_ == Str.ofString "") = false => he
        refine .inr ⟨_, _, num_some (by rw [hfx]; exact he) (by rw [hfx]) hI, congrArg (fun z => Value.int z _) ?_⟩
        first | exact (if_pos (eq_of_beq hm)).symm | exact (if_neg (by simpa using hm)).symm)
  trivial
set_option maxHeartbeats 4000000 in
theorem c_number (w mean mg mb) (x : Str) (t : Tok) : Ctr w mean mg mb 1 20 225 [.str x t] (fun _ => x.length ≤ 1000) (fun _ _ r => (numS x = none ∧ r = .none) ∨ ∃ n t', numS x = some n ∧ r = .int n t') := by
  walk_at "m_open"
  replace F' : Fr s.heap L' h' (fun y => List.lookup y [(Str.ofString "word", Value.str x t)]) := F'
  walk_at "m_steps"
  · rename (_ == Str.ofString "-") = true => hm
    have hfx : figsS x = Txt.slice x (some 1) none := if_pos (eq_of_beq hm)
    walk_at "m_numloop"
  · rename (_ == Str.ofString "-") = false => hm
    have hfx : figsS x = x := if_neg (by simpa using hm)
    walk_at "m_numloop"
end
end piece_W6
theorem lay_base_7 : True := by
  k_with_none
  k_with "m_open" => (
    refine Ctr.opened ?_
    intro dp un gd s Q E A₀ base h₀ outer env L m B F X T hf hk hd hu hp ret
    (refine' enter ?k1 ?k2 ?k3 ?k5 ?kA ?kF ?kK ?k6 ?k7 ?k8 ?k9 ?kB ?_ ?c2 ?c3 ?c4 ?c5; (case kA => exact rfl); (case kF => exact hf); (case kK => exact hk); (case k1 => exact B); (case k2 => exact F); (case k3 => exact X); (case k5 => exact T); (case k6 => k_is); (case k7 => k_is); (case k8 => (simp only; omega)); (case k9 => exact BindsTo.of_eq rfl); (case kB => exact locs rfl); (case c2 => exact rfl); (case c3 => exact rfl); (case c4 => exact rfl); (case c5 => decide))
    clear B F X T hf hk
    intro L' h' F' N' B' X' T'
    (try dsimp only)
    (try k_lift B')
    k_fold)
  k_with "m_end" => ((repeat (first | k_unfold | dsimp only)); refine ret _ _ _ (Fr.keep (by assumption)) ?_; (try dsimp only))
  k_with "m_site" => (
    (case k1 => k_asm); (case k2 => k_asm); (case k3 => k_asm); (case k4 => k_asm); (case k5 => k_asm); (case kA => exact rfl); (case kh => exact rfl); (case kf => exact rfl); (case kK => exact rfl)
    (case kd => (first | exact room1 hd rfl | exact room0 hd rfl | exact room1 hdep rfl | exact room0 hdep rfl | ((try simp only [depth_deeper, Around.in1_depth]); omega))); (case ku => (first | exact room1 hu rfl | exact room0 hu rfl | exact room2 hu rfl | exact room1 hun rfl | exact room0 hun rfl | exact room2 hun rfl | ((try simp only [Around.deeper_units, Around.in1_units, Around.mark_units]); omega))))
  k_with "call builtin:issubclass" => (k_here; (with_reducible show wpAny _ _ (call (Value.builtin "issubclass") [Value.type _, Value.ref _]) _ _ _); k_dflt (refine isub_str ?k1 ?_; (case k1 => exact News.get (by assumption) (by news_mem))); intro _)
  k_with "call ref" => (k_here; k_dflt (refine' Ctr.useE (c_fspath _ _ _ _ _ _) ?k1 ?k2 ?k3 ?k4 ?k5 ?kA ?kh ?kf ?kK ?kd ?ku ?kp ?_; walk_at "m_site"); (case kp => trivial); intro h' k' F' N'; (try k_sweep); (try dsimp only); (try k_fold))
  k_with "call ref" => (k_here; k_dflt (refine' Ctr.useV (c_get_sep _ _ _ _ _ _) ?k1 ?k2 ?k3 ?k4 ?k5 ?kA ?kh ?kf ?kK ?kd ?ku ?kp ?_; walk_at "m_site"); (case kp => trivial); intro t9 h' k' F' N'; (try k_sweep); (try dsimp only); (try k_fold))
  k_with "m_steps" => (repeat' (first | (k_unfold; (try dsimp only)) | walk1 | (dsimp only; walk1) | fail "no step"))
  k_with "m_all" => first | exact List.forall_mem_nil _ | (refine List.forall_mem_cons.mpr ⟨by with_unfolding_all rfl, ?_⟩; walk_at "m_all")
  k_with "m_off" => (intro z hz1 hz2; first | with_reducible rfl | ((have hz3 := hz1); (try simp only [List.contains_cons, List.contains_nil, Bool.or_false, Bool.or_eq_false_iff, beq_eq_false_iff_ne, ne_eq] at hz3); (try simp only [List.forall_mem_cons, List.not_mem_nil, false_imp_iff, implies_true, and_true, ne_eq] at hz2); first | (simp only [frM, kstB, hz1, hz2, hz3, if_false, Bool.false_eq_true]; done) | (simp only [frM, kstB, hz1, hz2, if_false, Bool.false_eq_true]; done) | (simp only [frM, kstB, hz1, hz3, if_false, Bool.false_eq_true]; done) | (simp_all [frM, kstB]; done)))
  k_with "LPost" => (dsimp only [LPost])
  k_with "m_for" => (refine Stop.go ?_; (with_unfolding_all refine' For_invVF (by assumption) ?f1 ?f2 ?_); (case f1 => exact rfl); (case f2 => exact rfl))
  k_with "m_own" => (intro p9 hp9; first | exact absurd hp9 List.not_mem_nil | exact hp9 | exact List.Mem.tail _ hp9 | exact List.Mem.tail _ (List.Mem.tail _ hp9) | exact List.Mem.tail _ (List.Mem.tail _ (List.Mem.tail _ hp9)) | ((simp only [List.nil_append, List.append_nil, List.cons_append, List.mem_cons, List.mem_append, List.not_mem_nil, or_false, false_or] at hp9 ⊢); first | exact hp9 | exact Or.inr hp9 | (rcases hp9 with hp9 | hp9 <;> simp [hp9])))
  k_with "m_lend1" => (refine LEnd.mk2 _ (by assumption) (by assumption) (by walk_at "m_all") (by walk_at "m_ea") (by walk_at "m_own") (by walk_at "m_off") ?_; (try dsimp only))
  k_with "m_lend2" => (refine LEnd.mk2 (_, _) (by assumption) (by assumption) (by walk_at "m_all") (by walk_at "m_ea") (by walk_at "m_own") (by walk_at "m_off") ?_; (try dsimp only))
  k_with "m_lend3" => (refine LEnd.mk2 (_, _, _) (by assumption) (by assumption) (by walk_at "m_all") (by walk_at "m_ea") (by walk_at "m_own") (by walk_at "m_off") ?_; (try dsimp only))
  k_with "m_lend4" => (refine LEnd.mk2 (_, _, _, _) (by assumption) (by assumption) (by walk_at "m_all") (by walk_at "m_ea") (by walk_at "m_own") (by walk_at "m_off") ?_; (try dsimp only))
  k_with "m_ea" => first | exact (fun _ h9 => absurd h9 List.not_mem_nil) | (refine List.forall_mem_cons.mpr ⟨by k_mem, ?_⟩; walk_at "m_ea")
  k_with "m_isl" => first | with_reducible assumption | exact l_isl (by with_reducible assumption) (by k_mem) | (refine l_isl (by assumption) (by k_mem)) | assumption
  k_with "m_sz" => first | omega | ((simp only [List.length_append, List.length_cons, List.length_nil, List.length_dropLast, List.length_reverse]); omega)
  k_with "truthy ref" => (k_here; (with_reducible show wpAny _ _ (truthy (Value.ref _)) _ _ _); k_dflt (refine l_truthy (by walk_at "m_isl") (by walk_at "m_sz") ?_))
  k_with "call builtin:list.append" => (k_here; (with_reducible show wpAny _ _ (call (Value.builtin _) [Value.ref _, _]) _ _ _); k_dflt (refine l_append (by assumption) (by assumption) (by k_upd) (by walk_at "m_sz") ?_); intro h' F' N'; (try k_sweep))
  k_with "call builtin:str.join" => (k_here; (with_reducible show wpAny _ _ (call (Value.builtin _) [Value.str _ _, Value.ref _]) _ _ _); k_dflt (refine l_join (by walk_at "m_isl") (by assumption) (by decide) (by omega) ?_); intro t' k')
  k_with "call ref" => (k_here; k_dflt (refine' Ctr.useT3 (c_splitrootP _ _ _ _ _ _) ?k1 ?k2 ?k3 ?k4 ?k5 ?kA ?kh ?kf ?kK ?kd ?ku ?kp ?_; walk_at "m_site"); (case kp => ((try dsimp only); omega)); intro a9 t1 t2 t3 h' k' lt9 F' l1 N'; (try simp only [AllNe, and_true] at l1); (try k_sweep); (try dsimp only); (try k_fold))
  k_with "call ref" => (k_here; k_dflt (refine' Ctr.useT5 (c_splitext1 _ _ _ _ _ _ _ _) ?k1 ?k2 ?k3 ?k4 ?k5 ?kA ?kh ?kf ?kK ?kd ?ku ?kp ?_; walk_at "m_site"); (case kp => ((try dsimp only); omega)); intro a9 b9 c9 t1 t2 h' k' F' l1 N' o4; (try simp only [AllNe, and_true] at l1); (try k_sweep); (try dsimp only); (try k_fold))
  k_with "m_size" => ((try rw [PySem.sizeLine_eq]); omega)
  k_with "call builtin:str.split" => (k_here; (with_reducible show wpAny _ _ (call (Value.builtin "str.split") [Value.str _ _, Value.str _ _]) _ _ _); k_dflt (refine KSpl.split1 (by k_asm) (by k_asm) (by decide) ?_ (by walk_at "m_size")); intro D' l9 h' k' e9 a9 F' N' l1; rw [e9] at a9; (try k_lt l1))
  k_with "m_ne" => first | assumption | exact ne_of_isE (by assumption)
  k_with "subscriptTail Name UnaryOp ref int" => (k_here; k_dflt (refine l_lastS (by walk_at "m_isl") (by walk_at "m_ne") (by assumption) ?_); intro y9 t9 hy9)
  k_with "call builtin:list.pop" => (k_here; (with_reducible show wpAny _ _ (call (Value.builtin _) [Value.ref _]) _ _ _); k_dflt (refine l_popS (by assumption) (by assumption) (by k_upd) (by walk_at "m_ne") (by walk_at "m_sz") ?_); intro v9 h' F' N'; (try k_sweep))
  k_with "call ref" => (k_here; k_dflt (refine' Ctr.useV (c_normpath _ _ _ _ _ _) ?k1 ?k2 ?k3 ?k4 ?k5 ?kA ?kh ?kf ?kK ?kd ?ku ?kp ?_; walk_at "m_site"); (case kp => ((try dsimp only); omega)); intro t9 h' k' F' N'; (try k_sweep); (try dsimp only); (try k_fold))
  k_with "call ref" => (k_here; k_dflt (refine' Ctr.useVP (c_basenameP _ _ _ _ _ _) ?k1 ?k2 ?k3 ?k4 ?k5 ?kA ?kh ?kf ?kK ?kd ?ku ?kp ?_; walk_at "m_site"); (case kp => ((try dsimp only); omega)); intro t9 h' k' lb9 F' N'; (try k_sweep); (try dsimp only); (try k_fold))
  k_with "call ref" => (k_here; k_dflt (refine' Ctr.useVP (c_dirnameP _ _ _ _ _ _) ?k1 ?k2 ?k3 ?k4 ?k5 ?kA ?kh ?kf ?kK ?kd ?ku ?kp ?_; walk_at "m_site"); (case kp => ((try dsimp only); omega)); intro t9 h' k' lb9 F' N'; (try k_sweep); (try dsimp only); (try k_fold))
  k_with "call ref" => (k_here; k_dflt (refine' Ctr.useT2 (c_splitP _ _ _ _ _ _) ?k1 ?k2 ?k3 ?k4 ?k5 ?kA ?kh ?kf ?kK ?kd ?ku ?kp ?_; walk_at "m_site"); (case kp => ((try dsimp only); omega)); intro a9 t1 t2 h' k' lb9 F' l1 N'; (try simp only [AllNe, and_true] at l1); (try k_sweep); (try dsimp only); (try k_fold))
  k_with "m_isl" => exact Fr.lst (by assumption) (by assumption)
  k_with "m_slz" => first | omega | (simp only [List.length_append, List.length_cons, List.length_nil, List.length_dropLast, List.length_reverse, List.length_take, List.length_drop]; omega)
  k_with "call builtin:len" => (k_here; (with_reducible show wpAny _ _ (call (Value.builtin "len") [Value.ref _]) _ _ _); k_dflt (refine l_lenS (by walk_at "m_isl") (by assumption) (by walk_at "m_slz") ?_); intro t9 k9)
  k_with "subscriptTail Name Name ref int" => (k_here; k_dflt (refine l_itemS (by walk_at "m_isl") (by assumption) (by walk_at "m_slz") (by walk_at "m_slz") ?_); intro y9 t9 hy9)
  k_with "subscriptTail Name Slice ref ref" => (k_here; (with_reducible show wpAny _ _ (subscriptTail _ (PySem.Expr.Slice none none (some _) _) (Value.ref _) (Value.ref _)) _ _ _); k_dflt (refine' l_rev (by assumption) (by assumption) (by walk_at "m_isl") (IsPart.int _ _) (by walk_at "m_slz") ?_ (by with_unfolding_all rfl) (by intro _; with_unfolding_all rfl)); intro D' h' F' N' l1; (try k_lt l1); (try k_sweep))
  k_with "m_lend5" => (refine LEnd.mk2 (_, _, _, _, _) (by assumption) (by assumption) (by walk_at "m_all") (by walk_at "m_ea") (by walk_at "m_own") (by walk_at "m_off") ?_; (try dsimp only))
  k_with "call ref" => (k_here; k_dflt (refine' Ctr.useV (c_abspath _ _ _ _ _ _) ?k1 ?k2 ?k3 ?k4 ?k5 ?kA ?kh ?kf ?kK ?kd ?ku ?kp ?_; walk_at "m_site"); (case kp => ((try dsimp only); exact ⟨by omega, by assumption⟩)); intro t9 h' k' F' N'; (try k_sweep); (try dsimp only); (try k_fold))
  k_with "call ref" => (k_here; k_dflt (refine' Ctr.useO (c_number _ _ _ _ _ _) ?k1 ?k2 ?k3 ?k4 ?k5 ?kA ?kh ?kf ?kK ?kd ?ku ?kp ?_ ?_; walk_at "m_site"); (case kp => ((try dsimp only); omega)); (first | intro n9 t9 h' k' o' F' N' | intro h' k' o' F' N'); (try k_sweep); (try dsimp only); (try k_fold))
  trivial
section piece_W9
set_option maxHeartbeats 4000000 in
theorem c_abspath (w mean mg mb) (x : Str) (t : Tok) : Ctr w mean mg mb 4 50 195 [.str x t] (fun _ => x.length ≤ 50000 ∧ Txt.startswith x (Str.ofString "/") = true) (fun _ _ r => ∃ t', r = .str (normS x) t') := by
  walk_at "m_open"
  obtain ⟨hp1, hp2⟩ := hp
  replace F' : Fr s.heap L' h' (fun y => List.lookup y [(Str.ofString "path", Value.str x t)]) := F'
  walk_at "m_steps"
  all_goals walk_at "m_end"
  all_goals exact ⟨_, rfl⟩
end piece_W9
section piece_W14
section
theorem lay_own_W14_1 : True := by
  k_with "m_strs" => first | exact (StrsAre.cons _ _ (StrsAre.cons _ _ (StrsAre.cons _ _ (StrsAre.cons _ _ StrsAre.nil)))) | exact (StrsAre.cons _ _ (StrsAre.cons _ _ (StrsAre.cons _ _ (StrsAre.cons _ _ (StrsAre.cons _ _ (StrsAre.cons _ _ (StrsAre.cons _ _ (StrsAre.cons _ _ (StrsAre.cons _ _ (StrsAre.cons _ _ (StrsAre.cons _ _ (StrsAre.cons _ _ StrsAre.nil))))))))))))
  k_with "m_tok" => exact ⟨fmod_lo _ (by decide), Int.lt_trans (fmod_hi _ (by decide)) (by decide)⟩
  k_with "exec For Name Name cons nil" => (k_here; refine stop_here ?_)
  k_with "subscriptTail" => (k_here; (with_reducible show wpAny _ _ (subscriptTail (PySem.Expr.Tuple _ _ _) (PySem.Expr.BinOp _ _ _ _) (Value.ref _) (Value.int _ _)) _ _ _); k_dflt (refine' t_itemS ?k1 ?k2 ?k3 ?k4 ?k5 ?_; (case k1 => exact ⟨_, News.get (by assumption) (List.Mem.head _), rfl, _, rfl⟩); (case k2 => walk_at "m_strs"); (case k3 => exact fmod_lo _ (by decide)); (case k4 => exact fmod_hi _ (by decide)); (case k5 => exact Int.lt_trans (fmod_hi _ (by decide)) (by decide))); intro y9 t9 hy9; (try (have tok9 := token_ok (by walk_at "m_tok") (by walk_at "m_tok") (by walk_at "m_tok") hy9; have tokl9 := tok9.2)))
  k_with "subscriptTail Name UnaryOp ref int" => (k_here; k_dflt (refine l_lastS (by walk_at "m_isl") (by walk_at "m_ne") (by assumption) ?_); intro y9 t9 hy9; have ly9 := last_len hy9)
  k_with "setItem ref int" => (k_here; (with_reducible show wpAny _ _ (setItem (Value.ref _) (Value.int _ _) (Value.str _ _)) _ _ _); k_dflt (refine l_setLast (by assumption) (by assumption) (by walk_at "m_ne") (by k_upd) ?_); intro h' F' N'; (try k_sweep))
  k_with "pyIter ref" => (k_here; refine stop_here ?_)
  trivial
set_option maxHeartbeats 4000000 in
theorem c_parts (w mean mg mb) (l : Addr) (vs : List Value) (ns : List Int) (hns : IntsAre vs ns) : Ctr w mean mg mb 2 60 213 [.ref l]
    (fun h => h.IsList l vs.toArray ∧ ns.length ≤ 2 ^ 20) (fun h h' r => PartsAre h h' r) := by
  walk_at "m_open"
  replace F' : Fr s.heap L' h' (fun y => List.lookup y [(Str.ofString "script", .ref l)]) := F'
  obtain ⟨hl, hz1⟩ := hp
  walk_at "m_steps"
  walk_at "m_for"
  walk_at "m_steps"
  refine Stop.go ?_
  rename Fr _ _ _ _ => Fw
  rename News _ _ _ _ => Nw
  rename (_ ∈ [_, _, _, _]) => hy9
  rename IntsAre _ _ => hS
  refine' for_list1 (σ := List Value × Nat) (fun _ => []) (fun c => listOf c.1.toArray c.2) [Str.ofString "rest", Str.ofString "place", Str.ofString "token"] (fun i c => ∃ xs, StrsAre c.1 xs ∧ PartsOk i xs) ([_], 0) ?hh (l_isl Nw (by k_mem)) ?hL Fw Nw ?ha ?hp ?hi ?turn ?done
  case hh => exact rfl
  case hL => exact (Nw _ (by k_mem : (_, LCg.lst _) ∈ _)).2.1
  case ha => k_ne
  case hp => exact List.forall_mem_nil _
  case hi => exact ⟨_, .cons _ _ .nil, parts_first hy9⟩
  case turn =>
    clear Fw Nw
    rintro i v ⟨acc, n⟩ u h' tk' own hv ⟨xs, hI1, hI2⟩ ho F' N'
    obtain ⟨z, tz, rfl, hz⟩ := ints_item hS i v hv
    have hz0 := cell_ok hz
    have hi24 : i < 24 := by
      have h1 := (List.getElem?_eq_some_iff.mp hz).1
      rw [List.length_map, List.length_take] at h1
      omega
    have hz2 := hI2.2.1
    have hz3 := hI2.2.2.1
    have hne : acc ≠ [] := fun e => hI2.1 ((strs_nil hI1).mp e)
    have hlen := hI1.length
    dsimp only at F' N' hlen hI1 ⊢
    simp only [List.cons_append, List.nil_append] at N'
    walk_at "m_steps"
    all_goals walk_at "m_lend2"
    · exact ⟨_, strs_snoc hI1 _ _, parts_new hI2⟩
    · rename Al _ ∧ _ => tk9
      exact ⟨_, strs_snoc (strs_dropLast hI1) _ _, parts_more hI2 (by with_reducible assumption) tk9.1 tk9.2⟩
  case done =>
    clear Fw Nw
    rintro ⟨acc, n⟩ u h' tk' ⟨xs, hI1, hI2⟩ F' N'
    have hz3 := parts_mono (j := 24) hI2 (by rw [hS.length, List.length_map, List.length_take]; omega)
    dsimp only at F' N' ⊢
    walk_at "m_steps"
    walk_at "m_end"
    exact ⟨_, _, _, _, rfl, News.fresh (by assumption) (List.Mem.head _), News.get (by assumption) (List.Mem.head _), hI1, hz3⟩
end
end piece_W14
theorem lay_base_8 : True := by
  k_with_none
  k_with "m_open" => (
    refine Ctr.opened ?_
    intro dp un gd s Q E A₀ base h₀ outer env L m B F X T hf hk hd hu hp ret
    (refine' enter ?k1 ?k2 ?k3 ?k5 ?kA ?kF ?kK ?k6 ?k7 ?k8 ?k9 ?kB ?_ ?c2 ?c3 ?c4 ?c5; (case kA => exact rfl); (case kF => exact hf); (case kK => exact hk); (case k1 => exact B); (case k2 => exact F); (case k3 => exact X); (case k5 => exact T); (case k6 => k_is); (case k7 => k_is); (case k8 => (simp only; omega)); (case k9 => exact BindsTo.of_eq rfl); (case kB => exact locs rfl); (case c2 => exact rfl); (case c3 => exact rfl); (case c4 => exact rfl); (case c5 => decide))
    clear B F X T hf hk
    intro L' h' F' N' B' X' T'
    (try dsimp only)
    (try k_lift B')
    k_fold)
  k_with "m_end" => ((repeat (first | k_unfold | dsimp only)); refine ret _ _ _ (Fr.keep (by assumption)) ?_; (try dsimp only))
  k_with "m_site" => (
    (case k1 => k_asm); (case k2 => k_asm); (case k3 => k_asm); (case k4 => k_asm); (case k5 => k_asm); (case kA => exact rfl); (case kh => exact rfl); (case kf => exact rfl); (case kK => exact rfl)
    (case kd => (first | exact room1 hd rfl | exact room0 hd rfl | exact room1 hdep rfl | exact room0 hdep rfl | ((try simp only [depth_deeper, Around.in1_depth]); omega))); (case ku => (first | exact room1 hu rfl | exact room0 hu rfl | exact room2 hu rfl | exact room1 hun rfl | exact room0 hun rfl | exact room2 hun rfl | ((try simp only [Around.deeper_units, Around.in1_units, Around.mark_units]); omega))))
  k_with "call builtin:issubclass" => (k_here; (with_reducible show wpAny _ _ (call (Value.builtin "issubclass") [Value.type _, Value.ref _]) _ _ _); k_dflt (refine isub_str ?k1 ?_; (case k1 => exact News.get (by assumption) (by news_mem))); intro _)
  k_with "call ref" => (k_here; k_dflt (refine' Ctr.useE (c_fspath _ _ _ _ _ _) ?k1 ?k2 ?k3 ?k4 ?k5 ?kA ?kh ?kf ?kK ?kd ?ku ?kp ?_; walk_at "m_site"); (case kp => trivial); intro h' k' F' N'; (try k_sweep); (try dsimp only); (try k_fold))
  k_with "call ref" => (k_here; k_dflt (refine' Ctr.useV (c_get_sep _ _ _ _ _ _) ?k1 ?k2 ?k3 ?k4 ?k5 ?kA ?kh ?kf ?kK ?kd ?ku ?kp ?_; walk_at "m_site"); (case kp => trivial); intro t9 h' k' F' N'; (try k_sweep); (try dsimp only); (try k_fold))
  k_with "m_steps" => (repeat' (first | (k_unfold; (try dsimp only)) | walk1 | (dsimp only; walk1) | fail "no step"))
  k_with "m_all" => first | exact List.forall_mem_nil _ | (refine List.forall_mem_cons.mpr ⟨by with_unfolding_all rfl, ?_⟩; walk_at "m_all")
  k_with "m_off" => (intro z hz1 hz2; first | with_reducible rfl | ((have hz3 := hz1); (try simp only [List.contains_cons, List.contains_nil, Bool.or_false, Bool.or_eq_false_iff, beq_eq_false_iff_ne, ne_eq] at hz3); (try simp only [List.forall_mem_cons, List.not_mem_nil, false_imp_iff, implies_true, and_true, ne_eq] at hz2); first | (simp only [frM, kstB, hz1, hz2, hz3, if_false, Bool.false_eq_true]; done) | (simp only [frM, kstB, hz1, hz2, if_false, Bool.false_eq_true]; done) | (simp only [frM, kstB, hz1, hz3, if_false, Bool.false_eq_true]; done) | (simp_all [frM, kstB]; done)))
  k_with "LPost" => (dsimp only [LPost])
  k_with "m_for" => (refine Stop.go ?_; (with_unfolding_all refine' For_invVF (by assumption) ?f1 ?f2 ?_); (case f1 => exact rfl); (case f2 => exact rfl))
  k_with "m_own" => (intro p9 hp9; first | exact absurd hp9 List.not_mem_nil | exact hp9 | exact List.Mem.tail _ hp9 | exact List.Mem.tail _ (List.Mem.tail _ hp9) | exact List.Mem.tail _ (List.Mem.tail _ (List.Mem.tail _ hp9)) | ((simp only [List.nil_append, List.append_nil, List.cons_append, List.mem_cons, List.mem_append, List.not_mem_nil, or_false, false_or] at hp9 ⊢); first | exact hp9 | exact Or.inr hp9 | (rcases hp9 with hp9 | hp9 <;> simp [hp9])))
  k_with "m_lend1" => (refine LEnd.mk2 _ (by assumption) (by assumption) (by walk_at "m_all") (by walk_at "m_ea") (by walk_at "m_own") (by walk_at "m_off") ?_; (try dsimp only))
  k_with "m_lend2" => (refine LEnd.mk2 (_, _) (by assumption) (by assumption) (by walk_at "m_all") (by walk_at "m_ea") (by walk_at "m_own") (by walk_at "m_off") ?_; (try dsimp only))
  k_with "m_lend3" => (refine LEnd.mk2 (_, _, _) (by assumption) (by assumption) (by walk_at "m_all") (by walk_at "m_ea") (by walk_at "m_own") (by walk_at "m_off") ?_; (try dsimp only))
  k_with "m_lend4" => (refine LEnd.mk2 (_, _, _, _) (by assumption) (by assumption) (by walk_at "m_all") (by walk_at "m_ea") (by walk_at "m_own") (by walk_at "m_off") ?_; (try dsimp only))
  k_with "m_ea" => first | exact (fun _ h9 => absurd h9 List.not_mem_nil) | (refine List.forall_mem_cons.mpr ⟨by k_mem, ?_⟩; walk_at "m_ea")
  k_with "m_isl" => first | with_reducible assumption | exact l_isl (by with_reducible assumption) (by k_mem) | (refine l_isl (by assumption) (by k_mem)) | assumption
  k_with "m_sz" => first | omega | ((simp only [List.length_append, List.length_cons, List.length_nil, List.length_dropLast, List.length_reverse]); omega)
  k_with "truthy ref" => (k_here; (with_reducible show wpAny _ _ (truthy (Value.ref _)) _ _ _); k_dflt (refine l_truthy (by walk_at "m_isl") (by walk_at "m_sz") ?_))
  k_with "call builtin:list.append" => (k_here; (with_reducible show wpAny _ _ (call (Value.builtin _) [Value.ref _, _]) _ _ _); k_dflt (refine l_append (by assumption) (by assumption) (by k_upd) (by walk_at "m_sz") ?_); intro h' F' N'; (try k_sweep))
  k_with "call builtin:str.join" => (k_here; (with_reducible show wpAny _ _ (call (Value.builtin _) [Value.str _ _, Value.ref _]) _ _ _); k_dflt (refine l_join (by walk_at "m_isl") (by assumption) (by decide) (by omega) ?_); intro t' k')
  k_with "call ref" => (k_here; k_dflt (refine' Ctr.useT3 (c_splitrootP _ _ _ _ _ _) ?k1 ?k2 ?k3 ?k4 ?k5 ?kA ?kh ?kf ?kK ?kd ?ku ?kp ?_; walk_at "m_site"); (case kp => ((try dsimp only); omega)); intro a9 t1 t2 t3 h' k' lt9 F' l1 N'; (try simp only [AllNe, and_true] at l1); (try k_sweep); (try dsimp only); (try k_fold))
  k_with "call ref" => (k_here; k_dflt (refine' Ctr.useT5 (c_splitext1 _ _ _ _ _ _ _ _) ?k1 ?k2 ?k3 ?k4 ?k5 ?kA ?kh ?kf ?kK ?kd ?ku ?kp ?_; walk_at "m_site"); (case kp => ((try dsimp only); omega)); intro a9 b9 c9 t1 t2 h' k' F' l1 N' o4; (try simp only [AllNe, and_true] at l1); (try k_sweep); (try dsimp only); (try k_fold))
  k_with "m_size" => ((try rw [PySem.sizeLine_eq]); omega)
  k_with "call builtin:str.split" => (k_here; (with_reducible show wpAny _ _ (call (Value.builtin "str.split") [Value.str _ _, Value.str _ _]) _ _ _); k_dflt (refine KSpl.split1 (by k_asm) (by k_asm) (by decide) ?_ (by walk_at "m_size")); intro D' l9 h' k' e9 a9 F' N' l1; rw [e9] at a9; (try k_lt l1))
  k_with "m_ne" => first | assumption | exact ne_of_isE (by assumption)
  k_with "subscriptTail Name UnaryOp ref int" => (k_here; k_dflt (refine l_lastS (by walk_at "m_isl") (by walk_at "m_ne") (by assumption) ?_); intro y9 t9 hy9)
  k_with "call builtin:list.pop" => (k_here; (with_reducible show wpAny _ _ (call (Value.builtin _) [Value.ref _]) _ _ _); k_dflt (refine l_popS (by assumption) (by assumption) (by k_upd) (by walk_at "m_ne") (by walk_at "m_sz") ?_); intro v9 h' F' N'; (try k_sweep))
  k_with "call ref" => (k_here; k_dflt (refine' Ctr.useV (c_normpath _ _ _ _ _ _) ?k1 ?k2 ?k3 ?k4 ?k5 ?kA ?kh ?kf ?kK ?kd ?ku ?kp ?_; walk_at "m_site"); (case kp => ((try dsimp only); omega)); intro t9 h' k' F' N'; (try k_sweep); (try dsimp only); (try k_fold))
  k_with "call ref" => (k_here; k_dflt (refine' Ctr.useVP (c_basenameP _ _ _ _ _ _) ?k1 ?k2 ?k3 ?k4 ?k5 ?kA ?kh ?kf ?kK ?kd ?ku ?kp ?_; walk_at "m_site"); (case kp => ((try dsimp only); omega)); intro t9 h' k' lb9 F' N'; (try k_sweep); (try dsimp only); (try k_fold))
  k_with "call ref" => (k_here; k_dflt (refine' Ctr.useVP (c_dirnameP _ _ _ _ _ _) ?k1 ?k2 ?k3 ?k4 ?k5 ?kA ?kh ?kf ?kK ?kd ?ku ?kp ?_; walk_at "m_site"); (case kp => ((try dsimp only); omega)); intro t9 h' k' lb9 F' N'; (try k_sweep); (try dsimp only); (try k_fold))
  k_with "call ref" => (k_here; k_dflt (refine' Ctr.useT2 (c_splitP _ _ _ _ _ _) ?k1 ?k2 ?k3 ?k4 ?k5 ?kA ?kh ?kf ?kK ?kd ?ku ?kp ?_; walk_at "m_site"); (case kp => ((try dsimp only); omega)); intro a9 t1 t2 h' k' lb9 F' l1 N'; (try simp only [AllNe, and_true] at l1); (try k_sweep); (try dsimp only); (try k_fold))
  k_with "m_isl" => exact Fr.lst (by assumption) (by assumption)
  k_with "m_slz" => first | omega | (simp only [List.length_append, List.length_cons, List.length_nil, List.length_dropLast, List.length_reverse, List.length_take, List.length_drop]; omega)
  k_with "call builtin:len" => (k_here; (with_reducible show wpAny _ _ (call (Value.builtin "len") [Value.ref _]) _ _ _); k_dflt (refine l_lenS (by walk_at "m_isl") (by assumption) (by walk_at "m_slz") ?_); intro t9 k9)
  k_with "subscriptTail Name Name ref int" => (k_here; k_dflt (refine l_itemS (by walk_at "m_isl") (by assumption) (by walk_at "m_slz") (by walk_at "m_slz") ?_); intro y9 t9 hy9)
  k_with "subscriptTail Name Slice ref ref" => (k_here; (with_reducible show wpAny _ _ (subscriptTail _ (PySem.Expr.Slice none none (some _) _) (Value.ref _) (Value.ref _)) _ _ _); k_dflt (refine' l_rev (by assumption) (by assumption) (by walk_at "m_isl") (IsPart.int _ _) (by walk_at "m_slz") ?_ (by with_unfolding_all rfl) (by intro _; with_unfolding_all rfl)); intro D' h' F' N' l1; (try k_lt l1); (try k_sweep))
  k_with "m_lend5" => (refine LEnd.mk2 (_, _, _, _, _) (by assumption) (by assumption) (by walk_at "m_all") (by walk_at "m_ea") (by walk_at "m_own") (by walk_at "m_off") ?_; (try dsimp only))
  k_with "call ref" => (k_here; k_dflt (refine' Ctr.useV (c_abspath _ _ _ _ _ _) ?k1 ?k2 ?k3 ?k4 ?k5 ?kA ?kh ?kf ?kK ?kd ?ku ?kp ?_; walk_at "m_site"); (case kp => ((try dsimp only); exact ⟨by omega, by assumption⟩)); intro t9 h' k' F' N'; (try k_sweep); (try dsimp only); (try k_fold))
  k_with "call ref" => (k_here; k_dflt (refine' Ctr.useO (c_number _ _ _ _ _ _) ?k1 ?k2 ?k3 ?k4 ?k5 ?kA ?kh ?kf ?kK ?kd ?ku ?kp ?_ ?_; walk_at "m_site"); (case kp => ((try dsimp only); omega)); (first | intro n9 t9 h' k' o' F' N' | intro h' k' o' F' N'); (try k_sweep); (try dsimp only); (try k_fold))
  trivial
section piece_W15
section
theorem lay_own_W15_1 : True := by
  k_with "exec For Name Name cons nil" => (k_here; refine stop_here ?_)
  k_with "exec For Name Call cons nil" => (k_here; refine stop_here ?_)
  k_with "exec For Name Subscript cons nil" => (k_here; refine stop_here ?_)
  k_with "exec While Compare cons nil" => (k_here; refine stop_here ?_)
  k_with "eval IfExp" => (k_here; (fail_if_success (have cm9 : CutMark := by with_reducible assumption)); refine stop_here ?_)
  k_with "pyIter ref" => (k_here; refine stop_here ?_)
  k_with "subscriptTail Name Name ref int" => (k_here; k_dflt (refine l_itemS (by walk_at "m_isl") (by assumption) (by walk_at "m_slz") (by walk_at "m_slz") ?_); intro y9 t9 hy9; have ly9 := len_mem hy9)
  k_with "subscriptTail Name Slice ref ref" => (k_here; (with_reducible show wpAny _ _ (subscriptTail _ (PySem.Expr.Slice (some _) none none _) (Value.ref _) (Value.ref _)) _ _ _); k_dflt (refine' l_from (by assumption) (by assumption) (by walk_at "m_isl") (IsPart.int _ _) (by walk_at "m_slz") (by walk_at "m_slz") ?_ (by with_unfolding_all rfl) (by intro _; with_unfolding_all rfl)); intro D' h' F' N' l1; (try k_lt l1); (try k_sweep))
  k_with "binaryOp Add ref ref" => (k_here; k_dflt (refine l_catS (by assumption) (by assumption) (by walk_at "m_isl") (by assumption) (by assumption) (strs_rep _ _ _) (by walk_at "m_slr") ?_); intro D' h' F' N' l1 hcat9 hcl9; (try k_lt l1); (try k_sweep))
  k_with "m_slr" => ((simp only [List.length_replicate]); omega)
  trivial
set_option maxHeartbeats 4000000 in
theorem c_straight (w mean mg mb) (l : Addr) (vs : List Value) (xs : List Str) (hxs : StrsAre vs xs) : Ctr w mean mg mb 2 60 218 [.ref l]
    (fun h => h.IsList l vs.toArray ∧ xs.length + sumLen xs ≤ 1000 ∧ xs ≠ []) (fun h h' r => RootList h h' r (sroot xs) (spieces xs)) := by
  walk_at "m_open"
  replace F' : Fr s.heap L' h' (fun y => List.lookup y [(Str.ofString "parts", .ref l)]) := F'
  obtain ⟨hl, hz1, hz2⟩ := hp
  have hlen := hxs.length
  walk_at "m_steps"
  walk_at "m_for"
  walk_at "m_steps"
  refine Stop.go ?_
  rename Fr _ _ _ _ => Fw
  rename News _ _ _ _ => Nw
  refine' for_range (σ := Nat × Tok) (n := xs.length) (fun c => [(Str.ofString "first", .int (c.1 : Int) c.2)]) (fun _ => []) [] (fun i c => c.1 = fstN xs i) (0, _) ?hh (by assumption) (by omega) Fw Nw (fun _ => rfl) ?hp ?hi ?turn ?done
  case hh => exact rfl
  case hp => walk_at "m_all"
  case hi => rfl
  case turn =>
    clear Fw Nw
    rintro i t ⟨f, tf⟩ u h' tk' own hi hI ho F' N'
    dsimp only at hI F' N' ⊢
    simp only [List.nil_append] at N'
    walk_at "m_steps"
    all_goals walk_at "m_lend2"
    · rename (_ == _) = true => he
      exact (fst_yes (by with_reducible assumption) (eq_of_beq he)).symm
    · rename (_ == _) = false => he
      exact hI.trans (fst_no (by with_reducible assumption) (ne_of_beq_false he)).symm
  case done =>
    clear Fw Nw
    rintro ⟨f, tf⟩ u h' tk' hI F' N'
    dsimp only at hI F' N' ⊢
    simp only [List.nil_append] at N'
    have hf : fstN xs xs.length < xs.length := fstN_lt xs xs.length (fun e => hz2 (List.length_eq_zero_iff.mp e))
    rw [← hI] at hf
    walk_at "m_steps"
    refine Stop.go ?_
    rename Fr _ _ _ _ => Fw
    rename News _ _ _ _ => Nw
    rename (xs[f]? = some y9) => hy9
    have ly9 := len_mem hy9
    refine' while_st (σ := Nat × Tok) (fun c => [(Str.ofString "slashes", .int (c.1 : Int) c.2)]) (fun _ => []) [] (fun c => c.1 ≤ slN y9) (fun c => y9.length - c.1) (0, _) Fw Nw ?hp ?hi ?turn
    case hp => walk_at "m_all"
    case hi => exact Nat.zero_le _
    case turn =>
      clear Fw Nw
      rintro ⟨n, tn⟩ u h' tk' hJ F' N'
      dsimp only at hJ F' N' ⊢
      simp only [List.nil_append] at N'
      have hln := sl_le y9
      walk_at "m_steps"
      · walk_at "m_lend2"
        rename (_ == Str.ofString "/") = true => he
        have hs1 := sl_step hJ (eq_of_beq he)
        exact ⟨hs1, by omega⟩
      refine Stop.go ?_
      rename (_ == Str.ofString "/") = false => he
      have hn : n = slN y9 := sl_stop hJ (ne_of_beq_false he)
      refine cut_str (rtS n) ?_ ?_
      · have cm8 : CutMark := .mk
        walk_at "m_steps"
        · exact IsTxt.mk (rt2 (by with_reducible assumption))
        · exact IsTxt.mk (rt1 (by with_reducible assumption) (by with_reducible assumption))
        · exact IsTxt.mk (rt0 (by with_reducible assumption))
      intro tr tkr
      (try k_fold)
      walk_at "m_steps"
      rename Fr _ _ _ _ => Fw
      refine assign_comp2 (cl := []) (f := fun p => Txt.split p (Str.ofString "/")) rfl Fw rfl ?w1 ?w2 ?w3 ?w4 ?w5 ?w6 ?w7 ?w8 ?w9 ?w10 ?w11 ?w12 ?_
      case w1 => with_unfolding_all rfl
      case w2 => with_unfolding_all rfl
      case w3 => decide
      case w4 => rfl
      case w5 => decide
      case w6 => rfl
      case w7 => rfl
      case w8 => decide
      case w9 => rfl
      case w10 => rfl
      case w11 => intro _; rfl
      case w12 => intro _ _; rfl
      walk_at "m_steps"
      rename Fr _ _ _ _ => Fw
      rename News _ _ _ _ => Nw
      refine ⟨_, _, xs.drop f, _, rfl, Fw, Nw, .inr ⟨_, List.Mem.head _, rfl, _, rfl⟩, strs_drop hxs f, ?_, ?_, ?_, ?_⟩
      · have h1 := pieces_len (xs.drop f)
        have h2 := sumLen_drop xs f
        rw [List.length_drop] at h1
        omega
      · rw [List.length_drop]; omega
      · clear Fw Nw
        rintro s' ⟨h5, tk5, rfl⟩ i z hz t I oI C oC D ys m₂ h tk E' hoC hx F' N'
        have hzl : z.length ≤ 1000 := by
          have := len_mem hz
          have := sumLen_drop xs f
          omega
        walk_at "m_steps"
        exact ⟨_, _, _, _, _, rfl, rfl, by assumption, fun p hp => ‹News _ _ _ ((_, listOf (strValues _).toArray 0) :: _)› p (List.Mem.tail _ hp), News.get (by assumption) (List.Mem.head _), ⟨by k_ne, by k_ne, by k_ne⟩, by assumption⟩
      clear Fw Nw
      intro D h5 tk5 ys F' N' offD hys
      have hyl : ys.length ≤ 2000 := by
        have h1 := pieces_len (xs.drop f)
        have h2 := sumLen_drop xs f
        rw [List.length_drop] at h1
        rw [hys.length]
        omega
      walk_at "m_steps"
      walk_at "m_for"
      walk_at "m_steps"
      refine Stop.go ?_
      rename Fr _ _ _ _ => Fw
      rename News _ _ _ _ => Nw
      have hrv := strs_rev hys
      have hrl := hrv.length
      rw [List.length_reverse] at hrl
      refine' for_list1 (σ := List Value × List Str × Nat × Nat × Tok) (fun c => [(Str.ofString "debt", .int (c.2.2.2.1 : Int) c.2.2.2.2)]) (fun c => listOf c.1.toArray c.2.2.1) []
        (fun i c => StrsAre c.1 c.2.1 ∧ (((xs.drop f).flatMap fun p => Txt.split p (Str.ofString "/")).reverse.take i).foldl strStep ([], 0) = (c.2.1, c.2.2.2.1)) ([], [], 0, 0, _) ?hh (l_isl Nw (by k_mem)) ?hL Fw (news_swap Nw) ?ha ?hp ?hi ?turn ?done
      case hh => exact rfl
      case hL => exact (Nw _ (List.Mem.head _)).2.1
      case ha => k_ne
      case hp => walk_at "m_all"
      case hi => exact ⟨.nil, rfl⟩
      case turn =>
        clear Fw Nw
        rintro i v ⟨kv, ks, kn, dt, dtt⟩ u h' tk' own hv ⟨hI1, hI2⟩ ho F' N'
        obtain ⟨p, tp, rfl, hpz⟩ := hrv.item i v hv
        dsimp only at hI1 hI2 F' N' ⊢
        simp only [List.cons_append, List.nil_append] at N'
        have hst := str_take hpz hI2
        have hkl := hI1.length
        have hb1 := strFold_len ((((xs.drop f).flatMap fun p => Txt.split p (Str.ofString "/")).reverse).take i) ([], 0)
        rw [hI2, List.length_take, ← hrl] at hb1
        simp only [List.length_nil, Nat.zero_add] at hb1
        walk_at "m_steps"
        · refine LEnd.mk2 (kv, ks, kn, dt + 1, _) (by assumption) (by assumption) (by walk_at "m_all") (by walk_at "m_ea") (by walk_at "m_own") (by walk_at "m_off") ⟨hI1, ?_⟩
          exact hst.trans (str_dd (by with_reducible assumption))
        · rename Fr _ _ _ _ => Fz
          rename (dt : Int) ≠ 0 => hd0
          rw [show ((dt : Int) - 1) = ((dt - 1 : Nat) : Int) by omega] at Fz
          refine LEnd.mk2 (kv, ks, kn, dt - 1, _) Fz (by assumption) (by walk_at "m_all") (by walk_at "m_ea") (by walk_at "m_own") (by walk_at "m_off") ⟨hI1, ?_⟩
          exact hst.trans (str_pay (by with_reducible assumption) (by with_reducible assumption) (by with_reducible assumption) hd0)
        · refine LEnd.mk2 (_, ks ++ [p], _, dt, _) (by assumption) (by assumption) (by walk_at "m_all") (by walk_at "m_ea") (by walk_at "m_own") (by walk_at "m_off") ⟨strs_snoc hI1 _ _, ?_⟩
          exact hst.trans (str_keep (by with_reducible assumption) (by with_reducible assumption) (by with_reducible assumption) (by with_reducible assumption))
        · refine LEnd.mk2 (kv, ks, kn, dt, _) (by assumption) (by assumption) (by walk_at "m_all") (by walk_at "m_ea") (by walk_at "m_own") (by walk_at "m_off") ⟨hI1, ?_⟩
          exact hst.trans (str_skip2 (by with_reducible assumption) (by with_reducible assumption))
        · refine LEnd.mk2 (kv, ks, kn, dt, _) (by assumption) (by assumption) (by walk_at "m_all") (by walk_at "m_ea") (by walk_at "m_own") (by walk_at "m_off") ⟨hI1, ?_⟩
          exact hst.trans (str_skip1 (by with_reducible assumption) (by with_reducible assumption))
      case done =>
        clear Fw Nw
        rintro ⟨kv, ks, kn, dt, dtt⟩ u h' tk' ⟨hI1, hI2⟩ F' N'
        dsimp only at hI1 hI2 F' N' ⊢
        have hkl := hI1.length
        have hb1 := strFold_len ((((xs.drop f).flatMap fun p => Txt.split p (Str.ofString "/")).reverse).take ys.reverse.length) ([], 0)
        rw [hI2, List.length_take, ← hrl] at hb1
        simp only [List.length_nil, Nat.zero_add] at hb1
        walk_at "m_steps"
        all_goals walk_at "m_end"
        · rename (rtS n == Str.ofString "") = true => hr0
          rename StrsAre (kv ++ _) _ => hcat
          have hroot : rtS n = sroot xs := by unfold sroot fstS; rw [← hI, getD_of hy9, hn]
          have hsk : skept xs = (ks, dt) := by
            unfold skept piecesS fstS
            rw [← hI, ← hI2, List.take_of_length_le]
            rw [← hrl, List.length_reverse]; exact Nat.le_refl _
          have hsp : spieces xs = (ks ++ List.replicate dt (Str.ofString "..")).reverse := by
            unfold spieces; rw [← hroot, eq_of_beq hr0, if_pos rfl, hsk]
          rw [hsp, ← hroot]
          exact ⟨_, _, _, _, _, rfl, News.fresh (by assumption) (List.Mem.head _), News.get (by assumption) (List.Mem.head _), News.fresh (by assumption) (List.Mem.tail _ (List.Mem.head _)), News.get (by assumption) (List.Mem.tail _ (List.Mem.head _)), strs_rev hcat⟩
        · rename (rtS n == Str.ofString "") = false => hr0
          have hroot : rtS n = sroot xs := by unfold sroot fstS; rw [← hI, getD_of hy9, hn]
          have hsk : skept xs = (ks, dt) := by
            unfold skept piecesS fstS
            rw [← hI, ← hI2, List.take_of_length_le]
            rw [← hrl, List.length_reverse]; exact Nat.le_refl _
          have hsp : spieces xs = ks.reverse := by
            unfold spieces; rw [← hroot, if_neg (ne_of_beq_false hr0), hsk]
          rw [hsp, ← hroot]
          exact ⟨_, _, _, _, _, rfl, News.fresh (by assumption) (List.Mem.head _), News.get (by assumption) (List.Mem.head _), News.fresh (by assumption) (List.Mem.tail _ (List.Mem.head _)), News.get (by assumption) (List.Mem.tail _ (List.Mem.head _)), strs_rev hI1⟩
end
end piece_W15
theorem lay_base_9 : True := by
  k_with_none
  k_with "m_open" => (
    refine Ctr.opened ?_
    intro dp un gd s Q E A₀ base h₀ outer env L m B F X T hf hk hd hu hp ret
    (refine' enter ?k1 ?k2 ?k3 ?k5 ?kA ?kF ?kK ?k6 ?k7 ?k8 ?k9 ?kB ?_ ?c2 ?c3 ?c4 ?c5; (case kA => exact rfl); (case kF => exact hf); (case kK => exact hk); (case k1 => exact B); (case k2 => exact F); (case k3 => exact X); (case k5 => exact T); (case k6 => k_is); (case k7 => k_is); (case k8 => (simp only; omega)); (case k9 => exact BindsTo.of_eq rfl); (case kB => exact locs rfl); (case c2 => exact rfl); (case c3 => exact rfl); (case c4 => exact rfl); (case c5 => decide))
    clear B F X T hf hk
    intro L' h' F' N' B' X' T'
    (try dsimp only)
    (try k_lift B')
    k_fold)
  k_with "m_end" => ((repeat (first | k_unfold | dsimp only)); refine ret _ _ _ (Fr.keep (by assumption)) ?_; (try dsimp only))
  k_with "m_site" => (
    (case k1 => k_asm); (case k2 => k_asm); (case k3 => k_asm); (case k4 => k_asm); (case k5 => k_asm); (case kA => exact rfl); (case kh => exact rfl); (case kf => exact rfl); (case kK => exact rfl)
    (case kd => (first | exact room1 hd rfl | exact room0 hd rfl | exact room1 hdep rfl | exact room0 hdep rfl | ((try simp only [depth_deeper, Around.in1_depth]); omega))); (case ku => (first | exact room1 hu rfl | exact room0 hu rfl | exact room2 hu rfl | exact room1 hun rfl | exact room0 hun rfl | exact room2 hun rfl | ((try simp only [Around.deeper_units, Around.in1_units, Around.mark_units]); omega))))
  k_with "call builtin:issubclass" => (k_here; (with_reducible show wpAny _ _ (call (Value.builtin "issubclass") [Value.type _, Value.ref _]) _ _ _); k_dflt (refine isub_str ?k1 ?_; (case k1 => exact News.get (by assumption) (by news_mem))); intro _)
  k_with "call ref" => (k_here; k_dflt (refine' Ctr.useE (c_fspath _ _ _ _ _ _) ?k1 ?k2 ?k3 ?k4 ?k5 ?kA ?kh ?kf ?kK ?kd ?ku ?kp ?_; walk_at "m_site"); (case kp => trivial); intro h' k' F' N'; (try k_sweep); (try dsimp only); (try k_fold))
  k_with "call ref" => (k_here; k_dflt (refine' Ctr.useV (c_get_sep _ _ _ _ _ _) ?k1 ?k2 ?k3 ?k4 ?k5 ?kA ?kh ?kf ?kK ?kd ?ku ?kp ?_; walk_at "m_site"); (case kp => trivial); intro t9 h' k' F' N'; (try k_sweep); (try dsimp only); (try k_fold))
  k_with "m_steps" => (repeat' (first | (k_unfold; (try dsimp only)) | walk1 | (dsimp only; walk1) | fail "no step"))
  k_with "m_all" => first | exact List.forall_mem_nil _ | (refine List.forall_mem_cons.mpr ⟨by with_unfolding_all rfl, ?_⟩; walk_at "m_all")
  k_with "m_off" => (intro z hz1 hz2; first | with_reducible rfl | ((have hz3 := hz1); (try simp only [List.contains_cons, List.contains_nil, Bool.or_false, Bool.or_eq_false_iff, beq_eq_false_iff_ne, ne_eq] at hz3); (try simp only [List.forall_mem_cons, List.not_mem_nil, false_imp_iff, implies_true, and_true, ne_eq] at hz2); first | (simp only [frM, kstB, hz1, hz2, hz3, if_false, Bool.false_eq_true]; done) | (simp only [frM, kstB, hz1, hz2, if_false, Bool.false_eq_true]; done) | (simp only [frM, kstB, hz1, hz3, if_false, Bool.false_eq_true]; done) | (simp_all [frM, kstB]; done)))
  k_with "LPost" => (dsimp only [LPost])
  k_with "m_for" => (refine Stop.go ?_; (with_unfolding_all refine' For_invVF (by assumption) ?f1 ?f2 ?_); (case f1 => exact rfl); (case f2 => exact rfl))
  k_with "m_own" => (intro p9 hp9; first | exact absurd hp9 List.not_mem_nil | exact hp9 | exact List.Mem.tail _ hp9 | exact List.Mem.tail _ (List.Mem.tail _ hp9) | exact List.Mem.tail _ (List.Mem.tail _ (List.Mem.tail _ hp9)) | ((simp only [List.nil_append, List.append_nil, List.cons_append, List.mem_cons, List.mem_append, List.not_mem_nil, or_false, false_or] at hp9 ⊢); first | exact hp9 | exact Or.inr hp9 | (rcases hp9 with hp9 | hp9 <;> simp [hp9])))
  k_with "m_lend1" => (refine LEnd.mk2 _ (by assumption) (by assumption) (by walk_at "m_all") (by walk_at "m_ea") (by walk_at "m_own") (by walk_at "m_off") ?_; (try dsimp only))
  k_with "m_lend2" => (refine LEnd.mk2 (_, _) (by assumption) (by assumption) (by walk_at "m_all") (by walk_at "m_ea") (by walk_at "m_own") (by walk_at "m_off") ?_; (try dsimp only))
  k_with "m_lend3" => (refine LEnd.mk2 (_, _, _) (by assumption) (by assumption) (by walk_at "m_all") (by walk_at "m_ea") (by walk_at "m_own") (by walk_at "m_off") ?_; (try dsimp only))
  k_with "m_lend4" => (refine LEnd.mk2 (_, _, _, _) (by assumption) (by assumption) (by walk_at "m_all") (by walk_at "m_ea") (by walk_at "m_own") (by walk_at "m_off") ?_; (try dsimp only))
  k_with "m_ea" => first | exact (fun _ h9 => absurd h9 List.not_mem_nil) | (refine List.forall_mem_cons.mpr ⟨by k_mem, ?_⟩; walk_at "m_ea")
  k_with "m_isl" => first | with_reducible assumption | exact l_isl (by with_reducible assumption) (by k_mem) | (refine l_isl (by assumption) (by k_mem)) | assumption
  k_with "m_sz" => first | omega | ((simp only [List.length_append, List.length_cons, List.length_nil, List.length_dropLast, List.length_reverse]); omega)
  k_with "truthy ref" => (k_here; (with_reducible show wpAny _ _ (truthy (Value.ref _)) _ _ _); k_dflt (refine l_truthy (by walk_at "m_isl") (by walk_at "m_sz") ?_))
  k_with "call builtin:list.append" => (k_here; (with_reducible show wpAny _ _ (call (Value.builtin _) [Value.ref _, _]) _ _ _); k_dflt (refine l_append (by assumption) (by assumption) (by k_upd) (by walk_at "m_sz") ?_); intro h' F' N'; (try k_sweep))
  k_with "call builtin:str.join" => (k_here; (with_reducible show wpAny _ _ (call (Value.builtin _) [Value.str _ _, Value.ref _]) _ _ _); k_dflt (refine l_join (by walk_at "m_isl") (by assumption) (by decide) (by omega) ?_); intro t' k')
  k_with "call ref" => (k_here; k_dflt (refine' Ctr.useT3 (c_splitrootP _ _ _ _ _ _) ?k1 ?k2 ?k3 ?k4 ?k5 ?kA ?kh ?kf ?kK ?kd ?ku ?kp ?_; walk_at "m_site"); (case kp => ((try dsimp only); omega)); intro a9 t1 t2 t3 h' k' lt9 F' l1 N'; (try simp only [AllNe, and_true] at l1); (try k_sweep); (try dsimp only); (try k_fold))
  k_with "call ref" => (k_here; k_dflt (refine' Ctr.useT5 (c_splitext1 _ _ _ _ _ _ _ _) ?k1 ?k2 ?k3 ?k4 ?k5 ?kA ?kh ?kf ?kK ?kd ?ku ?kp ?_; walk_at "m_site"); (case kp => ((try dsimp only); omega)); intro a9 b9 c9 t1 t2 h' k' F' l1 N' o4; (try simp only [AllNe, and_true] at l1); (try k_sweep); (try dsimp only); (try k_fold))
  k_with "m_size" => ((try rw [PySem.sizeLine_eq]); omega)
  k_with "call builtin:str.split" => (k_here; (with_reducible show wpAny _ _ (call (Value.builtin "str.split") [Value.str _ _, Value.str _ _]) _ _ _); k_dflt (refine KSpl.split1 (by k_asm) (by k_asm) (by decide) ?_ (by walk_at "m_size")); intro D' l9 h' k' e9 a9 F' N' l1; rw [e9] at a9; (try k_lt l1))
  k_with "m_ne" => first | assumption | exact ne_of_isE (by assumption)
  k_with "subscriptTail Name UnaryOp ref int" => (k_here; k_dflt (refine l_lastS (by walk_at "m_isl") (by walk_at "m_ne") (by assumption) ?_); intro y9 t9 hy9)
  k_with "call builtin:list.pop" => (k_here; (with_reducible show wpAny _ _ (call (Value.builtin _) [Value.ref _]) _ _ _); k_dflt (refine l_popS (by assumption) (by assumption) (by k_upd) (by walk_at "m_ne") (by walk_at "m_sz") ?_); intro v9 h' F' N'; (try k_sweep))
  k_with "call ref" => (k_here; k_dflt (refine' Ctr.useV (c_normpath _ _ _ _ _ _) ?k1 ?k2 ?k3 ?k4 ?k5 ?kA ?kh ?kf ?kK ?kd ?ku ?kp ?_; walk_at "m_site"); (case kp => ((try dsimp only); omega)); intro t9 h' k' F' N'; (try k_sweep); (try dsimp only); (try k_fold))
  k_with "call ref" => (k_here; k_dflt (refine' Ctr.useVP (c_basenameP _ _ _ _ _ _) ?k1 ?k2 ?k3 ?k4 ?k5 ?kA ?kh ?kf ?kK ?kd ?ku ?kp ?_; walk_at "m_site"); (case kp => ((try dsimp only); omega)); intro t9 h' k' lb9 F' N'; (try k_sweep); (try dsimp only); (try k_fold))
  k_with "call ref" => (k_here; k_dflt (refine' Ctr.useVP (c_dirnameP _ _ _ _ _ _) ?k1 ?k2 ?k3 ?k4 ?k5 ?kA ?kh ?kf ?kK ?kd ?ku ?kp ?_; walk_at "m_site"); (case kp => ((try dsimp only); omega)); intro t9 h' k' lb9 F' N'; (try k_sweep); (try dsimp only); (try k_fold))
  k_with "call ref" => (k_here; k_dflt (refine' Ctr.useT2 (c_splitP _ _ _ _ _ _) ?k1 ?k2 ?k3 ?k4 ?k5 ?kA ?kh ?kf ?kK ?kd ?ku ?kp ?_; walk_at "m_site"); (case kp => ((try dsimp only); omega)); intro a9 t1 t2 h' k' lb9 F' l1 N'; (try simp only [AllNe, and_true] at l1); (try k_sweep); (try dsimp only); (try k_fold))
  k_with "m_isl" => exact Fr.lst (by assumption) (by assumption)
  k_with "m_slz" => first | omega | (simp only [List.length_append, List.length_cons, List.length_nil, List.length_dropLast, List.length_reverse, List.length_take, List.length_drop]; omega)
  k_with "call builtin:len" => (k_here; (with_reducible show wpAny _ _ (call (Value.builtin "len") [Value.ref _]) _ _ _); k_dflt (refine l_lenS (by walk_at "m_isl") (by assumption) (by walk_at "m_slz") ?_); intro t9 k9)
  k_with "subscriptTail Name Name ref int" => (k_here; k_dflt (refine l_itemS (by walk_at "m_isl") (by assumption) (by walk_at "m_slz") (by walk_at "m_slz") ?_); intro y9 t9 hy9)
  k_with "subscriptTail Name Slice ref ref" => (k_here; (with_reducible show wpAny _ _ (subscriptTail _ (PySem.Expr.Slice none none (some _) _) (Value.ref _) (Value.ref _)) _ _ _); k_dflt (refine' l_rev (by assumption) (by assumption) (by walk_at "m_isl") (IsPart.int _ _) (by walk_at "m_slz") ?_ (by with_unfolding_all rfl) (by intro _; with_unfolding_all rfl)); intro D' h' F' N' l1; (try k_lt l1); (try k_sweep))
  k_with "m_lend5" => (refine LEnd.mk2 (_, _, _, _, _) (by assumption) (by assumption) (by walk_at "m_all") (by walk_at "m_ea") (by walk_at "m_own") (by walk_at "m_off") ?_; (try dsimp only))
  k_with "call ref" => (k_here; k_dflt (refine' Ctr.useV (c_abspath _ _ _ _ _ _) ?k1 ?k2 ?k3 ?k4 ?k5 ?kA ?kh ?kf ?kK ?kd ?ku ?kp ?_; walk_at "m_site"); (case kp => ((try dsimp only); exact ⟨by omega, by assumption⟩)); intro t9 h' k' F' N'; (try k_sweep); (try dsimp only); (try k_fold))
  k_with "call ref" => (k_here; k_dflt (refine' Ctr.useO (c_number _ _ _ _ _ _) ?k1 ?k2 ?k3 ?k4 ?k5 ?kA ?kh ?kf ?kK ?kd ?ku ?kp ?_ ?_; walk_at "m_site"); (case kp => ((try dsimp only); omega)); (first | intro n9 t9 h' k' o' F' N' | intro h' k' o' F' N'); (try k_sweep); (try dsimp only); (try k_fold))
  trivial
section piece_L24
theorem k_climb {w mean mg mb} {x R : Str} {ns : List Str} {t : Tok} (e : climbS x = (R, ns)) {A A₀ : Around} {base h₀ : Heap} {outer : List Env} {env : Env} {L : Addr} {m : Str → Option Value} {s : Shared} {news : List (Addr × Obj)} {Q E : Value → Shared → Prop}
    (B : Below A₀ base outer h₀) (F : Fr h₀ L s.heap m) (X : Frag.In (hd.heap_1 (World.params w)) h₀) (N : News h₀ L s.heap news)
    (T : Top hd.view_1 (looseW hd.view_1 [Str.ofString "relpath"]) mean mg mb h₀)
    (hA : A.frames = some (env :: outer)) (hh : A.handled = none) (hf : env.frame = some L) (hk : env.scope.kind = .function)
    (hd : A.depth + 3 < recursionLimit) (hu : A.units + 40 < cLine) (hp : x.length ≤ 50000)
    (h : ∀ a b vs t1 h' tk', Fr h₀ L h' m → News h₀ L h' ((a, tupOf [.str R t1, .ref b]) :: (b, listOf (List.toArray vs) 0) :: news) → StrsAre vs ns → Q (.ref a) { s with heap := h', toks := tk' }) : wpAny (model PySem.Challenge.pw_mq0396_01 w) A (call (.ref 246) [.str x t]) Q E s :=
  Ctr.use (c_climb w mean mg mb x t) B F X N T hA hh hf hk hd hu hp fun r h' tk' F' N' _ o => by
    obtain ⟨a, b, vs, t1, rfl, o2, o3, o4, o5, o6⟩ := climb_out e o
    exact h a b vs t1 h' tk' F' (news_add F (news_add F N' o4 o5) o2 o3) o6
theorem k_parts {w mean mg mb} {l : Addr} {vs : List Value} {ns : List Int} (hI : IntsAre vs ns) {A A₀ : Around} {base h₀ : Heap} {outer : List Env} {env : Env} {L : Addr} {m : Str → Option Value} {s : Shared} {news : List (Addr × Obj)} {Q E : Value → Shared → Prop}
    (B : Below A₀ base outer h₀) (F : Fr h₀ L s.heap m) (X : Frag.In (hd.heap_1 (World.params w)) h₀) (N : News h₀ L s.heap news)
    (T : Top hd.view_1 (looseW hd.view_1 [Str.ofString "relpath"]) mean mg mb h₀)
    (hA : A.frames = some (env :: outer)) (hh : A.handled = none) (hf : env.frame = some L) (hk : env.scope.kind = .function)
    (hd : A.depth + 2 < recursionLimit) (hu : A.units + 60 < cLine) (hp : s.heap.IsList l vs.toArray ∧ ns.length ≤ 2 ^ 20)
    (h : ∀ a p t us q n h' tk', Fr h₀ L h' m → AllNe a news → News h₀ L h' ((a, listOf (List.toArray (Value.str p t :: us)) n) :: news) → StrsAre (Value.str p t :: us) (p :: q) → StrsAre us q → PartsOk 24 (p :: q) → (p :: q).length + sumLen (p :: q) ≤ 1000 → (p :: q) ≠ [] → p.length + sumLen q + q.length ≤ 1000 → (joinS p q).length ≤ 2000 → (List.toArray (Value.str p t :: us)).size ≤ sizeLine → Q (.ref a) { s with heap := h', toks := tk' }) : wpAny (model PySem.Challenge.pw_mq0396_01 w) A (call (.ref 213) [.ref l]) Q E s :=
  Ctr.use (c_parts w mean mg mb l vs ns hI) B F X N T hA hh hf hk hd hu hp fun r h' tk' F' N' _ o => by
    obtain ⟨a, p, t, us, q, n, rfl, o2, o3, o4, o40, hPO, hxl, hxs, hxj, hjn, hz0⟩ := parts_out o
    exact h a p t us q n h' tk' F' (allNe_of (news_ne N o2)) (news_add F N' o2 o3) o4 o40 hPO hxl hxs hxj hjn hz0
theorem k_straight {w mean mg mb} {l : Addr} {us : List Value} {p : Str} {q : List Str} (hxs : StrsAre us (p :: q)) (hPO : PartsOk 24 (p :: q)) {A A₀ : Around} {base h₀ : Heap} {outer : List Env} {env : Env} {L : Addr} {m : Str → Option Value} {s : Shared} {news : List (Addr × Obj)} {Q E : Value → Shared → Prop}
    (B : Below A₀ base outer h₀) (F : Fr h₀ L s.heap m) (X : Frag.In (hd.heap_1 (World.params w)) h₀) (N : News h₀ L s.heap news)
    (T : Top hd.view_1 (looseW hd.view_1 [Str.ofString "relpath"]) mean mg mb h₀)
    (hA : A.frames = some (env :: outer)) (hh : A.handled = none) (hf : env.frame = some L) (hk : env.scope.kind = .function)
    (hd : A.depth + 2 < recursionLimit) (hu : A.units + 60 < cLine) (hp : s.heap.IsList l us.toArray ∧ (p :: q).length + sumLen (p :: q) ≤ 1000 ∧ (p :: q) ≠ [])
    (h : ∀ R ps a b vs n t1 h' tk', Fr h₀ L h' m → News h₀ L h' ((a, tupOf [.str R t1, .ref b]) :: (b, listOf (List.toArray vs) n) :: news) → StrsAre vs ps → Path R ps → normS (joinS p q) = pth R (namesOf R ps) → R.length ≤ 2 → vs.length ≤ 241 → Q (.ref a) { s with heap := h', toks := tk' }) : wpAny (model PySem.Challenge.pw_mq0396_01 w) A (call (.ref 218) [.ref l]) Q E s :=
  Ctr.use (c_straight w mean mg mb l us (p :: q) hxs) B F X N T hA hh hf hk hd hu hp fun r h' tk' F' N' _ o => by
    obtain ⟨R, ps, a, b, vs, n, t1, rfl, o2, o3, o4, o5, hpcs, hP, hw, hRl, hvl⟩ := straight_out o hPO
    exact h R ps a b vs n t1 h' tk' F' (news_add F (news_add F N' o4 o5) o2 o3) hpcs hP hw hRl hvl
theorem c_splitrootL (w mean mg mb) (x : Str) (t : Tok) {R T : Str} (e1 : rootS x = R) (e2 : tailS x = T) : Ctr w mean mg mb 2 30 167 [.str x t] (fun _ => x.length ≤ 100000)
    (fun h h' r => True ∧ ∃ a t1 t2 t3, r = .ref a ∧ h.get? a = none ∧ h'.get? a = some (tupOf [.str (Str.ofString "") t1, .str R t2, .str T t3])) := (c_splitroot w mean mg mb x t).mono fun _ _ _ o => ⟨trivial, splitroot_out o e1 e2⟩
theorem c_splitextL (w mean mg mb) {root : Str} {ns : List Str} (t : Tok) (hk : NamesOk root ns) : Ctr w mean mg mb 3 40 157 [.str (pth root ns) t] (fun _ => (pth root ns).length ≤ 100000)
    (fun h h' r => True ∧ ∃ a t1 t2, r = .ref a ∧ h.get? a = none ∧ h'.get? a = some (tupOf [.str (Txt.slice (pth root ns) none (some (cutS (pth root ns) (lastS ns)))) t1, .str (Txt.slice (pth root ns) (some (cutS (pth root ns) (lastS ns))) none) t2])) := (c_splitext w mean mg mb _ t).mono fun _ _ _ o => ⟨trivial, splitext_out o hk⟩
end piece_L24
section piece_W8
section
theorem lay_own_W8_1 : True := by
  k_with "exec While BoolOp cons nil" => (k_here; refine stop_here ?_)
  trivial
set_option maxHeartbeats 4000000 in
theorem c_alike (w mean mg mb) (a b : Addr) (va vb : List Value) (xa xb : List Str) (hsa : StrsAre va xa) (hsb : StrsAre vb xb) : Ctr w mean mg mb 1 20 253 [.ref a, .ref b] (fun h => h.IsList a va.toArray ∧ h.IsList b vb.toArray ∧ xa.length ≤ 50000 ∧ xb.length ≤ 50000) (fun _ _ r => ∃ t', r = .int (alikeS xa xb) t') := by
  walk_at "m_open"
  replace F' : Fr s.heap L' h' (fun y => List.lookup y [(Str.ofString "two", .ref b), (Str.ofString "one", Value.ref a)]) := F'
  obtain ⟨ha, hb, hz1, hz2⟩ := hp
  walk_at "m_steps"
  refine Stop.go ?_
  rename Fr _ _ _ _ => Fw
  rename News _ _ _ _ => Nw
  refine' while_st (σ := Nat × Tok) (fun c => [(Str.ofString "count", .int (c.1 : Int) c.2)]) (fun _ => []) [] (fun c => c.1 ≤ alikeS xa xb) (fun c => xa.length - c.1) (0, _) Fw Nw ?hp ?hi ?turn
  case hp => walk_at "m_all"
  case hi => exact Nat.zero_le _
  case turn =>
    clear Fw Nw
    rintro ⟨n, tn⟩ u h' tk' hI F' N'
    dsimp only at hI F' N' ⊢
    simp only [List.append_nil] at N'
    walk_at "m_steps"
    · walk_at "m_lend2"
      rename (_ == _) = true => he
      have he := eq_of_beq he
      subst he
      exact ⟨alikeS_step _ _ _ _ hI (by assumption) (by assumption), by omega⟩
    all_goals walk_at "m_end"
    all_goals refine ⟨_, congrArg (fun z : Nat => Value.int (z : Int) _) ?_⟩
    · rename (_ == _) = false => he
      exact alikeS_stop _ _ _ _ _ hI (by assumption) (by assumption) (by simpa using he)
    · have := alikeS_le xa xb
      omega
    · have := alikeS_le xa xb
      omega
end
end piece_W8
theorem lay_base_10 : True := by
  k_with_none
  k_with "m_open" => (
    refine Ctr.opened ?_
    intro dp un gd s Q E A₀ base h₀ outer env L m B F X T hf hk hd hu hp ret
    (refine' enter ?k1 ?k2 ?k3 ?k5 ?kA ?kF ?kK ?k6 ?k7 ?k8 ?k9 ?kB ?_ ?c2 ?c3 ?c4 ?c5; (case kA => exact rfl); (case kF => exact hf); (case kK => exact hk); (case k1 => exact B); (case k2 => exact F); (case k3 => exact X); (case k5 => exact T); (case k6 => k_is); (case k7 => k_is); (case k8 => (simp only; omega)); (case k9 => exact BindsTo.of_eq rfl); (case kB => exact locs rfl); (case c2 => exact rfl); (case c3 => exact rfl); (case c4 => exact rfl); (case c5 => decide))
    clear B F X T hf hk
    intro L' h' F' N' B' X' T'
    (try dsimp only)
    (try k_lift B')
    k_fold)
  k_with "m_end" => ((repeat (first | k_unfold | dsimp only)); refine ret _ _ _ (Fr.keep (by assumption)) ?_; (try dsimp only))
  k_with "m_site" => (
    (case k1 => k_asm); (case k2 => k_asm); (case k3 => k_asm); (case k4 => k_asm); (case k5 => k_asm); (case kA => exact rfl); (case kh => exact rfl); (case kf => exact rfl); (case kK => exact rfl)
    (case kd => (first | exact room1 hd rfl | exact room0 hd rfl | exact room1 hdep rfl | exact room0 hdep rfl | ((try simp only [depth_deeper, Around.in1_depth]); omega))); (case ku => (first | exact room1 hu rfl | exact room0 hu rfl | exact room2 hu rfl | exact room1 hun rfl | exact room0 hun rfl | exact room2 hun rfl | ((try simp only [Around.deeper_units, Around.in1_units, Around.mark_units]); omega))))
  k_with "call builtin:issubclass" => (k_here; (with_reducible show wpAny _ _ (call (Value.builtin "issubclass") [Value.type _, Value.ref _]) _ _ _); k_dflt (refine isub_str ?k1 ?_; (case k1 => exact News.get (by assumption) (by news_mem))); intro _)
  k_with "call ref" => (k_here; k_dflt (refine' Ctr.useE (c_fspath _ _ _ _ _ _) ?k1 ?k2 ?k3 ?k4 ?k5 ?kA ?kh ?kf ?kK ?kd ?ku ?kp ?_; walk_at "m_site"); (case kp => trivial); intro h' k' F' N'; (try k_sweep); (try dsimp only); (try k_fold))
  k_with "call ref" => (k_here; k_dflt (refine' Ctr.useV (c_get_sep _ _ _ _ _ _) ?k1 ?k2 ?k3 ?k4 ?k5 ?kA ?kh ?kf ?kK ?kd ?ku ?kp ?_; walk_at "m_site"); (case kp => trivial); intro t9 h' k' F' N'; (try k_sweep); (try dsimp only); (try k_fold))
  k_with "m_steps" => (repeat' (first | (k_unfold; (try dsimp only)) | walk1 | (dsimp only; walk1) | fail "no step"))
  k_with "m_all" => first | exact List.forall_mem_nil _ | (refine List.forall_mem_cons.mpr ⟨by with_unfolding_all rfl, ?_⟩; walk_at "m_all")
  k_with "m_off" => (intro z hz1 hz2; first | with_reducible rfl | ((have hz3 := hz1); (try simp only [List.contains_cons, List.contains_nil, Bool.or_false, Bool.or_eq_false_iff, beq_eq_false_iff_ne, ne_eq] at hz3); (try simp only [List.forall_mem_cons, List.not_mem_nil, false_imp_iff, implies_true, and_true, ne_eq] at hz2); first | (simp only [frM, kstB, hz1, hz2, hz3, if_false, Bool.false_eq_true]; done) | (simp only [frM, kstB, hz1, hz2, if_false, Bool.false_eq_true]; done) | (simp only [frM, kstB, hz1, hz3, if_false, Bool.false_eq_true]; done) | (simp_all [frM, kstB]; done)))
  k_with "LPost" => (dsimp only [LPost])
  k_with "m_for" => (refine Stop.go ?_; (with_unfolding_all refine' For_invVF (by assumption) ?f1 ?f2 ?_); (case f1 => exact rfl); (case f2 => exact rfl))
  k_with "m_own" => (intro p9 hp9; first | exact absurd hp9 List.not_mem_nil | exact hp9 | exact List.Mem.tail _ hp9 | exact List.Mem.tail _ (List.Mem.tail _ hp9) | exact List.Mem.tail _ (List.Mem.tail _ (List.Mem.tail _ hp9)) | ((simp only [List.nil_append, List.append_nil, List.cons_append, List.mem_cons, List.mem_append, List.not_mem_nil, or_false, false_or] at hp9 ⊢); first | exact hp9 | exact Or.inr hp9 | (rcases hp9 with hp9 | hp9 <;> simp [hp9])))
  k_with "m_lend1" => (refine LEnd.mk2 _ (by assumption) (by assumption) (by walk_at "m_all") (by walk_at "m_ea") (by walk_at "m_own") (by walk_at "m_off") ?_; (try dsimp only))
  k_with "m_lend2" => (refine LEnd.mk2 (_, _) (by assumption) (by assumption) (by walk_at "m_all") (by walk_at "m_ea") (by walk_at "m_own") (by walk_at "m_off") ?_; (try dsimp only))
  k_with "m_lend3" => (refine LEnd.mk2 (_, _, _) (by assumption) (by assumption) (by walk_at "m_all") (by walk_at "m_ea") (by walk_at "m_own") (by walk_at "m_off") ?_; (try dsimp only))
  k_with "m_lend4" => (refine LEnd.mk2 (_, _, _, _) (by assumption) (by assumption) (by walk_at "m_all") (by walk_at "m_ea") (by walk_at "m_own") (by walk_at "m_off") ?_; (try dsimp only))
  k_with "m_ea" => first | exact (fun _ h9 => absurd h9 List.not_mem_nil) | (refine List.forall_mem_cons.mpr ⟨by k_mem, ?_⟩; walk_at "m_ea")
  k_with "m_isl" => first | with_reducible assumption | exact l_isl (by with_reducible assumption) (by k_mem) | (refine l_isl (by assumption) (by k_mem)) | assumption
  k_with "m_sz" => first | omega | ((simp only [List.length_append, List.length_cons, List.length_nil, List.length_dropLast, List.length_reverse]); omega)
  k_with "truthy ref" => (k_here; (with_reducible show wpAny _ _ (truthy (Value.ref _)) _ _ _); k_dflt (refine l_truthy (by walk_at "m_isl") (by walk_at "m_sz") ?_))
  k_with "call builtin:list.append" => (k_here; (with_reducible show wpAny _ _ (call (Value.builtin _) [Value.ref _, _]) _ _ _); k_dflt (refine l_append (by assumption) (by assumption) (by k_upd) (by walk_at "m_sz") ?_); intro h' F' N'; (try k_sweep))
  k_with "call builtin:str.join" => (k_here; (with_reducible show wpAny _ _ (call (Value.builtin _) [Value.str _ _, Value.ref _]) _ _ _); k_dflt (refine l_join (by walk_at "m_isl") (by assumption) (by decide) (by omega) ?_); intro t' k')
  k_with "call ref" => (k_here; k_dflt (refine' Ctr.useT3 (c_splitrootP _ _ _ _ _ _) ?k1 ?k2 ?k3 ?k4 ?k5 ?kA ?kh ?kf ?kK ?kd ?ku ?kp ?_; walk_at "m_site"); (case kp => ((try dsimp only); omega)); intro a9 t1 t2 t3 h' k' lt9 F' l1 N'; (try simp only [AllNe, and_true] at l1); (try k_sweep); (try dsimp only); (try k_fold))
  k_with "call ref" => (k_here; k_dflt (refine' Ctr.useT5 (c_splitext1 _ _ _ _ _ _ _ _) ?k1 ?k2 ?k3 ?k4 ?k5 ?kA ?kh ?kf ?kK ?kd ?ku ?kp ?_; walk_at "m_site"); (case kp => ((try dsimp only); omega)); intro a9 b9 c9 t1 t2 h' k' F' l1 N' o4; (try simp only [AllNe, and_true] at l1); (try k_sweep); (try dsimp only); (try k_fold))
  k_with "m_size" => ((try rw [PySem.sizeLine_eq]); omega)
  k_with "call builtin:str.split" => (k_here; (with_reducible show wpAny _ _ (call (Value.builtin "str.split") [Value.str _ _, Value.str _ _]) _ _ _); k_dflt (refine KSpl.split1 (by k_asm) (by k_asm) (by decide) ?_ (by walk_at "m_size")); intro D' l9 h' k' e9 a9 F' N' l1; rw [e9] at a9; (try k_lt l1))
  k_with "m_ne" => first | assumption | exact ne_of_isE (by assumption)
  k_with "subscriptTail Name UnaryOp ref int" => (k_here; k_dflt (refine l_lastS (by walk_at "m_isl") (by walk_at "m_ne") (by assumption) ?_); intro y9 t9 hy9)
  k_with "call builtin:list.pop" => (k_here; (with_reducible show wpAny _ _ (call (Value.builtin _) [Value.ref _]) _ _ _); k_dflt (refine l_popS (by assumption) (by assumption) (by k_upd) (by walk_at "m_ne") (by walk_at "m_sz") ?_); intro v9 h' F' N'; (try k_sweep))
  k_with "call ref" => (k_here; k_dflt (refine' Ctr.useV (c_normpath _ _ _ _ _ _) ?k1 ?k2 ?k3 ?k4 ?k5 ?kA ?kh ?kf ?kK ?kd ?ku ?kp ?_; walk_at "m_site"); (case kp => ((try dsimp only); omega)); intro t9 h' k' F' N'; (try k_sweep); (try dsimp only); (try k_fold))
  k_with "call ref" => (k_here; k_dflt (refine' Ctr.useVP (c_basenameP _ _ _ _ _ _) ?k1 ?k2 ?k3 ?k4 ?k5 ?kA ?kh ?kf ?kK ?kd ?ku ?kp ?_; walk_at "m_site"); (case kp => ((try dsimp only); omega)); intro t9 h' k' lb9 F' N'; (try k_sweep); (try dsimp only); (try k_fold))
  k_with "call ref" => (k_here; k_dflt (refine' Ctr.useVP (c_dirnameP _ _ _ _ _ _) ?k1 ?k2 ?k3 ?k4 ?k5 ?kA ?kh ?kf ?kK ?kd ?ku ?kp ?_; walk_at "m_site"); (case kp => ((try dsimp only); omega)); intro t9 h' k' lb9 F' N'; (try k_sweep); (try dsimp only); (try k_fold))
  k_with "call ref" => (k_here; k_dflt (refine' Ctr.useT2 (c_splitP _ _ _ _ _ _) ?k1 ?k2 ?k3 ?k4 ?k5 ?kA ?kh ?kf ?kK ?kd ?ku ?kp ?_; walk_at "m_site"); (case kp => ((try dsimp only); omega)); intro a9 t1 t2 h' k' lb9 F' l1 N'; (try simp only [AllNe, and_true] at l1); (try k_sweep); (try dsimp only); (try k_fold))
  k_with "m_isl" => exact Fr.lst (by assumption) (by assumption)
  k_with "m_slz" => first | omega | (simp only [List.length_append, List.length_cons, List.length_nil, List.length_dropLast, List.length_reverse, List.length_take, List.length_drop]; omega)
  k_with "call builtin:len" => (k_here; (with_reducible show wpAny _ _ (call (Value.builtin "len") [Value.ref _]) _ _ _); k_dflt (refine l_lenS (by walk_at "m_isl") (by assumption) (by walk_at "m_slz") ?_); intro t9 k9)
  k_with "subscriptTail Name Name ref int" => (k_here; k_dflt (refine l_itemS (by walk_at "m_isl") (by assumption) (by walk_at "m_slz") (by walk_at "m_slz") ?_); intro y9 t9 hy9)
  k_with "subscriptTail Name Slice ref ref" => (k_here; (with_reducible show wpAny _ _ (subscriptTail _ (PySem.Expr.Slice none none (some _) _) (Value.ref _) (Value.ref _)) _ _ _); k_dflt (refine' l_rev (by assumption) (by assumption) (by walk_at "m_isl") (IsPart.int _ _) (by walk_at "m_slz") ?_ (by with_unfolding_all rfl) (by intro _; with_unfolding_all rfl)); intro D' h' F' N' l1; (try k_lt l1); (try k_sweep))
  k_with "m_lend5" => (refine LEnd.mk2 (_, _, _, _, _) (by assumption) (by assumption) (by walk_at "m_all") (by walk_at "m_ea") (by walk_at "m_own") (by walk_at "m_off") ?_; (try dsimp only))
  k_with "call ref" => (k_here; k_dflt (refine' Ctr.useV (c_abspath _ _ _ _ _ _) ?k1 ?k2 ?k3 ?k4 ?k5 ?kA ?kh ?kf ?kK ?kd ?ku ?kp ?_; walk_at "m_site"); (case kp => ((try dsimp only); exact ⟨by omega, by assumption⟩)); intro t9 h' k' F' N'; (try k_sweep); (try dsimp only); (try k_fold))
  k_with "call ref" => (k_here; k_dflt (refine' Ctr.useO (c_number _ _ _ _ _ _) ?k1 ?k2 ?k3 ?k4 ?k5 ?kA ?kh ?kf ?kK ?kd ?ku ?kp ?_ ?_; walk_at "m_site"); (case kp => ((try dsimp only); omega)); (first | intro n9 t9 h' k' o' F' N' | intro h' k' o' F' N'); (try k_sweep); (try dsimp only); (try k_fold))
  trivial
section piece_W10
set_option maxHeartbeats 4000000 in
theorem c_place (w mean mg mb) (x : Str) (t : Tok) : Ctr w mean mg mb 2 40 232 [.str x t] (fun _ => x.length ≤ 1000) (fun h h' r => PlaceIs h h' r (placeS x)) := by
  walk_at "m_open"
  replace F' : Fr s.heap L' h' (fun y => List.lookup y [(Str.ofString "name", Value.str x t)]) := F'
  walk_at "m_steps"
  all_goals walk_at "m_end"
  · rw [place_none1 (by with_reducible assumption)]; exact ⟨_, rfl⟩
  · rw [place_none2 (by with_reducible assumption)]; exact ⟨_, rfl⟩
  · rw [place_none2 (by with_reducible assumption)]; exact ⟨_, rfl⟩
  · rw [place_none3 (by with_reducible assumption)]; exact ⟨_, rfl⟩
  · rw [place_some (by with_reducible assumption) (by with_reducible assumption) (by with_reducible assumption)]
    exact ⟨_, _, _, rfl, News.fresh (by assumption) (List.Mem.head _), (News.get (by assumption) (List.Mem.head _)).trans rfl⟩
end piece_W10
section piece_W11
section
noncomputable def readS (x : Str) : Option (Int × Int) := readL (Txt.split x (Str.ofString "."))
theorem lay_own_W11_1 : True := by
  k_with "m_openX" => (
    (refine' enter ?k1 ?k2 ?k3 ?k5 ?kA ?kF ?kK ?k6 ?k7 ?k8 ?k9 ?kB ?_ ?c2 ?c3 ?c4 ?c5; (case kA => exact rfl); (case kF => exact hf); (case kK => exact hk); (case k1 => exact B); (case k2 => exact F); (case k3 => exact X); (case k5 => exact T); (case k6 => k_is); (case k7 => k_is); (case k8 => (simp only; omega)); (case k9 => exact BindsTo.of_eq rfl); (case kB => exact locs rfl); (case c2 => exact rfl); (case c3 => exact rfl); (case c4 => exact rfl); (case c5 => decide))
    intro L' h' F' N' B' X' T'
    (try dsimp only)
    (try k_lift B')
    k_fold)
  trivial
theorem split_dots (x : Str) : (∀ y ∈ Txt.split x (Str.ofString "."), (∀ c ∈ cl y, c ∈ cl x) ∧ y.length ≤ x.length) := by
  intro y hy
  have h := StrLaws.join_split x (Str.ofString ".")
  have key : ∀ (ys : List Str), y ∈ ys → (∀ c ∈ cl y, c ∈ cl (PySem.Str.join (Str.ofString ".") ys)) ∧ y.length ≤ (PySem.Str.join (Str.ofString ".") ys).length := by
    intro ys
    induction ys with
    | nil => intro h; cases h
    | cons a r ih =>
      intro hm
      cases r with
      | nil =>
        rw [List.mem_singleton.mp hm]
        exact ⟨fun c hc => hc, Nat.le_refl _⟩
      | cons b r =>
        have e : PySem.Str.join (Str.ofString ".") (a :: b :: r) = a ++ Str.ofString "." ++ PySem.Str.join (Str.ofString ".") (b :: r) := rfl
        rw [e, cl_app, cl_app, len_append, len_append]
        rcases List.mem_cons.mp hm with rfl | hm
        · exact ⟨fun c hc => List.mem_append_left _ (List.mem_append_left _ hc), by omega⟩
        · obtain ⟨h1, h2⟩ := ih hm
          exact ⟨fun c hc => List.mem_append_right _ (h1 c hc), by omega⟩
  have k := key _ hy
  rw [h] at k
  exact k
theorem l_map {prog : Program} {w : World} {A : Around} {E : Value → Shared → Prop} {s : Shared} {h₀ : Heap} {L l : Addr} {m : Str → Option Value} {xs : Array Value} {f : Value} {Q : Value → Shared → Prop}
    (F : Fr h₀ L s.heap m) (hl : s.heap.IsList l xs)
    (h : ∀ M T I h', Fr h₀ L h' m → MapAt h' M T I l f xs 0 → I ≠ L → h₀.get? I = none → Q (.ref M) { s with heap := h' }) :
    wpAny (model prog w) A (call (.type "map") [f, .ref l]) Q E s := by
  refine call_map hl ?_
  have z1 : (mapH1 s.heap l).objs.size = s.heap.objs.size + 1 := Heap.size_push ..
  have z2 : (mapH2 s.heap l).objs.size = s.heap.objs.size + 2 := by rw [Heap.size_push, z1]
  have g3 : (mapH3 s.heap l f).get? (mapH2 s.heap l).objs.size = some _ := Heap.get?_push_size _ rfl
  have g2 : (mapH3 s.heap l f).get? (mapH1 s.heap l).objs.size = some _ := Heap.get?_push_of_some _ (Heap.get?_push_size _ rfl)
  have g1 : (mapH3 s.heap l f).get? s.heap.objs.size = some _ := Heap.get?_push_of_some _ (Heap.get?_push_of_some _ (Heap.get?_push_size _ rfl))
  have hlt : l < s.heap.objs.size := by obtain ⟨_, e, _⟩ := hl; exact Heap.lt_size e
  rw [z2, z1] at g3
  rw [z1] at g2
  refine h _ (s.heap.objs.size + 1) s.heap.objs.size _ ((F.push _).push _ |>.push _) ⟨g3, g2, ⟨_, g1, rfl, rfl⟩, hl.push _ |>.push _ |>.push _, ?_, ?_, Nat.ne_of_gt hlt⟩ (Nat.ne_of_gt F.ns.lt) (next_is_new F)
  · exact Nat.ne_of_lt (Nat.lt_add_of_pos_right (by decide))
  · exact Nat.ne_of_lt (Nat.lt_add_of_pos_right (by decide))
theorem lay_own_W11_2 : True := by
  k_with "call type:map" => (k_here; refine stop_here ?_)
  trivial
set_option maxHeartbeats 4000000 in
theorem c_glc (w mean mg mb) (x : Str) (t : Tok) (A : Around) (s : Shared) (Q E : Value → Shared → Prop) (A₀ : Around) (base h₀ : Heap) (outer : List Env) (env : Env) (L : Addr) (m : Str → Option Value)
    (B : Below A₀ base outer h₀) (F : Fr h₀ L s.heap m) (X : Frag.In (hd.heap_1 (World.params w)) h₀) (T : Top hd.view_1 (looseW hd.view_1 [Str.ofString "relpath"]) mean mg mb h₀)
    (hA : A.frames = some (env :: outer)) (hh : A.handled = none) (hf : env.frame = some L) (hk : env.scope.kind = .function)
    (hd : A.depth + 2 < recursionLimit) (hu : A.units + 40 < cLine) (hal : Al x) (hx : x.length ≤ 640)
    (ret : ∀ p q, readS x = some (p, q) → ∀ a t1 t2 h' tk', Ext s.heap h' → s.heap.get? a = none → h'.get? a = some (tupOf [.int p t1, .int q t2]) → Q (.ref a) { s with heap := h', toks := tk' })
    (bad : readS x = none → ∀ e h' tk', RaisedSN base s.heap (env :: outer) e (.type "ValueError") [] h' → s.heap.UpToSlots h' → E (.ref e) { s with heap := h', toks := tk' }) :
    wpAny (model PySem.Challenge.pw_mq0396_01 w) A (call (.ref 35) [.str x t]) Q E s := by
  obtain ⟨hdl, dp, fr, gd, un⟩ := A
  simp only at hA hh hd hu
  subst hA hh
  walk_at "m_openX"
  replace F' : Fr s.heap L' h' (fun y => List.lookup y [(Str.ofString "index", Value.str x t)]) := F'
  have hsp : (∀ y ∈ Txt.split x (Str.ofString "."), Al y ∧ y.length ≤ 640) := fun y hy => ⟨fun c hc => hal c ((split_dots x y hy).1 c hc), Nat.le_trans (split_dots x y hy).2 hx⟩
  walk_at "m_steps"
  refine Stop.go ?_
  rename Fr _ _ _ _ => Fw
  rename News _ _ _ _ => Nw
  rename StrsAre _ _ => hi
  refine l_map Fw (l_isl Nw (List.Mem.head _)) ?_
  intro M TT I h1 F1 x1 hIL hI0
  refine wpAny_bind (wpAny_standAt ?_)
  refine wpAny_bind (wpAny_holding (unpack_map rfl x1 hi hsp ?_ ?_))
  · intro p q hr h2 t1 t2 tk2 k2
    have F2 : Fr s.heap L' h2 _ := LCg.fr_but F1 (fun b o hb e => k2 b o (by simpa using hb) e) hIL.symm hI0
    have N2 : News s.heap L' h2 [] := News.nil
    clear F1 x1 Fw Nw
    walk_at "m_steps"
    (repeat (first | k_unfold | dsimp only))
    refine ret p q hr _ _ _ _ _ (Fr.keep (by assumption)) (News.fresh (by assumption) (List.Mem.head _)) ((News.get (by assumption) (List.Mem.head _)).trans rfl)
  · intro hr h1' h2 tk2 e k2 hne
    have F2 : Fr s.heap L' h1' _ := LCg.fr_but F1 (fun b o hb e => k2 b o (by simpa using hb) e) hIL.symm hI0
    (repeat (first | k_unfold | dsimp only))
    refine leave_newS (by assumption) hne F2 News.nil ?_
    intro h3 R _ U
    exact bad hr e h3 _ R U
end
end piece_W11
theorem lay_base_11 : True := by
  k_with_none
  k_with "m_open" => (
    refine Ctr.opened ?_
    intro dp un gd s Q E A₀ base h₀ outer env L m B F X T hf hk hd hu hp ret
    (refine' enter ?k1 ?k2 ?k3 ?k5 ?kA ?kF ?kK ?k6 ?k7 ?k8 ?k9 ?kB ?_ ?c2 ?c3 ?c4 ?c5; (case kA => exact rfl); (case kF => exact hf); (case kK => exact hk); (case k1 => exact B); (case k2 => exact F); (case k3 => exact X); (case k5 => exact T); (case k6 => k_is); (case k7 => k_is); (case k8 => (simp only; omega)); (case k9 => exact BindsTo.of_eq rfl); (case kB => exact locs rfl); (case c2 => exact rfl); (case c3 => exact rfl); (case c4 => exact rfl); (case c5 => decide))
    clear B F X T hf hk
    intro L' h' F' N' B' X' T'
    (try dsimp only)
    (try k_lift B')
    k_fold)
  k_with "m_end" => ((repeat (first | k_unfold | dsimp only)); refine ret _ _ _ (Fr.keep (by assumption)) ?_; (try dsimp only))
  k_with "m_site" => (
    (case k1 => k_asm); (case k2 => k_asm); (case k3 => k_asm); (case k4 => k_asm); (case k5 => k_asm); (case kA => exact rfl); (case kh => exact rfl); (case kf => exact rfl); (case kK => exact rfl)
    (case kd => (first | exact room1 hd rfl | exact room0 hd rfl | exact room1 hdep rfl | exact room0 hdep rfl | ((try simp only [depth_deeper, Around.in1_depth]); omega))); (case ku => (first | exact room1 hu rfl | exact room0 hu rfl | exact room2 hu rfl | exact room1 hun rfl | exact room0 hun rfl | exact room2 hun rfl | ((try simp only [Around.deeper_units, Around.in1_units, Around.mark_units]); omega))))
  k_with "call builtin:issubclass" => (k_here; (with_reducible show wpAny _ _ (call (Value.builtin "issubclass") [Value.type _, Value.ref _]) _ _ _); k_dflt (refine isub_str ?k1 ?_; (case k1 => exact News.get (by assumption) (by news_mem))); intro _)
  k_with "call ref" => (k_here; k_dflt (refine' Ctr.useE (c_fspath _ _ _ _ _ _) ?k1 ?k2 ?k3 ?k4 ?k5 ?kA ?kh ?kf ?kK ?kd ?ku ?kp ?_; walk_at "m_site"); (case kp => trivial); intro h' k' F' N'; (try k_sweep); (try dsimp only); (try k_fold))
  k_with "call ref" => (k_here; k_dflt (refine' Ctr.useV (c_get_sep _ _ _ _ _ _) ?k1 ?k2 ?k3 ?k4 ?k5 ?kA ?kh ?kf ?kK ?kd ?ku ?kp ?_; walk_at "m_site"); (case kp => trivial); intro t9 h' k' F' N'; (try k_sweep); (try dsimp only); (try k_fold))
  k_with "m_steps" => (repeat' (first | (k_unfold; (try dsimp only)) | walk1 | (dsimp only; walk1) | fail "no step"))
  k_with "m_all" => first | exact List.forall_mem_nil _ | (refine List.forall_mem_cons.mpr ⟨by with_unfolding_all rfl, ?_⟩; walk_at "m_all")
  k_with "m_off" => (intro z hz1 hz2; first | with_reducible rfl | ((have hz3 := hz1); (try simp only [List.contains_cons, List.contains_nil, Bool.or_false, Bool.or_eq_false_iff, beq_eq_false_iff_ne, ne_eq] at hz3); (try simp only [List.forall_mem_cons, List.not_mem_nil, false_imp_iff, implies_true, and_true, ne_eq] at hz2); first | (simp only [frM, kstB, hz1, hz2, hz3, if_false, Bool.false_eq_true]; done) | (simp only [frM, kstB, hz1, hz2, if_false, Bool.false_eq_true]; done) | (simp only [frM, kstB, hz1, hz3, if_false, Bool.false_eq_true]; done) | (simp_all [frM, kstB]; done)))
  k_with "LPost" => (dsimp only [LPost])
  k_with "m_for" => (refine Stop.go ?_; (with_unfolding_all refine' For_invVF (by assumption) ?f1 ?f2 ?_); (case f1 => exact rfl); (case f2 => exact rfl))
  k_with "m_own" => (intro p9 hp9; first | exact absurd hp9 List.not_mem_nil | exact hp9 | exact List.Mem.tail _ hp9 | exact List.Mem.tail _ (List.Mem.tail _ hp9) | exact List.Mem.tail _ (List.Mem.tail _ (List.Mem.tail _ hp9)) | ((simp only [List.nil_append, List.append_nil, List.cons_append, List.mem_cons, List.mem_append, List.not_mem_nil, or_false, false_or] at hp9 ⊢); first | exact hp9 | exact Or.inr hp9 | (rcases hp9 with hp9 | hp9 <;> simp [hp9])))
  k_with "m_lend1" => (refine LEnd.mk2 _ (by assumption) (by assumption) (by walk_at "m_all") (by walk_at "m_ea") (by walk_at "m_own") (by walk_at "m_off") ?_; (try dsimp only))
  k_with "m_lend2" => (refine LEnd.mk2 (_, _) (by assumption) (by assumption) (by walk_at "m_all") (by walk_at "m_ea") (by walk_at "m_own") (by walk_at "m_off") ?_; (try dsimp only))
  k_with "m_lend3" => (refine LEnd.mk2 (_, _, _) (by assumption) (by assumption) (by walk_at "m_all") (by walk_at "m_ea") (by walk_at "m_own") (by walk_at "m_off") ?_; (try dsimp only))
  k_with "m_lend4" => (refine LEnd.mk2 (_, _, _, _) (by assumption) (by assumption) (by walk_at "m_all") (by walk_at "m_ea") (by walk_at "m_own") (by walk_at "m_off") ?_; (try dsimp only))
  k_with "m_ea" => first | exact (fun _ h9 => absurd h9 List.not_mem_nil) | (refine List.forall_mem_cons.mpr ⟨by k_mem, ?_⟩; walk_at "m_ea")
  k_with "m_isl" => first | with_reducible assumption | exact l_isl (by with_reducible assumption) (by k_mem) | (refine l_isl (by assumption) (by k_mem)) | assumption
  k_with "m_sz" => first | omega | ((simp only [List.length_append, List.length_cons, List.length_nil, List.length_dropLast, List.length_reverse]); omega)
  k_with "truthy ref" => (k_here; (with_reducible show wpAny _ _ (truthy (Value.ref _)) _ _ _); k_dflt (refine l_truthy (by walk_at "m_isl") (by walk_at "m_sz") ?_))
  k_with "call builtin:list.append" => (k_here; (with_reducible show wpAny _ _ (call (Value.builtin _) [Value.ref _, _]) _ _ _); k_dflt (refine l_append (by assumption) (by assumption) (by k_upd) (by walk_at "m_sz") ?_); intro h' F' N'; (try k_sweep))
  k_with "call builtin:str.join" => (k_here; (with_reducible show wpAny _ _ (call (Value.builtin _) [Value.str _ _, Value.ref _]) _ _ _); k_dflt (refine l_join (by walk_at "m_isl") (by assumption) (by decide) (by omega) ?_); intro t' k')
  k_with "call ref" => (k_here; k_dflt (refine' Ctr.useT3 (c_splitrootP _ _ _ _ _ _) ?k1 ?k2 ?k3 ?k4 ?k5 ?kA ?kh ?kf ?kK ?kd ?ku ?kp ?_; walk_at "m_site"); (case kp => ((try dsimp only); omega)); intro a9 t1 t2 t3 h' k' lt9 F' l1 N'; (try simp only [AllNe, and_true] at l1); (try k_sweep); (try dsimp only); (try k_fold))
  k_with "call ref" => (k_here; k_dflt (refine' Ctr.useT5 (c_splitext1 _ _ _ _ _ _ _ _) ?k1 ?k2 ?k3 ?k4 ?k5 ?kA ?kh ?kf ?kK ?kd ?ku ?kp ?_; walk_at "m_site"); (case kp => ((try dsimp only); omega)); intro a9 b9 c9 t1 t2 h' k' F' l1 N' o4; (try simp only [AllNe, and_true] at l1); (try k_sweep); (try dsimp only); (try k_fold))
  k_with "m_size" => ((try rw [PySem.sizeLine_eq]); omega)
  k_with "call builtin:str.split" => (k_here; (with_reducible show wpAny _ _ (call (Value.builtin "str.split") [Value.str _ _, Value.str _ _]) _ _ _); k_dflt (refine KSpl.split1 (by k_asm) (by k_asm) (by decide) ?_ (by walk_at "m_size")); intro D' l9 h' k' e9 a9 F' N' l1; rw [e9] at a9; (try k_lt l1))
  k_with "m_ne" => first | assumption | exact ne_of_isE (by assumption)
  k_with "subscriptTail Name UnaryOp ref int" => (k_here; k_dflt (refine l_lastS (by walk_at "m_isl") (by walk_at "m_ne") (by assumption) ?_); intro y9 t9 hy9)
  k_with "call builtin:list.pop" => (k_here; (with_reducible show wpAny _ _ (call (Value.builtin _) [Value.ref _]) _ _ _); k_dflt (refine l_popS (by assumption) (by assumption) (by k_upd) (by walk_at "m_ne") (by walk_at "m_sz") ?_); intro v9 h' F' N'; (try k_sweep))
  k_with "call ref" => (k_here; k_dflt (refine' Ctr.useV (c_normpath _ _ _ _ _ _) ?k1 ?k2 ?k3 ?k4 ?k5 ?kA ?kh ?kf ?kK ?kd ?ku ?kp ?_; walk_at "m_site"); (case kp => ((try dsimp only); omega)); intro t9 h' k' F' N'; (try k_sweep); (try dsimp only); (try k_fold))
  k_with "call ref" => (k_here; k_dflt (refine' Ctr.useVP (c_basenameP _ _ _ _ _ _) ?k1 ?k2 ?k3 ?k4 ?k5 ?kA ?kh ?kf ?kK ?kd ?ku ?kp ?_; walk_at "m_site"); (case kp => ((try dsimp only); omega)); intro t9 h' k' lb9 F' N'; (try k_sweep); (try dsimp only); (try k_fold))
  k_with "call ref" => (k_here; k_dflt (refine' Ctr.useVP (c_dirnameP _ _ _ _ _ _) ?k1 ?k2 ?k3 ?k4 ?k5 ?kA ?kh ?kf ?kK ?kd ?ku ?kp ?_; walk_at "m_site"); (case kp => ((try dsimp only); omega)); intro t9 h' k' lb9 F' N'; (try k_sweep); (try dsimp only); (try k_fold))
  k_with "call ref" => (k_here; k_dflt (refine' Ctr.useT2 (c_splitP _ _ _ _ _ _) ?k1 ?k2 ?k3 ?k4 ?k5 ?kA ?kh ?kf ?kK ?kd ?ku ?kp ?_; walk_at "m_site"); (case kp => ((try dsimp only); omega)); intro a9 t1 t2 h' k' lb9 F' l1 N'; (try simp only [AllNe, and_true] at l1); (try k_sweep); (try dsimp only); (try k_fold))
  k_with "m_isl" => exact Fr.lst (by assumption) (by assumption)
  k_with "m_slz" => first | omega | (simp only [List.length_append, List.length_cons, List.length_nil, List.length_dropLast, List.length_reverse, List.length_take, List.length_drop]; omega)
  k_with "call builtin:len" => (k_here; (with_reducible show wpAny _ _ (call (Value.builtin "len") [Value.ref _]) _ _ _); k_dflt (refine l_lenS (by walk_at "m_isl") (by assumption) (by walk_at "m_slz") ?_); intro t9 k9)
  k_with "subscriptTail Name Name ref int" => (k_here; k_dflt (refine l_itemS (by walk_at "m_isl") (by assumption) (by walk_at "m_slz") (by walk_at "m_slz") ?_); intro y9 t9 hy9)
  k_with "subscriptTail Name Slice ref ref" => (k_here; (with_reducible show wpAny _ _ (subscriptTail _ (PySem.Expr.Slice none none (some _) _) (Value.ref _) (Value.ref _)) _ _ _); k_dflt (refine' l_rev (by assumption) (by assumption) (by walk_at "m_isl") (IsPart.int _ _) (by walk_at "m_slz") ?_ (by with_unfolding_all rfl) (by intro _; with_unfolding_all rfl)); intro D' h' F' N' l1; (try k_lt l1); (try k_sweep))
  k_with "m_lend5" => (refine LEnd.mk2 (_, _, _, _, _) (by assumption) (by assumption) (by walk_at "m_all") (by walk_at "m_ea") (by walk_at "m_own") (by walk_at "m_off") ?_; (try dsimp only))
  k_with "call ref" => (k_here; k_dflt (refine' Ctr.useV (c_abspath _ _ _ _ _ _) ?k1 ?k2 ?k3 ?k4 ?k5 ?kA ?kh ?kf ?kK ?kd ?ku ?kp ?_; walk_at "m_site"); (case kp => ((try dsimp only); exact ⟨by omega, by assumption⟩)); intro t9 h' k' F' N'; (try k_sweep); (try dsimp only); (try k_fold))
  k_with "call ref" => (k_here; k_dflt (refine' Ctr.useO (c_number _ _ _ _ _ _) ?k1 ?k2 ?k3 ?k4 ?k5 ?kA ?kh ?kf ?kK ?kd ?ku ?kp ?_ ?_; walk_at "m_site"); (case kp => ((try dsimp only); omega)); (first | intro n9 t9 h' k' o' F' N' | intro h' k' o' F' N'); (try k_sweep); (try dsimp only); (try k_fold))
  trivial
section piece_W12
section
theorem lay_own_W12_1 : True := by
  k_with "exec For Tuple Call cons nil" => (k_here; refine stop_here ?_)
  k_with "pyIter ref" => (k_here; refine stop_here ?_)
  k_with "call type:enumerate" => (k_here; k_dflt (refine call_enum_list rfl hl1 (StrsAre.areOf hx1) (by assumption) (by assumption) ?_); intro h' e9 F' N' S')
  k_with "call builtin:isinstance" => (k_here; (with_reducible show wpAny _ _ (call (Value.builtin "isinstance") [Value.ref _, Value.ref _]) _ _ _); k_dflt (refine isi_lt (by walk_at "m_isl") (News.get (by assumption) (List.Mem.head _)) ?_); intro _)
  k_with "call builtin:min" => (k_here; k_dflt (refine min_ll rfl (by assumption) (by assumption) (Fr.lst (by assumption) hml) (Fr.lst (by assumption) ha) (Fr.lst (by assumption) hb) hsa hsb (by simp only [Around.in1_units, Around.deeper_units, Around.mark_units]; omega) ?_); rw [hp1]; intro h' tk9 F' N'; (try dsimp only); (try k_fold))
  k_with "call builtin:max" => (k_here; k_dflt (refine max_ll rfl (by assumption) (by assumption) (Fr.lst (by assumption) hml) (Fr.lst (by assumption) ha) (Fr.lst (by assumption) hb) hsa hsb (by simp only [Around.in1_units, Around.deeper_units, Around.mark_units]; omega) ?_); rw [hp2]; intro h' tk9 F' N'; (try dsimp only); (try k_fold))
  k_with "subscriptTail Name Slice ref ref" => (k_here; (with_reducible show wpAny _ _ (subscriptTail _ (PySem.Expr.Slice none (some _) none _) (Value.ref _) (Value.ref _)) _ _ _); k_dflt (refine' l_to (by assumption) (by assumption) (Fr.lst (by assumption) hl1) (IsPart.int _ _) (by walk_at "m_slz") (by walk_at "m_slz") ?_ (by with_unfolding_all rfl) (by intro _; with_unfolding_all rfl)); intro D' h' F' N' l1; (try k_lt l1); (try k_sweep))
  trivial
set_option maxHeartbeats 4000000 in
theorem c_commonprefix (w mean mg mb) (ml a b : Addr) (n : Nat) (va vb : List Value) (xa xb : List Str) (hsa : StrsAre va xa) (hsb : StrsAre vb xb) : Ctr w mean mg mb 2 60 115 [.ref ml]
    (fun h => h.get? ml = some (listOf #[.ref a, .ref b] n) ∧ h.IsList a va.toArray ∧ h.IsList b vb.toArray ∧ xa.length ≤ 50000 ∧ xa.length = xb.length) (fun h h' r => ∃ (p : Addr) (vs : List Value), r = .ref p ∧ h'.IsList p vs.toArray ∧ vs.length = alikeS xa xb) := by
  walk_at "m_open"
  replace F' : Fr s.heap L' h' (fun y => List.lookup y [(Str.ofString "m", .ref ml)]) := F'
  obtain ⟨hm, ha, hb, hz1, hz2⟩ := hp
  have hml : s.heap.IsList ml [Value.ref a, Value.ref b].toArray := ⟨_, hm, rfl, _, rfl⟩
  obtain ⟨p1, p2, v1, v2, x1, x2, hp1, hp2, hl1, hl2, hx1, hx2, hn1, hn2, hal⟩ := two_sorted ha hb hsa hsb hz2
  walk_at "m_steps"
  · refine Stop.go ?_
    rename Fr _ _ _ _ => Fw
    refine For_pair3F Fw rfl rfl rfl rfl ?_ (fun _ => rfl)
    walk_at "m_steps"
    refine Stop.go ?_
    rename PairSrcL _ _ _ _ _ _ _ _ _ _ _ _ => S9
    have hl2' := hx2.length
    refine Pair_leave (pz := fun c i => decide (x2[i]? ≠ some c)) (S9.at _ rfl) rfl ?g1 ?g2 ?g3
    case g1 =>
      rintro i c t v ⟨h1, g1, d1, k1, o1⟩ own hc hk F1 N1
      obtain ⟨u, rfl⟩ := ItemKind.str_is hk
      have hil : i < x2.length := by
        have := (List.getElem?_eq_some_iff.mp hc).1
        omega
      refine wpAny_mono (Q := fun b s₄ => TestIs (decide (x2[i]? ≠ some c)) ⟨h1, g1, d1, k1, o1⟩ b s₄) ?_ (fun _ _ h => h) (fun _ _ h => h)
      walk_at "m_steps"
      rename x2[i]? = some _ => hy
      refine TestIs.mk (tk := k1) ?_
      rw [hy]
      exact (bne_dec _ _)
    case g2 =>
      intro i c t v own h4 tk4 hc hp hfi hk F1 N1
      obtain ⟨u, rfl⟩ := ItemKind.str_is hk
      have hil : i < x1.length := (List.getElem?_eq_some_iff.mp hc).1
      have hl1' := hx1.length
      walk_at "m_steps"
      walk_at "m_end"
      exact ⟨_, _, rfl, ⟨_, News.get (by assumption) (List.Mem.head _), rfl, _, rfl⟩, by rw [← hal, alike_find (hn1.trans hn2.symm) hc hfi, List.length_take]; omega⟩
    case g3 =>
      intro h' tk' vi vl F1 N1 hall
      walk_at "m_steps"
      walk_at "m_end"
      exact ⟨_, _, rfl, Fr.lst (by assumption) hl1, by rw [← hal, alike_all hall]; exact hx1.length⟩
  · rename ¬ _ => hne
    exact absurd (List.cons_ne_nil _ _) hne
end
end piece_W12
theorem lay_base_12 : True := by
  k_with_none
  k_with "m_open" => (
    refine Ctr.opened ?_
    intro dp un gd s Q E A₀ base h₀ outer env L m B F X T hf hk hd hu hp ret
    (refine' enter ?k1 ?k2 ?k3 ?k5 ?kA ?kF ?kK ?k6 ?k7 ?k8 ?k9 ?kB ?_ ?c2 ?c3 ?c4 ?c5; (case kA => exact rfl); (case kF => exact hf); (case kK => exact hk); (case k1 => exact B); (case k2 => exact F); (case k3 => exact X); (case k5 => exact T); (case k6 => k_is); (case k7 => k_is); (case k8 => (simp only; omega)); (case k9 => exact BindsTo.of_eq rfl); (case kB => exact locs rfl); (case c2 => exact rfl); (case c3 => exact rfl); (case c4 => exact rfl); (case c5 => decide))
    clear B F X T hf hk
    intro L' h' F' N' B' X' T'
    (try dsimp only)
    (try k_lift B')
    k_fold)
  k_with "m_end" => ((repeat (first | k_unfold | dsimp only)); refine ret _ _ _ (Fr.keep (by assumption)) ?_; (try dsimp only))
  k_with "m_site" => (
    (case k1 => k_asm); (case k2 => k_asm); (case k3 => k_asm); (case k4 => k_asm); (case k5 => k_asm); (case kA => exact rfl); (case kh => exact rfl); (case kf => exact rfl); (case kK => exact rfl)
    (case kd => (first | exact room1 hd rfl | exact room0 hd rfl | exact room1 hdep rfl | exact room0 hdep rfl | ((try simp only [depth_deeper, Around.in1_depth]); omega))); (case ku => (first | exact room1 hu rfl | exact room0 hu rfl | exact room2 hu rfl | exact room1 hun rfl | exact room0 hun rfl | exact room2 hun rfl | ((try simp only [Around.deeper_units, Around.in1_units, Around.mark_units]); omega))))
  k_with "call builtin:issubclass" => (k_here; (with_reducible show wpAny _ _ (call (Value.builtin "issubclass") [Value.type _, Value.ref _]) _ _ _); k_dflt (refine isub_str ?k1 ?_; (case k1 => exact News.get (by assumption) (by news_mem))); intro _)
  k_with "call ref" => (k_here; k_dflt (refine' Ctr.useE (c_fspath _ _ _ _ _ _) ?k1 ?k2 ?k3 ?k4 ?k5 ?kA ?kh ?kf ?kK ?kd ?ku ?kp ?_; walk_at "m_site"); (case kp => trivial); intro h' k' F' N'; (try k_sweep); (try dsimp only); (try k_fold))
  k_with "call ref" => (k_here; k_dflt (refine' Ctr.useV (c_get_sep _ _ _ _ _ _) ?k1 ?k2 ?k3 ?k4 ?k5 ?kA ?kh ?kf ?kK ?kd ?ku ?kp ?_; walk_at "m_site"); (case kp => trivial); intro t9 h' k' F' N'; (try k_sweep); (try dsimp only); (try k_fold))
  k_with "m_steps" => (repeat' (first | (k_unfold; (try dsimp only)) | walk1 | (dsimp only; walk1) | fail "no step"))
  k_with "m_all" => first | exact List.forall_mem_nil _ | (refine List.forall_mem_cons.mpr ⟨by with_unfolding_all rfl, ?_⟩; walk_at "m_all")
  k_with "m_off" => (intro z hz1 hz2; first | with_reducible rfl | ((have hz3 := hz1); (try simp only [List.contains_cons, List.contains_nil, Bool.or_false, Bool.or_eq_false_iff, beq_eq_false_iff_ne, ne_eq] at hz3); (try simp only [List.forall_mem_cons, List.not_mem_nil, false_imp_iff, implies_true, and_true, ne_eq] at hz2); first | (simp only [frM, kstB, hz1, hz2, hz3, if_false, Bool.false_eq_true]; done) | (simp only [frM, kstB, hz1, hz2, if_false, Bool.false_eq_true]; done) | (simp only [frM, kstB, hz1, hz3, if_false, Bool.false_eq_true]; done) | (simp_all [frM, kstB]; done)))
  k_with "LPost" => (dsimp only [LPost])
  k_with "m_for" => (refine Stop.go ?_; (with_unfolding_all refine' For_invVF (by assumption) ?f1 ?f2 ?_); (case f1 => exact rfl); (case f2 => exact rfl))
  k_with "m_own" => (intro p9 hp9; first | exact absurd hp9 List.not_mem_nil | exact hp9 | exact List.Mem.tail _ hp9 | exact List.Mem.tail _ (List.Mem.tail _ hp9) | exact List.Mem.tail _ (List.Mem.tail _ (List.Mem.tail _ hp9)) | ((simp only [List.nil_append, List.append_nil, List.cons_append, List.mem_cons, List.mem_append, List.not_mem_nil, or_false, false_or] at hp9 ⊢); first | exact hp9 | exact Or.inr hp9 | (rcases hp9 with hp9 | hp9 <;> simp [hp9])))
  k_with "m_lend1" => (refine LEnd.mk2 _ (by assumption) (by assumption) (by walk_at "m_all") (by walk_at "m_ea") (by walk_at "m_own") (by walk_at "m_off") ?_; (try dsimp only))
  k_with "m_lend2" => (refine LEnd.mk2 (_, _) (by assumption) (by assumption) (by walk_at "m_all") (by walk_at "m_ea") (by walk_at "m_own") (by walk_at "m_off") ?_; (try dsimp only))
  k_with "m_lend3" => (refine LEnd.mk2 (_, _, _) (by assumption) (by assumption) (by walk_at "m_all") (by walk_at "m_ea") (by walk_at "m_own") (by walk_at "m_off") ?_; (try dsimp only))
  k_with "m_lend4" => (refine LEnd.mk2 (_, _, _, _) (by assumption) (by assumption) (by walk_at "m_all") (by walk_at "m_ea") (by walk_at "m_own") (by walk_at "m_off") ?_; (try dsimp only))
  k_with "m_ea" => first | exact (fun _ h9 => absurd h9 List.not_mem_nil) | (refine List.forall_mem_cons.mpr ⟨by k_mem, ?_⟩; walk_at "m_ea")
  k_with "m_isl" => first | with_reducible assumption | exact l_isl (by with_reducible assumption) (by k_mem) | (refine l_isl (by assumption) (by k_mem)) | assumption
  k_with "m_sz" => first | omega | ((simp only [List.length_append, List.length_cons, List.length_nil, List.length_dropLast, List.length_reverse]); omega)
  k_with "truthy ref" => (k_here; (with_reducible show wpAny _ _ (truthy (Value.ref _)) _ _ _); k_dflt (refine l_truthy (by walk_at "m_isl") (by walk_at "m_sz") ?_))
  k_with "call builtin:list.append" => (k_here; (with_reducible show wpAny _ _ (call (Value.builtin _) [Value.ref _, _]) _ _ _); k_dflt (refine l_append (by assumption) (by assumption) (by k_upd) (by walk_at "m_sz") ?_); intro h' F' N'; (try k_sweep))
  k_with "call builtin:str.join" => (k_here; (with_reducible show wpAny _ _ (call (Value.builtin _) [Value.str _ _, Value.ref _]) _ _ _); k_dflt (refine l_join (by walk_at "m_isl") (by assumption) (by decide) (by omega) ?_); intro t' k')
  k_with "call ref" => (k_here; k_dflt (refine' Ctr.useT3 (c_splitrootP _ _ _ _ _ _) ?k1 ?k2 ?k3 ?k4 ?k5 ?kA ?kh ?kf ?kK ?kd ?ku ?kp ?_; walk_at "m_site"); (case kp => ((try dsimp only); omega)); intro a9 t1 t2 t3 h' k' lt9 F' l1 N'; (try simp only [AllNe, and_true] at l1); (try k_sweep); (try dsimp only); (try k_fold))
  k_with "call ref" => (k_here; k_dflt (refine' Ctr.useT5 (c_splitext1 _ _ _ _ _ _ _ _) ?k1 ?k2 ?k3 ?k4 ?k5 ?kA ?kh ?kf ?kK ?kd ?ku ?kp ?_; walk_at "m_site"); (case kp => ((try dsimp only); omega)); intro a9 b9 c9 t1 t2 h' k' F' l1 N' o4; (try simp only [AllNe, and_true] at l1); (try k_sweep); (try dsimp only); (try k_fold))
  k_with "m_size" => ((try rw [PySem.sizeLine_eq]); omega)
  k_with "call builtin:str.split" => (k_here; (with_reducible show wpAny _ _ (call (Value.builtin "str.split") [Value.str _ _, Value.str _ _]) _ _ _); k_dflt (refine KSpl.split1 (by k_asm) (by k_asm) (by decide) ?_ (by walk_at "m_size")); intro D' l9 h' k' e9 a9 F' N' l1; rw [e9] at a9; (try k_lt l1))
  k_with "m_ne" => first | assumption | exact ne_of_isE (by assumption)
  k_with "subscriptTail Name UnaryOp ref int" => (k_here; k_dflt (refine l_lastS (by walk_at "m_isl") (by walk_at "m_ne") (by assumption) ?_); intro y9 t9 hy9)
  k_with "call builtin:list.pop" => (k_here; (with_reducible show wpAny _ _ (call (Value.builtin _) [Value.ref _]) _ _ _); k_dflt (refine l_popS (by assumption) (by assumption) (by k_upd) (by walk_at "m_ne") (by walk_at "m_sz") ?_); intro v9 h' F' N'; (try k_sweep))
  k_with "call ref" => (k_here; k_dflt (refine' Ctr.useV (c_normpath _ _ _ _ _ _) ?k1 ?k2 ?k3 ?k4 ?k5 ?kA ?kh ?kf ?kK ?kd ?ku ?kp ?_; walk_at "m_site"); (case kp => ((try dsimp only); omega)); intro t9 h' k' F' N'; (try k_sweep); (try dsimp only); (try k_fold))
  k_with "call ref" => (k_here; k_dflt (refine' Ctr.useVP (c_basenameP _ _ _ _ _ _) ?k1 ?k2 ?k3 ?k4 ?k5 ?kA ?kh ?kf ?kK ?kd ?ku ?kp ?_; walk_at "m_site"); (case kp => ((try dsimp only); omega)); intro t9 h' k' lb9 F' N'; (try k_sweep); (try dsimp only); (try k_fold))
  k_with "call ref" => (k_here; k_dflt (refine' Ctr.useVP (c_dirnameP _ _ _ _ _ _) ?k1 ?k2 ?k3 ?k4 ?k5 ?kA ?kh ?kf ?kK ?kd ?ku ?kp ?_; walk_at "m_site"); (case kp => ((try dsimp only); omega)); intro t9 h' k' lb9 F' N'; (try k_sweep); (try dsimp only); (try k_fold))
  k_with "call ref" => (k_here; k_dflt (refine' Ctr.useT2 (c_splitP _ _ _ _ _ _) ?k1 ?k2 ?k3 ?k4 ?k5 ?kA ?kh ?kf ?kK ?kd ?ku ?kp ?_; walk_at "m_site"); (case kp => ((try dsimp only); omega)); intro a9 t1 t2 h' k' lb9 F' l1 N'; (try simp only [AllNe, and_true] at l1); (try k_sweep); (try dsimp only); (try k_fold))
  k_with "m_isl" => exact Fr.lst (by assumption) (by assumption)
  k_with "m_slz" => first | omega | (simp only [List.length_append, List.length_cons, List.length_nil, List.length_dropLast, List.length_reverse, List.length_take, List.length_drop]; omega)
  k_with "call builtin:len" => (k_here; (with_reducible show wpAny _ _ (call (Value.builtin "len") [Value.ref _]) _ _ _); k_dflt (refine l_lenS (by walk_at "m_isl") (by assumption) (by walk_at "m_slz") ?_); intro t9 k9)
  k_with "subscriptTail Name Name ref int" => (k_here; k_dflt (refine l_itemS (by walk_at "m_isl") (by assumption) (by walk_at "m_slz") (by walk_at "m_slz") ?_); intro y9 t9 hy9)
  k_with "subscriptTail Name Slice ref ref" => (k_here; (with_reducible show wpAny _ _ (subscriptTail _ (PySem.Expr.Slice none none (some _) _) (Value.ref _) (Value.ref _)) _ _ _); k_dflt (refine' l_rev (by assumption) (by assumption) (by walk_at "m_isl") (IsPart.int _ _) (by walk_at "m_slz") ?_ (by with_unfolding_all rfl) (by intro _; with_unfolding_all rfl)); intro D' h' F' N' l1; (try k_lt l1); (try k_sweep))
  k_with "m_lend5" => (refine LEnd.mk2 (_, _, _, _, _) (by assumption) (by assumption) (by walk_at "m_all") (by walk_at "m_ea") (by walk_at "m_own") (by walk_at "m_off") ?_; (try dsimp only))
  k_with "call ref" => (k_here; k_dflt (refine' Ctr.useV (c_abspath _ _ _ _ _ _) ?k1 ?k2 ?k3 ?k4 ?k5 ?kA ?kh ?kf ?kK ?kd ?ku ?kp ?_; walk_at "m_site"); (case kp => ((try dsimp only); exact ⟨by omega, by assumption⟩)); intro t9 h' k' F' N'; (try k_sweep); (try dsimp only); (try k_fold))
  k_with "call ref" => (k_here; k_dflt (refine' Ctr.useO (c_number _ _ _ _ _ _) ?k1 ?k2 ?k3 ?k4 ?k5 ?kA ?kh ?kf ?kK ?kd ?ku ?kp ?_ ?_; walk_at "m_site"); (case kp => ((try dsimp only); omega)); (first | intro n9 t9 h' k' o' F' N' | intro h' k' o' F' N'); (try k_sweep); (try dsimp only); (try k_fold))
  trivial
section piece_W13
section
theorem enterC {K : Frag} {prog : Program} {w : World} {A A₀ : Around} {s : Shared} {base h₀ : Heap} {outer : List Env} {L : Addr} {m mg mb : Str → Option Value} {env : Env}
    {p : Program} {loose : List Str} {mean : ExcName → Option Value} {Q E : Value → Shared → Prop}
    {name qual : Str} {params : Arguments} {body : List Stmt} {scope : Scope} {dV kV doc pm cdv ct oc : Value} {an od : Option Addr} {osl : Array (Option Value)} {f : Addr} {args : List Value} {binds : List (Str × Value)}
    (B : Below A₀ base outer h₀) (F : Fr h₀ L s.heap m) (X₀ : K.In h₀) (T : Top p loose mean mg mb h₀) (hA : A.frames = some (env :: outer)) (hf : env.frame = some L) (hke : env.scope.kind = .function)
    (ho : K.lookup f = some ⟨oc, od, .func (fnX name qual params body scope [] dV kV doc pm an cdv ct), osl⟩) (hcd : codeIn K cdv qual = true) (hroom : A.depth < recursionLimit)
    (hbind : BindsTo s (fnX name qual params body scope [] dV kV doc pm an cdv ct) ⟨args, []⟩ binds)
    (hkind : ∀ n, ∀ x ∈ binds, scope.names.lookup x.1 = some .local ∨ (scope.names.lookup x.1 = some .cell ∧ ((cellsFrom n scope.names []).lookup x.1).isSome = true))
    (hnd : ((cellsFrom 0 scope.names []).map (·.1)).Nodup)
    (h : ∀ L' h₁ tk cells, Fr s.heap L' h₁ (bindL (envOfC qual scope L' f cdv).kindOf binds fun _ => none) → News s.heap L' h₁ cells → CellsAre (bindC (envOfC qual scope L' f cdv).kindOf binds fun _ => none) (cellsFrom (L' + 1) scope.names []) cells →
      Below A base (env :: outer) s.heap → K.In s.heap → Top p loose mean mg mb s.heap →
      wpAny (model prog w) (A.deeper (envOfC qual scope L' f cdv)) (execs body (envOfC qual scope L' f cdv))
        (fun fl s' => Q (match fl with | .ret v => v | _ => .none) s')
        (fun e s' => wpAny (model prog w) (A.deeper (envOfC qual scope L' f cdv)) (leaving (envOfC qual scope L' f cdv) e) (fun _ s'' => E e s'') (fun e' s'' => E e' s'') s')
        { s with heap := h₁, toks := tk })
    (hco : scope.isCoroutine = false) (hgen : scope.isGenerator = false) (hk : scope.kind = .function) : wpAny (model prog w) A (call (.ref f) args) Q E s := by
  refine wpAny_call ?_
  have B' := pushX B F hf hke
  refine codeAny_call_function (fd := fnX name qual params body scope [] dV kV doc pm an cdv ct) (body := body) hroom ((X₀.keeps F.keep) _ _ ho) rfl hco hgen rfl (codeRec_of (X₀.keeps F.keep) hcd) (hbind _ _ _ _ ?_)
  refine wpAny_newFunctionEnv_cells hk (hkind _) fun env' he s' x => ?_
  subst he
  refine ⟨(T.nolimit.keeps F.keep).keeps x.toInCall.keep, codeAny_func ?_⟩
  obtain ⟨h₁, tk, rfl, _⟩ := x.done
  have hk₁ := x.toInCall.keep
  obtain ⟨cells, NC, Y⟩ := Cl.news (h₀ := s.heap) (Nat.le_refl _) fun n c hm => ⟨x.cell n c (lookup_of_mem_nodup (cellsFrom_names scope.names 0 (s.heap.objs.size + 1) [] [] rfl ▸ hnd) hm), x.above n c hm⟩
  exact wpAny_mono (h s.heap.objs.size h₁ tk cells ⟨x.toInCall.ns, hk₁, Nat.le_refl _⟩ NC Y ⟨hA, B'.stays, B'.frames⟩ (X₀.keeps F.keep) (T.keeps F.keep)) (fun _ _ y => y) fun _ _ y => y
theorem step_fs (w mean mg mb) {A A₀ : Around} {base h₀ : Heap} {outer : List Env} {env : Env} {L M TT I l : Addr} {m : Str → Option Value} {s : Shared} {E : Value → Shared → Prop} {vs : List Value} {ys : List Str}
    (B : Below A₀ base outer h₀) (F : Fr h₀ L s.heap m) (X : Frag.In (hd.heap_1 (World.params w)) h₀) (T : Top hd.view_1 (looseW hd.view_1 [Str.ofString "relpath"]) mean mg mb h₀)
    (hA : A.frames = some (env :: outer)) (hh : A.handled = none) (hf : env.frame = some L) (hk : env.scope.kind = .function) (hd : A.depth + 1 < recursionLimit) (hu : A.units + 30 < cLine)
    (hIL : I ≠ L) (hI0 : h₀.get? I = none) (hi : StrsAre vs ys) : MapStep PySem.Challenge.pw_mq0396_01 w A E s M TT I l (.ref 108) vs.toArray := by
  intro k v h tk Q x kk hx hq
  have hx' : vs[k]? = some v := by rw [List.getElem?_toArray] at hx; exact hx
  obtain ⟨y, u, rfl, _⟩ := hi.item k v hx'
  have hT : Shared.TypeIs { s with heap := h, toks := tk } (.ref M) "map" := ⟨_, x.obj, rfl⟩
  unfold pyNext
  refine wpAny_bind (wpAny_attempt (wpAny_callSpecial?_slot (name := Str.ofString "__next__") hT slot_map_next (call_entry_bel slot_map_next hT entry_map_next (map_next_item x hx fun h1 hi hs => ?_) (args_map_next _))))
  refine wpBel.any ?_
  rw [Around.under_plainId slot_map_next.plain]
  have F1 : Fr h₀ L h1 m := LCg.fr_but F (fun b o hb e => hs.extBut _ _ (by simpa using hb) (kk b o (by simpa using hb) e)) hIL.symm hI0
  refine c_fspath w mean mg mb y u _ _ _ _ ⟨_, _, _, _, _, _, _, B, F1, X, T, hA, hh, hf, hk⟩ (by simpa using hd) (by show A.units + 1 + 20 < cLine; omega) trivial ?_
  intro r h' tk' e o
  subst o
  refine ⟨_, rfl, wpAny_pure (hq h' tk' ((x.next hi hs.extBut).keeps fun b o _ eo => e b o eo) fun b o hb eo => e _ _ (hs.extBut _ _ hb eo))⟩
theorem lay_own_W13_1 : True := by
  k_with "m_openC" => (
    refine Ctr.opened ?_
    intro dp un gd s Q E A₀ base h₀ outer env L m B F X T hf hk hd hu hp ret
    (refine' enterC ?k1 ?k2 ?k3 ?k5 ?kA ?kF ?kK ?k6 ?k7 ?k8 ?k9 ?kB ?kN ?_ ?c2 ?c3 ?c4; (case kA => exact rfl); (case kF => exact hf); (case kK => exact hk); (case k1 => exact B); (case k2 => exact F); (case k3 => exact X); (case k5 => exact T); (case k6 => k_is); (case k7 => k_is); (case k8 => (simp only; omega)); (case k9 => exact BindsTo.of_eq rfl); (case kB => (intro n; exact fun x hx => .inl (locs rfl x hx))); (case kN => decide); (case c2 => exact rfl); (case c3 => exact rfl); (case c4 => exact rfl))
    clear B F X T hf hk
    intro L' h' tk' cells F' N' Y' B' X' T'
    (try dsimp only)
    (try k_lift B')
    k_fold)
  trivial
theorem l_map2 {prog : Program} {w : World} {A : Around} {E : Value → Shared → Prop} {s : Shared} {h₀ : Heap} {L l : Addr} {m : Str → Option Value} {news : List (Addr × Obj)} {xs : Array Value} {f : Value} {Q : Value → Shared → Prop}
    (F : Fr h₀ L s.heap m) (N : News h₀ L s.heap news) (hl : s.heap.IsList l xs)
    (h : ∀ M T I h', Fr h₀ L h' m → News h₀ L h' news → MapAt h' M T I l f xs 0 → I ≠ L → h₀.get? I = none → (∀ p ∈ news, p.1 ≠ I) → Q (.ref M) { s with heap := h' }) :
    wpAny (model prog w) A (call (.type "map") [f, .ref l]) Q E s := by
  refine call_map hl ?_
  have up : ∀ b o, s.heap.get? b = some o → (mapH3 s.heap l f).get? b = some o := fun b o e => Heap.get?_push_of_some _ (Heap.get?_push_of_some _ (Heap.get?_push_of_some _ e))
  have z1 : (mapH1 s.heap l).objs.size = s.heap.objs.size + 1 := Heap.size_push ..
  have z2 : (mapH2 s.heap l).objs.size = s.heap.objs.size + 2 := by rw [Heap.size_push, z1]
  have g3 : (mapH3 s.heap l f).get? (mapH2 s.heap l).objs.size = some _ := Heap.get?_push_size _ rfl
  have g2 : (mapH3 s.heap l f).get? (mapH1 s.heap l).objs.size = some _ := Heap.get?_push_of_some _ (Heap.get?_push_size _ rfl)
  have g1 : (mapH3 s.heap l f).get? s.heap.objs.size = some _ := Heap.get?_push_of_some _ (Heap.get?_push_of_some _ (Heap.get?_push_size _ rfl))
  have hlt : l < s.heap.objs.size := by obtain ⟨_, e, _⟩ := hl; exact Heap.lt_size e
  rw [z2, z1] at g3
  rw [z1] at g2
  refine h _ (s.heap.objs.size + 1) s.heap.objs.size _ ((F.push _).push _ |>.push _) (N.grown up) ⟨g3, g2, ⟨_, g1, rfl, rfl⟩, hl.push _ |>.push _ |>.push _, ?_, ?_, Nat.ne_of_gt hlt⟩ (Nat.ne_of_gt F.ns.lt) (next_is_new F) (fun p hp => Nat.ne_of_lt (Heap.lt_size (N p hp).1))
  · exact Nat.ne_of_lt (Nat.lt_add_of_pos_right (by decide))
  · exact Nat.ne_of_lt (Nat.lt_add_of_pos_right (by decide))
theorem lay_own_W13_2 : True := by
  k_with "call type:tuple" => (k_here; refine stop_here ?_)
  k_with "call type:map" => (k_here; refine stop_here ?_)
  k_with "exec Try" => (k_here; refine wpAny_Try_except ?_)
  k_with "eval SetComp" => (k_here; refine stop_here ?_)
  k_with "exec For Tuple Call cons nil" => (k_here; refine stop_here ?_)
  k_with "pyIter ref" => (k_here; refine stop_here ?_)
  k_with "call type:enumerate" => (k_here; k_dflt (refine call_enumN (by assumption) (by assumption) (by assumption) ?_); intro h' e9 it9 F' N' S')
  k_with "call builtin:min" => (k_here; k_dflt (refine min_ll rfl (by assumption) (by assumption) (by walk_at "m_isl") (by walk_at "m_isl") (by walk_at "m_isl") ia' ib' (by simp only [Around.in1_units, Around.deeper_units, Around.mark_units]; omega) ?_); rw [hp1]; intro h' tk9 F' N'; (try dsimp only); (try k_fold))
  k_with "call builtin:max" => (k_here; k_dflt (refine max_ll rfl (by assumption) (by assumption) (by walk_at "m_isl") (by walk_at "m_isl") (by walk_at "m_isl") ia' ib' (by simp only [Around.in1_units, Around.deeper_units, Around.mark_units]; omega) ?_); rw [hp2]; intro h' tk9 F' N'; (try dsimp only); (try k_fold))
  k_with "subscriptTail Name Slice ref ref" => (k_here; (with_reducible show wpAny _ _ (subscriptTail _ (PySem.Expr.Slice none (some _) none _) (Value.ref _) (Value.ref _)) _ _ _); k_dflt (refine' l_to (by assumption) (by assumption) (l_isl (by assumption) hl1) (IsPart.int _ _) (by walk_at "m_slz") (by walk_at "m_slz") ?_ (by with_unfolding_all rfl) (by intro _; with_unfolding_all rfl)); intro D' h' F' N' l1; (try k_lt l1); (try k_sweep))
  k_with "exec Assign cons ListComp" => (k_here; refine stop_here ?_)
  trivial
/-- lists of texts that a ledger bears -/
noncomputable def RowsIn (ys : List Value) (zss : List (List Str)) (news : List (Addr × Obj)) : Prop := ys.length = zss.length ∧ ∀ (j : Nat) (zs : List Str), zss[j]? = some zs → ∃ (a : Addr) (vs : List Value) (n : Nat), ys[j]? = some (Value.ref a : Value) ∧ (a, listOf (List.toArray vs) n) ∈ news ∧ StrsAre vs zs
theorem RowsIn.nil {news : List (Addr × Obj)} : RowsIn [] [] news := ⟨rfl, fun _ _ h => nomatch h⟩
theorem RowsIn.snoc {ys : List Value} {zss : List (List Str)} {news news' : List (Addr × Obj)} (h : RowsIn ys zss news) (e : ∀ p ∈ news, p ∈ news') {a : Addr} {vs : List Value} {n : Nat} {zs : List Str} (hm : (a, listOf vs.toArray n) ∈ news') (hi : StrsAre vs zs) : RowsIn (ys ++ [Value.ref a]) (zss ++ [zs]) news' := by
  refine ⟨by simp [h.1], fun j zs' hj => ?_⟩
  by_cases hl : j < zss.length
  · rw [List.getElem?_append_left hl] at hj
    obtain ⟨b, ws, k, h1, h2, h3⟩ := h.2 j zs' hj
    exact ⟨b, ws, k, by rw [List.getElem?_append_left (by rw [h.1]; exact hl)]; exact h1, e _ h2, h3⟩
  · have hj' : j = zss.length := by
      have := (List.getElem?_eq_some_iff.mp hj).1
      rw [List.length_append] at this
      simp only [List.length_cons, List.length_nil] at this
      omega
    subst hj'
    rw [List.getElem?_append_right (Nat.le_refl _), Nat.sub_self] at hj
    cases hj
    exact ⟨a, vs, n, by rw [List.getElem?_append_right (Nat.le_of_eq h.1), h.1, Nat.sub_self]; rfl, hm, hi⟩
inductive TwoRows (ys : List Value) (xa xb : List Str) (news : List (Addr × Obj)) : Prop
  | mk (a b : Addr) (va vb : List Value) (na nb : Nat) (e : ys = [Value.ref a, Value.ref b]) (ma : (a, listOf (List.toArray va) na) ∈ news) (mb : (b, listOf (List.toArray vb) nb) ∈ news) (ia : StrsAre va xa) (ib : StrsAre vb xb) : TwoRows ys xa xb news
theorem RowsIn.two {ys : List Value} {xa xb : List Str} {zss : List (List Str)} {news : List (Addr × Obj)} (h : RowsIn ys zss news) (e : zss = [xa, xb]) : TwoRows ys xa xb news := by
  subst e
  obtain ⟨a, va, na, ea, ma, ia⟩ := h.2 0 _ rfl
  obtain ⟨b, vb, nb, eb, mb, ib⟩ := h.2 1 _ rfl
  refine .mk a b va vb na nb ?_ ma mb ia ib
  have hl : ys.length = 2 := h.1
  rcases ys with _ | ⟨p, _ | ⟨q, _ | ⟨c, r⟩⟩⟩
  · cases hl
  · cases hl
  · cases ea; cases eb; rfl
  · simp at hl
theorem rows_led {h₀ h : Heap} {L : Addr} {d x y : Addr × Obj} {lit nw : List (Addr × Obj)} (N : News h₀ L h (d :: nw)) (hx : x ∈ nw) (hy : y ∈ nw) (hs : ∀ p ∈ lit, p ∈ nw) : News h₀ L h (d :: x :: y :: lit) := fun p hp => N p (by
  rcases List.mem_cons.mp hp with rfl | hp
  · exact List.Mem.head _
  · rcases List.mem_cons.mp hp with rfl | hp
    · exact List.Mem.tail _ hx
    · rcases List.mem_cons.mp hp with rfl | hp
      · exact List.Mem.tail _ hy
      · exact List.Mem.tail _ (hs p hp))
theorem led_two {h₀ h : Heap} {L : Addr} {x y : Addr × Obj} {l : List (Addr × Obj)} (N : News h₀ L h l) (hx : x ∈ l) (hy : y ∈ l) : News h₀ L h (x :: y :: l) := fun p hp => by
  rcases List.mem_cons.mp hp with rfl | hp
  · exact N _ hx
  · rcases List.mem_cons.mp hp with rfl | hp
    · exact N _ hy
    · exact N p hp
theorem sum_filt (l : List Str) (f : Str → Bool) : sumLen (l.filter f) ≤ sumLen l := by
  induction l with
  | nil => exact Nat.le_refl _
  | cons a r ih =>
    rw [List.filter_cons]
    split
    · rw [sumLen_cons, sumLen_cons]; omega
    · rw [sumLen_cons]; omega
theorem cp_t {bb : Bool} {xs ys : List Str} {t' : Tok} (hb : bb = true) (h : xs = ys) : ∃ t, Value.str (Str.ofString "/" ++ Txt.join (Str.ofString "/") xs) t' = Value.str ((if bb = true then Str.ofString "/" else Str.ofString "") ++ Txt.join (Str.ofString "/") ys) t := ⟨t', by rw [if_pos hb, h]⟩
theorem cp_f {bb : Bool} {xs ys : List Str} {t' : Tok} (hb : bb = false) (h : xs = ys) : ∃ t, Value.str (Str.ofString "" ++ Txt.join (Str.ofString "/") xs) t' = Value.str ((if bb = true then Str.ofString "/" else Str.ofString "") ++ Txt.join (Str.ofString "/") ys) t := ⟨t', by rw [if_neg (by rw [hb]; decide), h]⟩
theorem mem_sum {c : Str} {zg : List Str} (h : c ∈ zg) : c.length ≤ sumLen zg := by
  obtain ⟨i, hi⟩ := List.mem_iff_getElem?.mp h
  exact len_mem hi
theorem nz_keep {zg : List Str} {vs : List Value} {j : Nat} {c : Str} {t : Tok} (h : zg[j]? = some c) (h1 : ¬ c.length = 0) (h2 : ¬ c = Str.ofString ".") (hi : StrsAre vs (nzS (zg.take j))) : StrsAre (vs ++ [Value.str c t]) (nzS (zg.take (j + 1))) := by
  have e : nzS (zg.take (j + 1)) = nzS (zg.take j) ++ [c] := by
    rw [List.take_add_one, h]
    unfold nzS
    rw [List.filter_append]
    congr 1
    exact List.filter_cons_of_pos (okp_iff.mpr ⟨h1, h2⟩)
  rw [e]
  exact strs_snoc hi c t
theorem nz_skip {zg : List Str} {vs : List Value} {j : Nat} {c : Str} (h : zg[j]? = some c) (h1 : c.length = 0 ∨ c = Str.ofString ".") (hi : StrsAre vs (nzS (zg.take j))) : StrsAre vs (nzS (zg.take (j + 1))) := by
  have e : nzS (zg.take (j + 1)) = nzS (zg.take j) := by
    rw [List.take_add_one, h]
    unfold nzS
    rw [List.filter_append]
    show _ ++ [c].filter okp = _
    rw [List.filter_cons_of_neg (fun k => by
      have := okp_iff.mp k
      rcases h1 with h | h
      · exact this.1 h
      · exact this.2 h), List.filter_nil, List.append_nil]
  rw [e]
  exact hi
theorem wpAny_tests1 {prog : Program} {w : World} {A : Around} {s : Shared} {E : Value → Shared → Prop} {Q : Bool → Shared → Prop} {c : Expr} {env : Env} (h : wpAny (model prog w) A (isTrue c env (eval c env)) Q E s) : wpAny (model prog w) A (testsOf [c] env) Q E s := by
  unfold testsOf
  simp only [List.forIn_cons, List.forIn_nil, if_true]
  refine wpAny_bind (wpAny_bind (wpAny_mono h (fun ok s' hq => wpAny_pure (wpAny_pure hq)) fun _ _ e => e))
theorem two_of {ys : List Value} {p q : Value} (h : ys.length = 2) (h0 : ys[0]? = some p) (h1 : ys[1]? = some q) : ys = [p, q] := by
  rcases ys with _ | ⟨a, _ | ⟨b, _ | ⟨c, r⟩⟩⟩
  · cases h
  · cases h
  · cases h0; cases h1; rfl
  · simp at h
theorem name_cells {h₀ h : Heap} {L c1 c2 : Addr} {q : Addr × Obj} {o1 o2 : Obj} {a b : Str} {t u : Tok} (N : News h₀ L h [q, (c1, o1), (c2, o2)]) (d2 : o2.data = .cell (some (.str a t))) (d1 : o1.data = .cell (some (.str b u))) :
    ∃ oD oS tS tD, oS.data = .cell (some (.str a tS)) ∧ oD.data = .cell (some (.str b tD)) ∧ News h₀ L h [q, (c1, oD), (c2, oS)] := ⟨o1, o2, t, u, d2, d1, N⟩
set_option maxHeartbeats 4000000 in
theorem c_commonpath (w mean mg mb) (ml : Addr) (n : Nat) (x y : Str) (tx ty : Tok) (bb : Bool) (hbx : Txt.startswith x (Str.ofString "/") = bb) (hby : Txt.startswith y (Str.ofString "/") = bb) (hnn : (nzS (Txt.split x (Str.ofString "/"))).length = (nzS (Txt.split y (Str.ofString "/"))).length) : Ctr w mean mg mb 2 60 208 [.ref ml]
    (fun h => h.get? ml = some (listOf #[.str x tx, .str y ty] n) ∧ x.length ≤ 50000 ∧ y.length ≤ 50000) (fun h h' r => ∃ t, r = .str ((if bb = true then Str.ofString "/" else Str.ofString "") ++ Txt.join (Str.ofString "/") ((nzS (Txt.split x (Str.ofString "/"))).take (alikeS (nzS (Txt.split x (Str.ofString "/"))) (nzS (Txt.split y (Str.ofString "/")))))) t) := by
  walk_at "m_openC"
  obtain ⟨o', o2', hE', d1', d2'⟩ := CellsAre.two Y'
  subst hE'
  clear Y'
  replace F' : Fr s.heap L' h' (fun y => if y = Str.ofString "paths" then some (Value.ref ml) else none) := F'
  replace d1' : o'.data = .cell none := d1'
  replace d2' : o2'.data = .cell none := d2'
  obtain ⟨hm, hz1, hz2⟩ := hp
  have hzz : ∀ zg ∈ [Txt.split x (Str.ofString "/"), Txt.split y (Str.ofString "/")], zg.length ≤ 60000 ∧ ∀ c ∈ zg, c.length ≤ 60000 := by
    intro zg hm
    have a1 := split_len x
    have a2 := split_len y
    rcases List.mem_cons.mp hm with rfl | hm
    · exact ⟨by omega, fun c hc => by have := mem_sum hc; omega⟩
    · rw [List.mem_singleton.mp hm]
      exact ⟨by omega, fun c hc => by have := mem_sum hc; omega⟩
  have hml : s.heap.IsList ml [Value.str x tx, Value.str y ty].toArray := ⟨_, hm, rfl, _, rfl⟩
  walk_at "m_steps"
  refine Stop.go ?_
  rename Fr _ _ _ _ => Fw
  rename News _ _ _ _ => Nw
  refine l_map2 Fw Nw (Fr.lst Fw hml) ?_
  intro M TT I h1 F1 N1 x1 hIL hI0 hIN
  clear Fw Nw
  as_aux_lemma =>
  walk_at "m_steps"
  refine Stop.go ?_
  refine call_tuple_map rfl (by simp) x1 (step_fs w mean mg mb B' F1 X' T' rfl rfl rfl rfl (by simp only [Around.in1_depth, depth_deeper]; omega) (by simp only [Around.in1_units, Around.deeper_units]; omega) hIL hI0 (.cons x tx (.cons y ty .nil))) ?_
  intro h2 tk2 D k2 hDn hD
  have kk : ∀ b o, b ∉ [I] → h1.get? b = some o → h2.get? b = some o := fun b o hb e => k2 b o (by simpa using hb) e
  have F2 := LCg.fr_but F1 kk hIL.symm hI0
  have N2 := news_add F1 (LCg.news_but N1 kk hIN) hDn hD
  have l1 := allNe_of (news_ne N1 hDn)
  (try simp only [AllNe, and_true] at l1)
  clear F1 N1 x1
  (try k_sweep)
  (try dsimp only)
  (try k_fold)
  as_aux_lemma =>
  walk_at "m_steps"
  refine Stop.go ?_
  rename Fr _ _ _ _ => Fw
  rename News _ _ _ _ => Nw
  rename (_ = Data.cell (some (Value.str (Str.ofString "/") _))) => dsep
  rename (_ = Data.cell (some (Value.str (Str.ofString ".") _))) => ddot
  obtain ⟨oD, oS, tS, tD, dS, dD, N2⟩ := name_cells Nw dsep ddot
  clear Nw dsep ddot d1' d2'
  as_aux_lemma =>
  refine assign_comp1 Fw (cl := [(Str.ofString "sep", L' + 1)]) ?w0 ?w1 ?w2 ?w3 ?w4 ?w5 ?w6 ?w7 ?w8 ?_ ?w9
  case w0 => exact rfl
  case w1 => with_unfolding_all rfl
  case w2 => with_unfolding_all rfl
  case w3 => decide
  case w4 => rfl
  case w5 => decide
  case w6 => rfl
  case w7 => rfl
  case w8 => rfl
  case w9 => intro _; rfl
  walk_at "m_steps"
  refine ⟨false, D, #[.str x tx, .str y ty], _, fun i ys nw => (∀ p ∈ [(D, tupOf [Value.str x tx, Value.str y ty]), (L' + 1 + 1, oD), (L' + 1, oS)], p ∈ nw) ∧ RowsIn ys (([x, y].take i).map fun z => Txt.split z (Str.ofString "/")) nw, rfl, rfl, Fw, N2, .inr (List.Mem.head _), by simp, ⟨fun p hp => hp, RowsIn.nil⟩, ?_, ?_⟩
  · clear Fw N2
    rintro s2 ⟨h, tk, rfl⟩ i ys nw v I1 oI C oC D1 m2 h tk E' ⟨hsub, hrows⟩ hS hv hoC hx F1 N1 off1 dis1
    refine wpAny_pure ?_
    rw [if_pos rfl]
    have N3 : News s.heap L' h ((I1, oI) :: (C, oC) :: (D1, LCg.lst ys) :: (D, tupOf [Value.str x tx, Value.str y ty]) :: (L' + 1 + 1, oD) :: (L' + 1, oS) :: nw) := news_lit3 N1 hsub
    clear N1
    as_aux_lemma =>
    obtain ⟨z, tz, rfl, hz⟩ := (StrsAre.cons x tx (StrsAre.cons y ty StrsAre.nil)).item i v (by simpa using hv)
    have hzl : z.length ≤ 50000 := by
      rcases List.mem_cons.mp (List.mem_of_getElem? hz) with rfl | h
      · exact hz1
      · rw [List.mem_singleton.mp h]; exact hz2
    walk_at "m_steps"
    rename Fr _ _ _ _ => Fz
    rename News _ _ _ _ => Nz
    rename StrsAre _ _ => hiz
    refine ⟨_, _, _, rfl, Fz, comp_fin1 (lit := [_, _, _]) Nz, ⟨⟨by k_ne, by k_ne, by k_ne⟩, off1⟩, hS.mono (fun p hp => List.Mem.tail _ hp), fun p hp => List.Mem.tail _ (hsub p hp), ?_⟩
    rw [List.take_add_one, hz, List.map_append]
    exact hrows.snoc (fun p hp => List.Mem.tail _ hp) (List.Mem.head _) hiz
  intro ys nw hyl hinv
  obtain ⟨hsub, hrows⟩ := hinv
  intro DS h3 tk3 F3 N3 _
  obtain ⟨a, b, va, vb, na, nb, hys, ma, mb, ia, ib⟩ := hrows.two rfl
  subst hys
  have N4 : News s.heap L' h3 [(DS, listOf #[Value.ref a, Value.ref b] 2), (a, listOf va.toArray na), (b, listOf vb.toArray nb), (D, tupOf [Value.str x tx, Value.str y ty]), (L' + 1 + 1, oD), (L' + 1, oS)] := rows_led N3 ma mb hsub
  clear N3 hsub hrows Fw N2
  dsimp only at ia ib ⊢
  as_aux_lemma =>
  walk_at "m_steps"
  refine Stop.go ?_
  rename Fr _ _ _ _ => Fw
  dsimp only at Fw
  refine set_comp Fw N4 (cl := [(Str.ofString "sep", L' + 1)]) (kk := false) (ax := D) (its := #[.str x tx, .str y ty]) (b := bb) ?w2 ?w3 ?w4 ?w5 ?w6 rfl (by simp) (.inr (List.Mem.tail _ (List.Mem.tail _ (List.Mem.tail _ (List.Mem.head _))))) ?hi ?turn ?w9 ?_
  case w2 => with_unfolding_all rfl
  case w3 => decide
  case w4 => rfl
  case w5 => decide
  case w6 => rfl
  case w9 => intro _; rfl
  case hi =>
    walk_at "m_steps"
    · exact Fw
    · exact N4
  case turn =>
    clear Fw N4
    intro i v I1 oI C oC D1 oD1 m2 h tk E' hv hoC hx F1 N1
    obtain ⟨z, tz, rfl, hz⟩ := (StrsAre.cons x tx (StrsAre.cons y ty StrsAre.nil)).item i v (by simpa using hv)
    have hbz : Txt.startswith z (Str.ofString "/") = bb := by
      rcases List.mem_cons.mp (List.mem_of_getElem? hz) with rfl | h
      · exact hbx
      · rw [List.mem_singleton.mp h]; exact hby
    walk_at "m_steps"
    · rw [hbz]
    · exact F1
    · exact N1
  clear Fw N4
  intro DB h4 tk4 F4 N4 hne4
  dsimp only
  refine wpAny_bind (wpAny_standAt ?_)
  refine wpAny_bind (wpAny_holding (unpack_set rfl (N4 _ (List.Mem.head _)).1 ?_))
  intro h5 k5
  have F5 := F4.keeps k5
  have N5 := N4.grown k5
  clear F4 N4
  as_aux_lemma =>
  walk_at "m_steps"
  refine Stop.go ?_
  rename Fr _ _ _ _ => Fw
  rename News _ _ _ _ => Nw
  have N6 : News s.heap L' _ [(DS, listOf #[Value.ref a, Value.ref b] 2), (a, listOf va.toArray na), (b, listOf vb.toArray nb), (D, tupOf [Value.str x tx, Value.str y ty]), (L' + 1 + 1, oD), (L' + 1, oS)] := fun p hp => Nw p (List.Mem.tail _ hp)
  clear Nw
  as_aux_lemma =>
  refine assign_comp1 Fw (cl := [(Str.ofString "curdir", L' + 1 + 1)]) ?w0 ?w1 ?w2 ?w3 ?w4 ?w5 ?w6 ?w7 ?w8 ?_ ?w9
  case w0 => exact rfl
  case w1 => with_unfolding_all rfl
  case w2 => with_unfolding_all rfl
  case w3 => decide
  case w4 => rfl
  case w5 => decide
  case w6 => rfl
  case w7 => rfl
  case w8 => rfl
  case w9 => intro _; rfl
  walk_at "m_steps"
  refine ⟨true, DS, #[.ref a, .ref b], _, fun i ys nw => (∀ p ∈ [(DS, listOf #[Value.ref a, Value.ref b] 2), (a, listOf va.toArray na), (b, listOf vb.toArray nb), (D, tupOf [Value.str x tx, Value.str y ty]), (L' + 1 + 1, oD), (L' + 1, oS)], p ∈ nw) ∧ RowsIn ys (([Txt.split x (Str.ofString "/"), Txt.split y (Str.ofString "/")].take i).map nzS) nw, rfl, rfl, Fw, N6, .inr ⟨_, List.Mem.head _, rfl, _, rfl⟩, by simp, ⟨fun p hp => hp, RowsIn.nil⟩, ?_, ?_⟩
  · clear Fw N6
    rintro s2 ⟨h, tk, rfl⟩ i ys nw v I1 oI C oC D1 m2 h tk E' ⟨hsub, hrows⟩ hS hv hoC hx F1 N1 off1 dis1
    refine wpAny_pure ?_
    rw [if_pos rfl]
    have N3 : News s.heap L' h ((I1, oI) :: (C, oC) :: (D1, LCg.lst ys) :: (DS, listOf #[Value.ref a, Value.ref b] 2) :: (a, listOf va.toArray na) :: (b, listOf vb.toArray nb) :: (D, tupOf [Value.str x tx, Value.str y ty]) :: (L' + 1 + 1, oD) :: (L' + 1, oS) :: nw) := news_lit3 N1 hsub
    clear N1
    as_aux_lemma =>
    obtain ⟨g, vg, ng, zg, rfl, hg, hgi, hgz⟩ : ∃ (g : Addr) (vg : List Value) (ng : Nat) (zg : List Str), v = .ref g ∧ (g, listOf vg.toArray ng) ∈ (I1, oI) :: (C, oC) :: (D1, LCg.lst ys) :: (DS, listOf #[Value.ref a, Value.ref b] 2) :: (a, listOf va.toArray na) :: (b, listOf vb.toArray nb) :: (D, tupOf [Value.str x tx, Value.str y ty]) :: (L' + 1 + 1, oD) :: (L' + 1, oS) :: nw ∧ StrsAre vg zg ∧ [Txt.split x (Str.ofString "/"), Txt.split y (Str.ofString "/")][i]? = some zg := by
      rcases i with _ | _ | i
      · cases hv
        exact ⟨a, va, na, _, rfl, List.Mem.tail _ (List.Mem.tail _ (List.Mem.tail _ (List.Mem.tail _ (List.Mem.head _)))), ia, rfl⟩
      · cases hv
        exact ⟨b, vb, nb, _, rfl, List.Mem.tail _ (List.Mem.tail _ (List.Mem.tail _ (List.Mem.tail _ (List.Mem.tail _ (List.Mem.head _))))), ib, rfl⟩
      · cases hv
    obtain ⟨hgl, hgc⟩ := hzz zg (List.mem_of_getElem? hgz)
    as_aux_lemma =>
    dsimp only
    refine eval_comp1 F1 (cl := [(Str.ofString "curdir", L' + 1 + 1)]) ?v2 ?v3 ?v4 ?v5 ?v6 ?_ ?v9
    case v2 => with_unfolding_all rfl
    case v3 => decide
    case v4 => rfl
    case v5 => decide
    case v6 => rfl
    case v9 => intro _; rfl
    walk_at "m_steps"
    refine ⟨true, g, vg.toArray, _, fun j zs nw2 => nw2 = (I1, oI) :: (C, oC) :: (D1, LCg.lst ys) :: (DS, listOf #[Value.ref a, Value.ref b] 2) :: (a, listOf va.toArray na) :: (b, listOf vb.toArray nb) :: (D, tupOf [Value.str x tx, Value.str y ty]) :: (L' + 1 + 1, oD) :: (L' + 1, oS) :: nw ∧ StrsAre zs (nzS (zg.take j)), rfl, rfl, F1, N3, .inr ⟨_, hg, rfl, _, rfl⟩, ?_, ⟨rfl, .nil⟩, ?_, ?_⟩
    · have := hgi.length
      simp only [List.size_toArray]; omega
    · clear F1 N3
      rintro s3 ⟨h, tk, rfl⟩ j zs nw2 v I2 oI2 C2 oC2 D2 m3 h tk E' ⟨rfl, hzs⟩ hS2 hv2 hoC2 hx2 F2 N2 off2 dis2
      obtain ⟨c, tc, rfl, hc⟩ := hgi.item j v (by simpa using hv2)
      have hc9 := hgc c (List.mem_of_getElem? hc)
      as_aux_lemma =>
      dsimp only
      refine wpAny_tests1 ?_
      walk_at "m_steps"
      all_goals refine ⟨_, _, _, rfl, by assumption, by assumption, off2, hS2, rfl, ?_⟩
      · exact nz_keep hc (fun e => by rename (_ : Int) ≠ 0 => q; exact q (by rw [e]; rfl)) (fun e => by rename (_ != _) = true => q; rw [e] at q; exact absurd q (by decide)) hzs
      · exact nz_skip hc (.inr (by rename (_ != _) = false => q; simpa using q)) hzs
      · exact nz_skip hc (.inl (by rename (_ : Int) = 0 => q; exact Int.ofNat_eq_zero.mp q)) hzs
    · clear F1 N3
      intro zs nw2 hzl hzs
      obtain ⟨e, hzs⟩ := hzs
      subst e
      intro D2 h tk F2 N2 o1
      obtain ⟨q1, q2, q3, _⟩ := o1
      have hzs' : StrsAre zs (nzS zg) := by
        have e : vg.toArray.size = zg.length := hgi.length
        rw [e, List.take_length] at hzs
        exact hzs
      refine ⟨_, _, _, rfl, F2, comp_fin1 (lit := [_, _, _, _, _, _]) N2, ⟨⟨Ne.symm q1, Ne.symm q2, Ne.symm q3⟩, off1⟩, hS.mono (fun p hp => List.Mem.tail _ hp), fun p hp => List.Mem.tail _ (hsub p hp), ?_⟩
      rw [List.take_add_one, hgz, List.map_append]
      exact hrows.snoc (fun p hp => List.Mem.tail _ hp) (List.Mem.head _) hzs'
  intro ys nw hyl hinv
  obtain ⟨hsub, hrows⟩ := hinv
  intro DR h6 tk6 F7 N7 _
  obtain ⟨a', b', va', vb', na', nb', hys, ma', mb', ia', ib'⟩ := hrows.two rfl
  subst hys
  have N8 : News s.heap L' h6 [(DR, listOf #[Value.ref a', Value.ref b'] 2), (a', listOf va'.toArray na'), (b', listOf vb'.toArray nb'), (D, tupOf [Value.str x tx, Value.str y ty]), (L' + 1 + 1, oD), (L' + 1, oS)] := rows_led N7 ma' mb' fun p hp => hsub p (List.Mem.tail _ (List.Mem.tail _ (List.Mem.tail _ hp)))
  clear N7 hsub hrows Fw N6
  dsimp only at ia' ib' ⊢
  as_aux_lemma =>
  obtain ⟨p1, p2, v1, v2, n1, n2, x1, x2, hp1, hp2, hl1, hl2, hx1, hx2, hn1, hn2, hal, hxy, htk⟩ := two_sortedN (news := [(DR, listOf #[Value.ref a', Value.ref b'] 2), (a', listOf va'.toArray na'), (b', listOf vb'.toArray nb')]) (List.Mem.tail _ (List.Mem.head _)) (List.Mem.tail _ (List.Mem.tail _ (List.Mem.head _))) ia' ib' hnn
  have N9 : News s.heap L' h6 [(p1, listOf v1.toArray n1), (p2, listOf v2.toArray n2), (DR, listOf #[Value.ref a', Value.ref b'] 2), (a', listOf va'.toArray na'), (b', listOf vb'.toArray nb'), (D, tupOf [Value.str x tx, Value.str y ty]), (L' + 1 + 1, oD), (L' + 1, oS)] := led_two N8 (List.mem_append_left [_, _, _] hl1) (List.mem_append_left [_, _, _] hl2)
  clear N8
  replace hl1 : (p1, listOf v1.toArray n1) ∈ [(p1, listOf v1.toArray n1), (p2, listOf v2.toArray n2), (DR, listOf #[Value.ref a', Value.ref b'] 2), (a', listOf va'.toArray na'), (b', listOf vb'.toArray nb'), (D, tupOf [Value.str x tx, Value.str y ty]), (L' + 1 + 1, oD), (L' + 1, oS)] := List.Mem.head _
  clear hl2
  as_aux_lemma =>
  walk_at "m_steps"
  refine Stop.go ?_
  rename Fr _ _ _ _ => Fw
  refine For_pair3F Fw rfl rfl rfl rfl ?_ (fun _ => rfl)
  walk_at "m_steps"
  refine Stop.go ?_
  rename EnumAt _ _ _ _ _ _ _ _ => S9
  rename Fr _ _ _ _ => Fw
  rename News _ _ _ _ => Nw
  have hlx1 := hx1.length
  have hlx2 := hx2.length
  have hrl : (nzS (Txt.split x (Str.ofString "/"))).length ≤ 60000 := Nat.le_trans (List.length_filter_le _ _) (hzz _ (List.Mem.head _)).1
  have hs1 : sumLen x1 ≤ 60000 := by
    have a1 := split_len x
    have a2 := split_len y
    have b1 := sum_filt (Txt.split x (Str.ofString "/")) okp
    have b2 := sum_filt (Txt.split y (Str.ofString "/")) okp
    rcases hxy with h | h
    · rw [h]; unfold nzS; omega
    · rw [h]; unfold nzS; omega
  clear ia ib ma mb ma' mb' hzz hml hm hbx hby hyl k2 kk k5 hne4 hD hDn hIN hp1 hp2 ia' ib'
  refine enum_leave (pz := fun c i => decide (x2[i]? ≠ some c)) rfl S9 hx1 Fw Nw ?g1 ?g2 ?g3
  case g1 =>
    rintro i c t v ⟨h1, g1, d1, k1, o1⟩ own hc hk F1 N1
    obtain ⟨u, rfl⟩ := ItemKind.str_is hk
    have hil : i < x2.length := by
      have := (List.getElem?_eq_some_iff.mp hc).1
      omega
    refine wpAny_mono (Q := fun b s₄ => TestIs (decide (x2[i]? ≠ some c)) ⟨h1, g1, d1, k1, o1⟩ b s₄) ?_ (fun _ _ h => h) (fun _ _ h => h)
    walk_at "m_steps"
    rename x2[i]? = some _ => hy
    refine TestIs.mk (tk := k1) ?_
    rw [hy]
    exact (bne_dec _ _)
  case g2 =>
    intro i c t v own h4 tk4 hc hp hfi hk F1 N1
    obtain ⟨u, rfl⟩ := ItemKind.str_is hk
    have hil : i < x1.length := (List.getElem?_eq_some_iff.mp hc).1
    have hti := StrsAre.take' hx1 i
    have hjl := tjoin_len1 (x1.take i)
    have hsl := sumLen_take x1 i
    have htl : (x1.take i).length ≤ 60000 := by rw [List.length_take]; omega
    replace hjl : (Txt.join (Str.ofString "/") (x1.take i)).length ≤ 200000 := by omega
    have N2 := fun p hp => N1 p (List.mem_append_right _ hp)
    clear N1
    as_aux_lemma =>
    dsimp only
    walk_at "m_steps"
    all_goals walk_at "m_end"
    all_goals first
      | exact cp_t (by assumption) (by rw [← htk, ← hal, alike_find (hn1.trans hn2.symm) hc hfi])
      | exact cp_f (by assumption) (by rw [← htk, ← hal, alike_find (hn1.trans hn2.symm) hc hfi])
  case g3 =>
    intro h' tk' vi vl F1 N1 hall
    have hjl := tjoin_len1 x1
    replace hjl : (Txt.join (Str.ofString "/") x1).length ≤ 200000 := by omega
    dsimp only
    walk_at "m_steps"
    all_goals walk_at "m_end"
    all_goals first
      | exact cp_t (by assumption) (by rw [← htk, ← hal, alike_all hall, List.take_length])
      | exact cp_f (by assumption) (by rw [← htk, ← hal, alike_all hall, List.take_length])
end
end piece_W13
theorem lay_base_13 : True := by
  k_with_none
  k_with "m_open" => (
    refine Ctr.opened ?_
    intro dp un gd s Q E A₀ base h₀ outer env L m B F X T hf hk hd hu hp ret
    (refine' enter ?k1 ?k2 ?k3 ?k5 ?kA ?kF ?kK ?k6 ?k7 ?k8 ?k9 ?kB ?_ ?c2 ?c3 ?c4 ?c5; (case kA => exact rfl); (case kF => exact hf); (case kK => exact hk); (case k1 => exact B); (case k2 => exact F); (case k3 => exact X); (case k5 => exact T); (case k6 => k_is); (case k7 => k_is); (case k8 => (simp only; omega)); (case k9 => exact BindsTo.of_eq rfl); (case kB => exact locs rfl); (case c2 => exact rfl); (case c3 => exact rfl); (case c4 => exact rfl); (case c5 => decide))
    clear B F X T hf hk
    intro L' h' F' N' B' X' T'
    (try dsimp only)
    (try k_lift B')
    k_fold)
  k_with "m_end" => ((repeat (first | k_unfold | dsimp only)); refine ret _ _ _ (Fr.keep (by assumption)) ?_; (try dsimp only))
  k_with "m_site" => (
    (case k1 => k_asm); (case k2 => k_asm); (case k3 => k_asm); (case k4 => k_asm); (case k5 => k_asm); (case kA => exact rfl); (case kh => exact rfl); (case kf => exact rfl); (case kK => exact rfl)
    (case kd => (first | exact room1 hd rfl | exact room0 hd rfl | exact room1 hdep rfl | exact room0 hdep rfl | ((try simp only [depth_deeper, Around.in1_depth]); omega))); (case ku => (first | exact room1 hu rfl | exact room0 hu rfl | exact room2 hu rfl | exact room1 hun rfl | exact room0 hun rfl | exact room2 hun rfl | ((try simp only [Around.deeper_units, Around.in1_units, Around.mark_units]); omega))))
  k_with "call builtin:issubclass" => (k_here; (with_reducible show wpAny _ _ (call (Value.builtin "issubclass") [Value.type _, Value.ref _]) _ _ _); k_dflt (refine isub_str ?k1 ?_; (case k1 => exact News.get (by assumption) (by news_mem))); intro _)
  k_with "call ref" => (k_here; k_dflt (refine' Ctr.useE (c_fspath _ _ _ _ _ _) ?k1 ?k2 ?k3 ?k4 ?k5 ?kA ?kh ?kf ?kK ?kd ?ku ?kp ?_; walk_at "m_site"); (case kp => trivial); intro h' k' F' N'; (try k_sweep); (try dsimp only); (try k_fold))
  k_with "call ref" => (k_here; k_dflt (refine' Ctr.useV (c_get_sep _ _ _ _ _ _) ?k1 ?k2 ?k3 ?k4 ?k5 ?kA ?kh ?kf ?kK ?kd ?ku ?kp ?_; walk_at "m_site"); (case kp => trivial); intro t9 h' k' F' N'; (try k_sweep); (try dsimp only); (try k_fold))
  k_with "m_steps" => (repeat' (first | (k_unfold; (try dsimp only)) | walk1 | (dsimp only; walk1) | fail "no step"))
  k_with "m_all" => first | exact List.forall_mem_nil _ | (refine List.forall_mem_cons.mpr ⟨by with_unfolding_all rfl, ?_⟩; walk_at "m_all")
  k_with "m_off" => (intro z hz1 hz2; first | with_reducible rfl | ((have hz3 := hz1); (try simp only [List.contains_cons, List.contains_nil, Bool.or_false, Bool.or_eq_false_iff, beq_eq_false_iff_ne, ne_eq] at hz3); (try simp only [List.forall_mem_cons, List.not_mem_nil, false_imp_iff, implies_true, and_true, ne_eq] at hz2); first | (simp only [frM, kstB, hz1, hz2, hz3, if_false, Bool.false_eq_true]; done) | (simp only [frM, kstB, hz1, hz2, if_false, Bool.false_eq_true]; done) | (simp only [frM, kstB, hz1, hz3, if_false, Bool.false_eq_true]; done) | (simp_all [frM, kstB]; done)))
  k_with "LPost" => (dsimp only [LPost])
  k_with "m_for" => (refine Stop.go ?_; (with_unfolding_all refine' For_invVF (by assumption) ?f1 ?f2 ?_); (case f1 => exact rfl); (case f2 => exact rfl))
  k_with "m_own" => (intro p9 hp9; first | exact absurd hp9 List.not_mem_nil | exact hp9 | exact List.Mem.tail _ hp9 | exact List.Mem.tail _ (List.Mem.tail _ hp9) | exact List.Mem.tail _ (List.Mem.tail _ (List.Mem.tail _ hp9)) | ((simp only [List.nil_append, List.append_nil, List.cons_append, List.mem_cons, List.mem_append, List.not_mem_nil, or_false, false_or] at hp9 ⊢); first | exact hp9 | exact Or.inr hp9 | (rcases hp9 with hp9 | hp9 <;> simp [hp9])))
  k_with "m_lend1" => (refine LEnd.mk2 _ (by assumption) (by assumption) (by walk_at "m_all") (by walk_at "m_ea") (by walk_at "m_own") (by walk_at "m_off") ?_; (try dsimp only))
  k_with "m_lend2" => (refine LEnd.mk2 (_, _) (by assumption) (by assumption) (by walk_at "m_all") (by walk_at "m_ea") (by walk_at "m_own") (by walk_at "m_off") ?_; (try dsimp only))
  k_with "m_lend3" => (refine LEnd.mk2 (_, _, _) (by assumption) (by assumption) (by walk_at "m_all") (by walk_at "m_ea") (by walk_at "m_own") (by walk_at "m_off") ?_; (try dsimp only))
  k_with "m_lend4" => (refine LEnd.mk2 (_, _, _, _) (by assumption) (by assumption) (by walk_at "m_all") (by walk_at "m_ea") (by walk_at "m_own") (by walk_at "m_off") ?_; (try dsimp only))
  k_with "m_ea" => first | exact (fun _ h9 => absurd h9 List.not_mem_nil) | (refine List.forall_mem_cons.mpr ⟨by k_mem, ?_⟩; walk_at "m_ea")
  k_with "m_isl" => first | with_reducible assumption | exact l_isl (by with_reducible assumption) (by k_mem) | (refine l_isl (by assumption) (by k_mem)) | assumption
  k_with "m_sz" => first | omega | ((simp only [List.length_append, List.length_cons, List.length_nil, List.length_dropLast, List.length_reverse]); omega)
  k_with "truthy ref" => (k_here; (with_reducible show wpAny _ _ (truthy (Value.ref _)) _ _ _); k_dflt (refine l_truthy (by walk_at "m_isl") (by walk_at "m_sz") ?_))
  k_with "call builtin:list.append" => (k_here; (with_reducible show wpAny _ _ (call (Value.builtin _) [Value.ref _, _]) _ _ _); k_dflt (refine l_append (by assumption) (by assumption) (by k_upd) (by walk_at "m_sz") ?_); intro h' F' N'; (try k_sweep))
  k_with "call builtin:str.join" => (k_here; (with_reducible show wpAny _ _ (call (Value.builtin _) [Value.str _ _, Value.ref _]) _ _ _); k_dflt (refine l_join (by walk_at "m_isl") (by assumption) (by decide) (by omega) ?_); intro t' k')
  k_with "call ref" => (k_here; k_dflt (refine' Ctr.useT3 (c_splitrootP _ _ _ _ _ _) ?k1 ?k2 ?k3 ?k4 ?k5 ?kA ?kh ?kf ?kK ?kd ?ku ?kp ?_; walk_at "m_site"); (case kp => ((try dsimp only); omega)); intro a9 t1 t2 t3 h' k' lt9 F' l1 N'; (try simp only [AllNe, and_true] at l1); (try k_sweep); (try dsimp only); (try k_fold))
  k_with "call ref" => (k_here; k_dflt (refine' Ctr.useT5 (c_splitext1 _ _ _ _ _ _ _ _) ?k1 ?k2 ?k3 ?k4 ?k5 ?kA ?kh ?kf ?kK ?kd ?ku ?kp ?_; walk_at "m_site"); (case kp => ((try dsimp only); omega)); intro a9 b9 c9 t1 t2 h' k' F' l1 N' o4; (try simp only [AllNe, and_true] at l1); (try k_sweep); (try dsimp only); (try k_fold))
  k_with "m_size" => ((try rw [PySem.sizeLine_eq]); omega)
  k_with "call builtin:str.split" => (k_here; (with_reducible show wpAny _ _ (call (Value.builtin "str.split") [Value.str _ _, Value.str _ _]) _ _ _); k_dflt (refine KSpl.split1 (by k_asm) (by k_asm) (by decide) ?_ (by walk_at "m_size")); intro D' l9 h' k' e9 a9 F' N' l1; rw [e9] at a9; (try k_lt l1))
  k_with "m_ne" => first | assumption | exact ne_of_isE (by assumption)
  k_with "subscriptTail Name UnaryOp ref int" => (k_here; k_dflt (refine l_lastS (by walk_at "m_isl") (by walk_at "m_ne") (by assumption) ?_); intro y9 t9 hy9)
  k_with "call builtin:list.pop" => (k_here; (with_reducible show wpAny _ _ (call (Value.builtin _) [Value.ref _]) _ _ _); k_dflt (refine l_popS (by assumption) (by assumption) (by k_upd) (by walk_at "m_ne") (by walk_at "m_sz") ?_); intro v9 h' F' N'; (try k_sweep))
  k_with "call ref" => (k_here; k_dflt (refine' Ctr.useV (c_normpath _ _ _ _ _ _) ?k1 ?k2 ?k3 ?k4 ?k5 ?kA ?kh ?kf ?kK ?kd ?ku ?kp ?_; walk_at "m_site"); (case kp => ((try dsimp only); omega)); intro t9 h' k' F' N'; (try k_sweep); (try dsimp only); (try k_fold))
  k_with "call ref" => (k_here; k_dflt (refine' Ctr.useVP (c_basenameP _ _ _ _ _ _) ?k1 ?k2 ?k3 ?k4 ?k5 ?kA ?kh ?kf ?kK ?kd ?ku ?kp ?_; walk_at "m_site"); (case kp => ((try dsimp only); omega)); intro t9 h' k' lb9 F' N'; (try k_sweep); (try dsimp only); (try k_fold))
  k_with "call ref" => (k_here; k_dflt (refine' Ctr.useVP (c_dirnameP _ _ _ _ _ _) ?k1 ?k2 ?k3 ?k4 ?k5 ?kA ?kh ?kf ?kK ?kd ?ku ?kp ?_; walk_at "m_site"); (case kp => ((try dsimp only); omega)); intro t9 h' k' lb9 F' N'; (try k_sweep); (try dsimp only); (try k_fold))
  k_with "call ref" => (k_here; k_dflt (refine' Ctr.useT2 (c_splitP _ _ _ _ _ _) ?k1 ?k2 ?k3 ?k4 ?k5 ?kA ?kh ?kf ?kK ?kd ?ku ?kp ?_; walk_at "m_site"); (case kp => ((try dsimp only); omega)); intro a9 t1 t2 h' k' lb9 F' l1 N'; (try simp only [AllNe, and_true] at l1); (try k_sweep); (try dsimp only); (try k_fold))
  k_with "m_isl" => exact Fr.lst (by assumption) (by assumption)
  k_with "m_slz" => first | omega | (simp only [List.length_append, List.length_cons, List.length_nil, List.length_dropLast, List.length_reverse, List.length_take, List.length_drop]; omega)
  k_with "call builtin:len" => (k_here; (with_reducible show wpAny _ _ (call (Value.builtin "len") [Value.ref _]) _ _ _); k_dflt (refine l_lenS (by walk_at "m_isl") (by assumption) (by walk_at "m_slz") ?_); intro t9 k9)
  k_with "subscriptTail Name Name ref int" => (k_here; k_dflt (refine l_itemS (by walk_at "m_isl") (by assumption) (by walk_at "m_slz") (by walk_at "m_slz") ?_); intro y9 t9 hy9)
  k_with "subscriptTail Name Slice ref ref" => (k_here; (with_reducible show wpAny _ _ (subscriptTail _ (PySem.Expr.Slice none none (some _) _) (Value.ref _) (Value.ref _)) _ _ _); k_dflt (refine' l_rev (by assumption) (by assumption) (by walk_at "m_isl") (IsPart.int _ _) (by walk_at "m_slz") ?_ (by with_unfolding_all rfl) (by intro _; with_unfolding_all rfl)); intro D' h' F' N' l1; (try k_lt l1); (try k_sweep))
  k_with "m_lend5" => (refine LEnd.mk2 (_, _, _, _, _) (by assumption) (by assumption) (by walk_at "m_all") (by walk_at "m_ea") (by walk_at "m_own") (by walk_at "m_off") ?_; (try dsimp only))
  k_with "call ref" => (k_here; k_dflt (refine' Ctr.useV (c_abspath _ _ _ _ _ _) ?k1 ?k2 ?k3 ?k4 ?k5 ?kA ?kh ?kf ?kK ?kd ?ku ?kp ?_; walk_at "m_site"); (case kp => ((try dsimp only); exact ⟨by omega, by assumption⟩)); intro t9 h' k' F' N'; (try k_sweep); (try dsimp only); (try k_fold))
  k_with "call ref" => (k_here; k_dflt (refine' Ctr.useO (c_number _ _ _ _ _ _) ?k1 ?k2 ?k3 ?k4 ?k5 ?kA ?kh ?kf ?kK ?kd ?ku ?kp ?_ ?_; walk_at "m_site"); (case kp => ((try dsimp only); omega)); (first | intro n9 t9 h' k' o' F' N' | intro h' k' o' F' N'); (try k_sweep); (try dsimp only); (try k_fold))
  trivial
section piece_W16
section
theorem lay_own_W16_1 : True := by
  k_with "m_openD" => (
    refine Ctr.opened ?_
    intro dp un gd s Q E A₀ base h₀ outer env L m B F X T hf hk hd hu hp ret
    (refine' enter ?k1 ?k2 ?k3 ?k5 ?kA ?kF ?kK ?k6 ?k7 ?k8 ?k9 ?kB ?_ ?c2 ?c3 ?c4 ?c5; (case kA => exact rfl); (case kF => exact hf); (case kK => exact hk); (case k1 => exact B); (case k2 => exact F); (case k3 => exact X); (case k5 => exact T); (case k6 => k_is); (case k7 => k_is); (case k8 => (simp only; omega)); (case k9 => exact binds_K (X.keeps F.keep) rfl (by k_is) rfl rfl rfl); (case kB => exact locs rfl); (case c2 => exact rfl); (case c3 => exact rfl); (case c4 => exact rfl); (case c5 => decide))
    clear B F X T hf hk
    intro L' h' F' N' B' X' T'
    (try dsimp only)
    (try k_lift B')
    k_fold)
  k_with "call ref" => (k_here; (with_reducible show wpAny _ _ (call (Value.ref _) [Value.ref _]) _ _ _); k_dflt (refine stop_here ?_))
  k_with "eval IfExp" => (k_here; (fail_if_success (have cm9 : CutMark := by with_reducible assumption)); refine stop_here ?_)
  k_with "call builtin:len" => (k_here; k_dflt (refine l_len o2 ho9 ?_); rw [o3]; intro t9 k9)
  k_with "subscriptTail Name Slice ref ref" => (k_here; (with_reducible show wpAny _ _ (subscriptTail _ (PySem.Expr.Slice (some _) none none _) (Value.ref _) (Value.ref _)) _ _ _); k_dflt (refine' l_from (by assumption) (by assumption) (by walk_at "m_isl") (IsPart.int _ _) (by walk_at "m_slz") (by walk_at "m_slz") ?_ (by with_unfolding_all rfl) (by intro _; with_unfolding_all rfl)); intro D' h' F' N' l1; (try k_lt l1); (try k_sweep))
  k_with "binaryOp Mult ref int" => (k_here; k_dflt (refine KMa.mul (by assumption) (by assumption) (l_isl (by assumption) (List.Mem.head _)) (by omega) (by omega) (by simp only [List.length_cons, List.length_nil]; omega) rfl ?_); intro D' h' F' N' l1; (try k_lt l1); (try k_sweep))
  k_with "binaryOp Add ref ref" => (k_here; k_dflt (refine l_catS (by assumption) (by assumption) (l_isl (by assumption) (List.Mem.tail _ (List.Mem.head _))) (l_isl (by assumption) (List.Mem.head _)) (strs_repI _ _ _) (strs_drop hi2 _) (by walk_at "m_slr") ?_); intro D' h' F' N' l1 hcat9 hcl9; (try k_lt l1); (try k_sweep))
  k_with "call builtin:str.join" => (k_here; k_dflt (refine l_join (by walk_at "m_isl") hcat9 (by decide) (by rw [relL_eq]; omega) ?_); intro t' k')
  k_with "m_slr" => ((simp only [List.length_replicate, List.length_drop]); omega)
  trivial
set_option maxHeartbeats 4000000 in
theorem c_relpath (w mean mg mb) (x y : Str) (t u : Tok) : Ctr w mean mg mb 6 130 203 [.str x t, .str y u]
    (fun _ => 0 < x.length ∧ x.length ≤ 20000 ∧ 0 < y.length ∧ y.length ≤ 20000 ∧ Txt.startswith x (Str.ofString "/") = true ∧ Txt.startswith y (Str.ofString "/") = true ∧ (tailL (normS y)).length = (tailL (normS x)).length ∧ (tailL (normS y)).length ≤ 250) (fun h h' r => ∃ t', r = .str (relS x y) t') := by
  walk_at "m_openD"
  replace F' : Fr s.heap L' h' (fun z => List.lookup z [(Str.ofString "start", .str y u), (Str.ofString "path", .str x t)]) := F'
  obtain ⟨hz1, hz2, hz3, hz4, hz5, hz6, hz7, hz8⟩ := hp
  have hn1 := normS_len x
  have hn2 := normS_len y
  have hn3 : (Txt.lstripChars (normS x) (Str.ofString "/")).length ≤ (normS x).length := PyProof.Rows.len_lstripChars _ _
  have hn4 : (Txt.lstripChars (normS y) (Str.ofString "/")).length ≤ (normS y).length := PyProof.Rows.len_lstripChars _ _
  walk_at "m_steps"
  · refine Stop.go ?_
    rename Fr _ _ _ _ => Fw
    rename News _ _ _ _ => Nw
    refine cut_list Fw Nw (tailL (normS y)) ?_ ?_
    · have cm8 : CutMark := .mk
      walk_at "m_steps"
      · exact IsLst.mk (by assumption) (by assumption) (fun _ h => nomatch h) (by assumption) (tail_some (by with_reducible assumption))
      · exact IsLst.mk (by assumption) (by assumption) (fun _ h => nomatch h) .nil (tail_none (by with_reducible assumption))
    clear Fw Nw
    intro D1 v1 h1 tk1 F1 N1 l1 hi1
    (try dsimp only)
    (try k_fold)
    walk_at "m_steps"
    refine Stop.go ?_
    rename Fr _ _ _ _ => Fw
    rename News _ _ _ _ => Nw
    refine cut_list Fw Nw (tailL (normS x)) ?_ ?_
    · have cm8 : CutMark := .mk
      walk_at "m_steps"
      · exact IsLst.mk (by assumption) (by assumption) (fun p hp => by
          rw [List.mem_singleton.mp hp]
          first | assumption | exact And.left (by assumption) | k_ne) (by assumption) (tail_some (by with_reducible assumption))
      · exact IsLst.mk (by assumption) (by assumption) (fun p hp => by
          rw [List.mem_singleton.mp hp]
          first | assumption | exact And.left (by assumption) | k_ne) .nil (tail_none (by with_reducible assumption))
    clear Fw Nw
    intro D2 v2 h2 tk2 F2 N2 l2 hi2
    (try k_lt l2)
    (try dsimp only)
    (try k_fold)
    walk_at "m_steps"
    refine Stop.go ?_
    have hle := alikeS_le (tailL (normS y)) (tailL (normS x))
    have hq1 := tailL_len (normS y)
    have hq2 := tailL_len (normS x)
    have hrl := relL_len (tailL (normS y)) (tailL (normS x))
    have hv1 := hi1.length
    have hv2 := hi2.length
    refine' Ctr.use (c_commonprefix w mean mg mb _ D1 D2 0 v1 v2 _ _ hi1 hi2) ?k1 ?k2 ?k3 ?k4 ?k5 ?kA ?kh ?kf ?kK ?kd ?ku ?kp ?_
    walk_at "m_site"
    case kp => exact ⟨News.get (by assumption) (List.Mem.head _), l_isl (by assumption) (by k_mem), l_isl (by assumption) (by k_mem), by omega, hz7⟩
    intro r9 h' k' F' N' e' o'
    obtain ⟨p9, vs9, o1, o2, o3⟩ := o'
    subst o1
    have ho9 : vs9.length ≤ 1000000 := by omega
    (try k_sweep)
    (try dsimp only)
    (try k_fold)
    walk_at "m_steps"
    all_goals walk_at "m_end"
    all_goals rename StrsAre (_ ++ _) _ => hcat
    all_goals rw [relL_eq] at hcat
    · rename (_ ++ _ : List Value) ≠ [] => hne
      refine ⟨_, congrArg (fun z => Value.str z _) ?_⟩
      rw [relL_eq]
      exact rel_some fun e => hne ((strs_nil hcat).mpr e)
    · rename ¬ _ ≠ _ => hne
      exact ⟨_, congrArg (fun z => Value.str z _) (rel_none ((strs_nil hcat).mp (Classical.not_not.mp hne)))⟩
  · exfalso
    rename (x.length : Int) = 0 => hx0
    omega
end
end piece_W16
theorem lay_base_14 : True := by
  k_with_none
  k_with "m_open" => (
    refine Ctr.opened ?_
    intro dp un gd s Q E A₀ base h₀ outer env L m B F X T hf hk hd hu hp ret
    (refine' enter ?k1 ?k2 ?k3 ?k5 ?kA ?kF ?kK ?k6 ?k7 ?k8 ?k9 ?kB ?_ ?c2 ?c3 ?c4 ?c5; (case kA => exact rfl); (case kF => exact hf); (case kK => exact hk); (case k1 => exact B); (case k2 => exact F); (case k3 => exact X); (case k5 => exact T); (case k6 => k_is); (case k7 => k_is); (case k8 => (simp only; omega)); (case k9 => exact BindsTo.of_eq rfl); (case kB => exact locs rfl); (case c2 => exact rfl); (case c3 => exact rfl); (case c4 => exact rfl); (case c5 => decide))
    clear B F X T hf hk
    intro L' h' F' N' B' X' T'
    (try dsimp only)
    (try k_lift B')
    k_fold)
  k_with "m_end" => ((repeat (first | k_unfold | dsimp only)); refine ret _ _ _ (Fr.keep (by assumption)) ?_; (try dsimp only))
  k_with "m_site" => (
    (case k1 => k_asm); (case k2 => k_asm); (case k3 => k_asm); (case k4 => k_asm); (case k5 => k_asm); (case kA => exact rfl); (case kh => exact rfl); (case kf => exact rfl); (case kK => exact rfl)
    (case kd => (first | exact room1 hd rfl | exact room0 hd rfl | exact room1 hdep rfl | exact room0 hdep rfl | ((try simp only [depth_deeper, Around.in1_depth]); omega))); (case ku => (first | exact room1 hu rfl | exact room0 hu rfl | exact room2 hu rfl | exact room1 hun rfl | exact room0 hun rfl | exact room2 hun rfl | ((try simp only [Around.deeper_units, Around.in1_units, Around.mark_units]); omega))))
  k_with "call builtin:issubclass" => (k_here; (with_reducible show wpAny _ _ (call (Value.builtin "issubclass") [Value.type _, Value.ref _]) _ _ _); k_dflt (refine isub_str ?k1 ?_; (case k1 => exact News.get (by assumption) (by news_mem))); intro _)
  k_with "call ref" => (k_here; k_dflt (refine' Ctr.useE (c_fspath _ _ _ _ _ _) ?k1 ?k2 ?k3 ?k4 ?k5 ?kA ?kh ?kf ?kK ?kd ?ku ?kp ?_; walk_at "m_site"); (case kp => trivial); intro h' k' F' N'; (try k_sweep); (try dsimp only); (try k_fold))
  k_with "call ref" => (k_here; k_dflt (refine' Ctr.useV (c_get_sep _ _ _ _ _ _) ?k1 ?k2 ?k3 ?k4 ?k5 ?kA ?kh ?kf ?kK ?kd ?ku ?kp ?_; walk_at "m_site"); (case kp => trivial); intro t9 h' k' F' N'; (try k_sweep); (try dsimp only); (try k_fold))
  k_with "m_steps" => (repeat' (first | (k_unfold; (try dsimp only)) | walk1 | (dsimp only; walk1) | fail "no step"))
  k_with "m_all" => first | exact List.forall_mem_nil _ | (refine List.forall_mem_cons.mpr ⟨by with_unfolding_all rfl, ?_⟩; walk_at "m_all")
  k_with "m_off" => (intro z hz1 hz2; first | with_reducible rfl | ((have hz3 := hz1); (try simp only [List.contains_cons, List.contains_nil, Bool.or_false, Bool.or_eq_false_iff, beq_eq_false_iff_ne, ne_eq] at hz3); (try simp only [List.forall_mem_cons, List.not_mem_nil, false_imp_iff, implies_true, and_true, ne_eq] at hz2); first | (simp only [frM, kstB, hz1, hz2, hz3, if_false, Bool.false_eq_true]; done) | (simp only [frM, kstB, hz1, hz2, if_false, Bool.false_eq_true]; done) | (simp only [frM, kstB, hz1, hz3, if_false, Bool.false_eq_true]; done) | (simp_all [frM, kstB]; done)))
  k_with "LPost" => (dsimp only [LPost])
  k_with "m_for" => (refine Stop.go ?_; (with_unfolding_all refine' For_invVF (by assumption) ?f1 ?f2 ?_); (case f1 => exact rfl); (case f2 => exact rfl))
  k_with "m_own" => (intro p9 hp9; first | exact absurd hp9 List.not_mem_nil | exact hp9 | exact List.Mem.tail _ hp9 | exact List.Mem.tail _ (List.Mem.tail _ hp9) | exact List.Mem.tail _ (List.Mem.tail _ (List.Mem.tail _ hp9)) | ((simp only [List.nil_append, List.append_nil, List.cons_append, List.mem_cons, List.mem_append, List.not_mem_nil, or_false, false_or] at hp9 ⊢); first | exact hp9 | exact Or.inr hp9 | (rcases hp9 with hp9 | hp9 <;> simp [hp9])))
  k_with "m_lend1" => (refine LEnd.mk2 _ (by assumption) (by assumption) (by walk_at "m_all") (by walk_at "m_ea") (by walk_at "m_own") (by walk_at "m_off") ?_; (try dsimp only))
  k_with "m_lend2" => (refine LEnd.mk2 (_, _) (by assumption) (by assumption) (by walk_at "m_all") (by walk_at "m_ea") (by walk_at "m_own") (by walk_at "m_off") ?_; (try dsimp only))
  k_with "m_lend3" => (refine LEnd.mk2 (_, _, _) (by assumption) (by assumption) (by walk_at "m_all") (by walk_at "m_ea") (by walk_at "m_own") (by walk_at "m_off") ?_; (try dsimp only))
  k_with "m_lend4" => (refine LEnd.mk2 (_, _, _, _) (by assumption) (by assumption) (by walk_at "m_all") (by walk_at "m_ea") (by walk_at "m_own") (by walk_at "m_off") ?_; (try dsimp only))
  k_with "m_ea" => first | exact (fun _ h9 => absurd h9 List.not_mem_nil) | (refine List.forall_mem_cons.mpr ⟨by k_mem, ?_⟩; walk_at "m_ea")
  k_with "m_isl" => first | with_reducible assumption | exact l_isl (by with_reducible assumption) (by k_mem) | (refine l_isl (by assumption) (by k_mem)) | assumption
  k_with "m_sz" => first | omega | ((simp only [List.length_append, List.length_cons, List.length_nil, List.length_dropLast, List.length_reverse]); omega)
  k_with "truthy ref" => (k_here; (with_reducible show wpAny _ _ (truthy (Value.ref _)) _ _ _); k_dflt (refine l_truthy (by walk_at "m_isl") (by walk_at "m_sz") ?_))
  k_with "call builtin:list.append" => (k_here; (with_reducible show wpAny _ _ (call (Value.builtin _) [Value.ref _, _]) _ _ _); k_dflt (refine l_append (by assumption) (by assumption) (by k_upd) (by walk_at "m_sz") ?_); intro h' F' N'; (try k_sweep))
  k_with "call builtin:str.join" => (k_here; (with_reducible show wpAny _ _ (call (Value.builtin _) [Value.str _ _, Value.ref _]) _ _ _); k_dflt (refine l_join (by walk_at "m_isl") (by assumption) (by decide) (by omega) ?_); intro t' k')
  k_with "call ref" => (k_here; k_dflt (refine' Ctr.useT3 (c_splitrootP _ _ _ _ _ _) ?k1 ?k2 ?k3 ?k4 ?k5 ?kA ?kh ?kf ?kK ?kd ?ku ?kp ?_; walk_at "m_site"); (case kp => ((try dsimp only); omega)); intro a9 t1 t2 t3 h' k' lt9 F' l1 N'; (try simp only [AllNe, and_true] at l1); (try k_sweep); (try dsimp only); (try k_fold))
  k_with "call ref" => (k_here; k_dflt (refine' Ctr.useT5 (c_splitext1 _ _ _ _ _ _ _ _) ?k1 ?k2 ?k3 ?k4 ?k5 ?kA ?kh ?kf ?kK ?kd ?ku ?kp ?_; walk_at "m_site"); (case kp => ((try dsimp only); omega)); intro a9 b9 c9 t1 t2 h' k' F' l1 N' o4; (try simp only [AllNe, and_true] at l1); (try k_sweep); (try dsimp only); (try k_fold))
  k_with "m_size" => ((try rw [PySem.sizeLine_eq]); omega)
  k_with "call builtin:str.split" => (k_here; (with_reducible show wpAny _ _ (call (Value.builtin "str.split") [Value.str _ _, Value.str _ _]) _ _ _); k_dflt (refine KSpl.split1 (by k_asm) (by k_asm) (by decide) ?_ (by walk_at "m_size")); intro D' l9 h' k' e9 a9 F' N' l1; rw [e9] at a9; (try k_lt l1))
  k_with "m_ne" => first | assumption | exact ne_of_isE (by assumption)
  k_with "subscriptTail Name UnaryOp ref int" => (k_here; k_dflt (refine l_lastS (by walk_at "m_isl") (by walk_at "m_ne") (by assumption) ?_); intro y9 t9 hy9)
  k_with "call builtin:list.pop" => (k_here; (with_reducible show wpAny _ _ (call (Value.builtin _) [Value.ref _]) _ _ _); k_dflt (refine l_popS (by assumption) (by assumption) (by k_upd) (by walk_at "m_ne") (by walk_at "m_sz") ?_); intro v9 h' F' N'; (try k_sweep))
  k_with "call ref" => (k_here; k_dflt (refine' Ctr.useV (c_normpath _ _ _ _ _ _) ?k1 ?k2 ?k3 ?k4 ?k5 ?kA ?kh ?kf ?kK ?kd ?ku ?kp ?_; walk_at "m_site"); (case kp => ((try dsimp only); omega)); intro t9 h' k' F' N'; (try k_sweep); (try dsimp only); (try k_fold))
  k_with "call ref" => (k_here; k_dflt (refine' Ctr.useVP (c_basenameP _ _ _ _ _ _) ?k1 ?k2 ?k3 ?k4 ?k5 ?kA ?kh ?kf ?kK ?kd ?ku ?kp ?_; walk_at "m_site"); (case kp => ((try dsimp only); omega)); intro t9 h' k' lb9 F' N'; (try k_sweep); (try dsimp only); (try k_fold))
  k_with "call ref" => (k_here; k_dflt (refine' Ctr.useVP (c_dirnameP _ _ _ _ _ _) ?k1 ?k2 ?k3 ?k4 ?k5 ?kA ?kh ?kf ?kK ?kd ?ku ?kp ?_; walk_at "m_site"); (case kp => ((try dsimp only); omega)); intro t9 h' k' lb9 F' N'; (try k_sweep); (try dsimp only); (try k_fold))
  k_with "call ref" => (k_here; k_dflt (refine' Ctr.useT2 (c_splitP _ _ _ _ _ _) ?k1 ?k2 ?k3 ?k4 ?k5 ?kA ?kh ?kf ?kK ?kd ?ku ?kp ?_; walk_at "m_site"); (case kp => ((try dsimp only); omega)); intro a9 t1 t2 h' k' lb9 F' l1 N'; (try simp only [AllNe, and_true] at l1); (try k_sweep); (try dsimp only); (try k_fold))
  k_with "m_isl" => exact Fr.lst (by assumption) (by assumption)
  k_with "m_slz" => first | omega | (simp only [List.length_append, List.length_cons, List.length_nil, List.length_dropLast, List.length_reverse, List.length_take, List.length_drop]; omega)
  k_with "call builtin:len" => (k_here; (with_reducible show wpAny _ _ (call (Value.builtin "len") [Value.ref _]) _ _ _); k_dflt (refine l_lenS (by walk_at "m_isl") (by assumption) (by walk_at "m_slz") ?_); intro t9 k9)
  k_with "subscriptTail Name Name ref int" => (k_here; k_dflt (refine l_itemS (by walk_at "m_isl") (by assumption) (by walk_at "m_slz") (by walk_at "m_slz") ?_); intro y9 t9 hy9)
  k_with "subscriptTail Name Slice ref ref" => (k_here; (with_reducible show wpAny _ _ (subscriptTail _ (PySem.Expr.Slice none none (some _) _) (Value.ref _) (Value.ref _)) _ _ _); k_dflt (refine' l_rev (by assumption) (by assumption) (by walk_at "m_isl") (IsPart.int _ _) (by walk_at "m_slz") ?_ (by with_unfolding_all rfl) (by intro _; with_unfolding_all rfl)); intro D' h' F' N' l1; (try k_lt l1); (try k_sweep))
  k_with "m_lend5" => (refine LEnd.mk2 (_, _, _, _, _) (by assumption) (by assumption) (by walk_at "m_all") (by walk_at "m_ea") (by walk_at "m_own") (by walk_at "m_off") ?_; (try dsimp only))
  k_with "call ref" => (k_here; k_dflt (refine' Ctr.useV (c_abspath _ _ _ _ _ _) ?k1 ?k2 ?k3 ?k4 ?k5 ?kA ?kh ?kf ?kK ?kd ?ku ?kp ?_; walk_at "m_site"); (case kp => ((try dsimp only); exact ⟨by omega, by assumption⟩)); intro t9 h' k' F' N'; (try k_sweep); (try dsimp only); (try k_fold))
  k_with "call ref" => (k_here; k_dflt (refine' Ctr.useO (c_number _ _ _ _ _ _) ?k1 ?k2 ?k3 ?k4 ?k5 ?kA ?kh ?kf ?kK ?kd ?ku ?kp ?_ ?_; walk_at "m_site"); (case kp => ((try dsimp only); omega)); (first | intro n9 t9 h' k' o' F' N' | intro h' k' o' F' N'); (try k_sweep); (try dsimp only); (try k_fold))
  trivial
section piece_W17
section
theorem lay_own_W17_1 : True := by
  k_with "m_openX" => (
    (refine' enter ?k1 ?k2 ?k3 ?k5 ?kA ?kF ?kK ?k6 ?k7 ?k8 ?k9 ?kB ?_ ?c2 ?c3 ?c4 ?c5; (case kA => exact rfl); (case kF => exact hf); (case kK => exact hk); (case k1 => exact B); (case k2 => exact F); (case k3 => exact X); (case k5 => exact T); (case k6 => k_is); (case k7 => k_is); (case k8 => (simp only; omega)); (case k9 => exact BindsTo.of_eq rfl); (case kB => exact locs rfl); (case c2 => exact rfl); (case c3 => exact rfl); (case c4 => exact rfl); (case c5 => decide))
    intro L' h' F' N' B' X' T'
    (try dsimp only)
    (try k_lift B')
    k_fold)
  k_with "call ref" => (k_here; refine stop_here ?_)
  trivial
/-- two slots of a frame apart, the heap only grows -/
noncomputable def ExtL (L : Addr) (h h' : Heap) : Prop := ∃ g, KtsTurn [L] h g ∧ Ext g h'
theorem sub_ve : isSubtype (.type "ValueError") (.type "ValueError") = pure true := by rw [isSubtype_type]; kernel_rfl
set_option maxHeartbeats 4000000 in
theorem c_read (w mean mg mb) (x : Str) (t : Tok) (A : Around) (s : Shared) (Q E : Value → Shared → Prop) (A₀ : Around) (base h₀ : Heap) (env : Env) (L : Addr) (m : Str → Option Value)
    (B : Below A₀ base [] h₀) (F : Fr h₀ L s.heap m) (XB : Frag.In (hd.heap_1 (World.params w)) base) (TB : Top hd.view_1 (looseW hd.view_1 [Str.ofString "relpath"]) mean mg mb base)
    (hA : A.frames = some [env]) (hh : A.handled = none) (hf : env.frame = some L) (hk : env.scope.kind = .function)
    (hd : A.depth + 3 < recursionLimit) (hu : A.units + 60 < cLine) (hal : Al x) (hx : x.length ≤ 640)
    (ret : ∀ r h' tk', ExtL L s.heap h' → PlaceIs s.heap h' r (readS x) → Q r { s with heap := h', toks := tk' }) :
    wpAny (model PySem.Challenge.pw_mq0396_01 w) A (call (.ref 239) [.str x t]) Q E s := by
  obtain ⟨hdl, dp, fr, gd, un⟩ := A
  simp only at hA hh hd hu
  subst hA hh
  have X := XB.keeps B.stays
  have T := TB.keeps B.stays
  walk_at "m_openX"
  replace F' : Fr s.heap L' h' (fun y => List.lookup y [(Str.ofString "name", Value.str x t)]) := F'
  have DL : KtsDicts [L] s.heap := fun b hb => by
    rw [List.mem_singleton.mp hb]
    obtain ⟨o, es, n, ho, hdt, _⟩ := F.ns
    exact ⟨o, es, n, ho, hdt⟩
  have ef : [env].filterMap (·.frame) = [L] := by simp [hf]
  walk_at "m_steps"
  refine Stop.go ?_
  refine c_glc w mean mg mb x t _ _ _ _ _ base s.heap [env] _ L' _ B' F' X' T' rfl rfl rfl rfl (by simp only [depth_deeper]; omega) (by simp only [Around.deeper_units]; omega) hal hx ?_ ?_
  · intro p q hr a t1 t2 h2 tk2 e2 hn hg
    (repeat (first | k_unfold | dsimp only))
    refine ret _ _ _ ⟨s.heap, KtsTurn.refl, Ext.trans (Fr.keep F') e2⟩ ?_
    rw [hr]
    exact ⟨a, t1, t2, rfl, kts_none F'.keep hn, hg⟩
  · intro hr e h2 tk2 R U
    (repeat (first | k_unfold | dsimp only))
    refine caught_SN0 (T' := "ValueError") R F' B' U XB TB ?D KtsTurn.refl ?ex PyProof.Rows.Boot.«ValueError» ?hn PySem.F.isExc_ValueError PySem.F.notTuple_ValueError sub_ve ?_
    case D => rw [ef]; exact DL
    case ex => k_is
    case hn => decide
    intro h3 g3 T3 F3 N3 K3 X3 P3 D3
    rw [ef] at T3
    walk_at "m_steps"
    (repeat (first | k_unfold | dsimp only))
    refine ret _ _ _ ⟨g3, T3, Fr.keep F3⟩ ?_
    rw [hr]
    exact ⟨_, rfl⟩
end
end piece_W17
theorem lay_base_15 : True := by
  k_with_none
  k_with "m_open" => (
    refine Ctr.opened ?_
    intro dp un gd s Q E A₀ base h₀ outer env L m B F X T hf hk hd hu hp ret
    (refine' enter ?k1 ?k2 ?k3 ?k5 ?kA ?kF ?kK ?k6 ?k7 ?k8 ?k9 ?kB ?_ ?c2 ?c3 ?c4 ?c5; (case kA => exact rfl); (case kF => exact hf); (case kK => exact hk); (case k1 => exact B); (case k2 => exact F); (case k3 => exact X); (case k5 => exact T); (case k6 => k_is); (case k7 => k_is); (case k8 => (simp only; omega)); (case k9 => exact BindsTo.of_eq rfl); (case kB => exact locs rfl); (case c2 => exact rfl); (case c3 => exact rfl); (case c4 => exact rfl); (case c5 => decide))
    clear B F X T hf hk
    intro L' h' F' N' B' X' T'
    (try dsimp only)
    (try k_lift B')
    k_fold)
  k_with "m_end" => ((repeat (first | k_unfold | dsimp only)); refine ret _ _ _ (Fr.keep (by assumption)) ?_; (try dsimp only))
  k_with "m_site" => (
    (case k1 => k_asm); (case k2 => k_asm); (case k3 => k_asm); (case k4 => k_asm); (case k5 => k_asm); (case kA => exact rfl); (case kh => exact rfl); (case kf => exact rfl); (case kK => exact rfl)
    (case kd => (first | exact room1 hd rfl | exact room0 hd rfl | exact room1 hdep rfl | exact room0 hdep rfl | ((try simp only [depth_deeper, Around.in1_depth]); omega))); (case ku => (first | exact room1 hu rfl | exact room0 hu rfl | exact room2 hu rfl | exact room1 hun rfl | exact room0 hun rfl | exact room2 hun rfl | ((try simp only [Around.deeper_units, Around.in1_units, Around.mark_units]); omega))))
  k_with "call builtin:issubclass" => (k_here; (with_reducible show wpAny _ _ (call (Value.builtin "issubclass") [Value.type _, Value.ref _]) _ _ _); k_dflt (refine isub_str ?k1 ?_; (case k1 => exact News.get (by assumption) (by news_mem))); intro _)
  k_with "call ref" => (k_here; k_dflt (refine' Ctr.useE (c_fspath _ _ _ _ _ _) ?k1 ?k2 ?k3 ?k4 ?k5 ?kA ?kh ?kf ?kK ?kd ?ku ?kp ?_; walk_at "m_site"); (case kp => trivial); intro h' k' F' N'; (try k_sweep); (try dsimp only); (try k_fold))
  k_with "call ref" => (k_here; k_dflt (refine' Ctr.useV (c_get_sep _ _ _ _ _ _) ?k1 ?k2 ?k3 ?k4 ?k5 ?kA ?kh ?kf ?kK ?kd ?ku ?kp ?_; walk_at "m_site"); (case kp => trivial); intro t9 h' k' F' N'; (try k_sweep); (try dsimp only); (try k_fold))
  k_with "m_steps" => (repeat' (first | (k_unfold; (try dsimp only)) | walk1 | (dsimp only; walk1) | fail "no step"))
  k_with "m_all" => first | exact List.forall_mem_nil _ | (refine List.forall_mem_cons.mpr ⟨by with_unfolding_all rfl, ?_⟩; walk_at "m_all")
  k_with "m_off" => (intro z hz1 hz2; first | with_reducible rfl | ((have hz3 := hz1); (try simp only [List.contains_cons, List.contains_nil, Bool.or_false, Bool.or_eq_false_iff, beq_eq_false_iff_ne, ne_eq] at hz3); (try simp only [List.forall_mem_cons, List.not_mem_nil, false_imp_iff, implies_true, and_true, ne_eq] at hz2); first | (simp only [frM, kstB, hz1, hz2, hz3, if_false, Bool.false_eq_true]; done) | (simp only [frM, kstB, hz1, hz2, if_false, Bool.false_eq_true]; done) | (simp only [frM, kstB, hz1, hz3, if_false, Bool.false_eq_true]; done) | (simp_all [frM, kstB]; done)))
  k_with "LPost" => (dsimp only [LPost])
  k_with "m_for" => (refine Stop.go ?_; (with_unfolding_all refine' For_invVF (by assumption) ?f1 ?f2 ?_); (case f1 => exact rfl); (case f2 => exact rfl))
  k_with "m_own" => (intro p9 hp9; first | exact absurd hp9 List.not_mem_nil | exact hp9 | exact List.Mem.tail _ hp9 | exact List.Mem.tail _ (List.Mem.tail _ hp9) | exact List.Mem.tail _ (List.Mem.tail _ (List.Mem.tail _ hp9)) | ((simp only [List.nil_append, List.append_nil, List.cons_append, List.mem_cons, List.mem_append, List.not_mem_nil, or_false, false_or] at hp9 ⊢); first | exact hp9 | exact Or.inr hp9 | (rcases hp9 with hp9 | hp9 <;> simp [hp9])))
  k_with "m_lend1" => (refine LEnd.mk2 _ (by assumption) (by assumption) (by walk_at "m_all") (by walk_at "m_ea") (by walk_at "m_own") (by walk_at "m_off") ?_; (try dsimp only))
  k_with "m_lend2" => (refine LEnd.mk2 (_, _) (by assumption) (by assumption) (by walk_at "m_all") (by walk_at "m_ea") (by walk_at "m_own") (by walk_at "m_off") ?_; (try dsimp only))
  k_with "m_lend3" => (refine LEnd.mk2 (_, _, _) (by assumption) (by assumption) (by walk_at "m_all") (by walk_at "m_ea") (by walk_at "m_own") (by walk_at "m_off") ?_; (try dsimp only))
  k_with "m_lend4" => (refine LEnd.mk2 (_, _, _, _) (by assumption) (by assumption) (by walk_at "m_all") (by walk_at "m_ea") (by walk_at "m_own") (by walk_at "m_off") ?_; (try dsimp only))
  k_with "m_ea" => first | exact (fun _ h9 => absurd h9 List.not_mem_nil) | (refine List.forall_mem_cons.mpr ⟨by k_mem, ?_⟩; walk_at "m_ea")
  k_with "m_isl" => first | with_reducible assumption | exact l_isl (by with_reducible assumption) (by k_mem) | (refine l_isl (by assumption) (by k_mem)) | assumption
  k_with "m_sz" => first | omega | ((simp only [List.length_append, List.length_cons, List.length_nil, List.length_dropLast, List.length_reverse]); omega)
  k_with "truthy ref" => (k_here; (with_reducible show wpAny _ _ (truthy (Value.ref _)) _ _ _); k_dflt (refine l_truthy (by walk_at "m_isl") (by walk_at "m_sz") ?_))
  k_with "call builtin:list.append" => (k_here; (with_reducible show wpAny _ _ (call (Value.builtin _) [Value.ref _, _]) _ _ _); k_dflt (refine l_append (by assumption) (by assumption) (by k_upd) (by walk_at "m_sz") ?_); intro h' F' N'; (try k_sweep))
  k_with "call builtin:str.join" => (k_here; (with_reducible show wpAny _ _ (call (Value.builtin _) [Value.str _ _, Value.ref _]) _ _ _); k_dflt (refine l_join (by walk_at "m_isl") (by assumption) (by decide) (by omega) ?_); intro t' k')
  k_with "call ref" => (k_here; k_dflt (refine' Ctr.useT3 (c_splitrootP _ _ _ _ _ _) ?k1 ?k2 ?k3 ?k4 ?k5 ?kA ?kh ?kf ?kK ?kd ?ku ?kp ?_; walk_at "m_site"); (case kp => ((try dsimp only); omega)); intro a9 t1 t2 t3 h' k' lt9 F' l1 N'; (try simp only [AllNe, and_true] at l1); (try k_sweep); (try dsimp only); (try k_fold))
  k_with "call ref" => (k_here; k_dflt (refine' Ctr.useT5 (c_splitext1 _ _ _ _ _ _ _ _) ?k1 ?k2 ?k3 ?k4 ?k5 ?kA ?kh ?kf ?kK ?kd ?ku ?kp ?_; walk_at "m_site"); (case kp => ((try dsimp only); omega)); intro a9 b9 c9 t1 t2 h' k' F' l1 N' o4; (try simp only [AllNe, and_true] at l1); (try k_sweep); (try dsimp only); (try k_fold))
  k_with "m_size" => ((try rw [PySem.sizeLine_eq]); omega)
  k_with "call builtin:str.split" => (k_here; (with_reducible show wpAny _ _ (call (Value.builtin "str.split") [Value.str _ _, Value.str _ _]) _ _ _); k_dflt (refine KSpl.split1 (by k_asm) (by k_asm) (by decide) ?_ (by walk_at "m_size")); intro D' l9 h' k' e9 a9 F' N' l1; rw [e9] at a9; (try k_lt l1))
  k_with "m_ne" => first | assumption | exact ne_of_isE (by assumption)
  k_with "subscriptTail Name UnaryOp ref int" => (k_here; k_dflt (refine l_lastS (by walk_at "m_isl") (by walk_at "m_ne") (by assumption) ?_); intro y9 t9 hy9)
  k_with "call builtin:list.pop" => (k_here; (with_reducible show wpAny _ _ (call (Value.builtin _) [Value.ref _]) _ _ _); k_dflt (refine l_popS (by assumption) (by assumption) (by k_upd) (by walk_at "m_ne") (by walk_at "m_sz") ?_); intro v9 h' F' N'; (try k_sweep))
  k_with "call ref" => (k_here; k_dflt (refine' Ctr.useV (c_normpath _ _ _ _ _ _) ?k1 ?k2 ?k3 ?k4 ?k5 ?kA ?kh ?kf ?kK ?kd ?ku ?kp ?_; walk_at "m_site"); (case kp => ((try dsimp only); omega)); intro t9 h' k' F' N'; (try k_sweep); (try dsimp only); (try k_fold))
  k_with "call ref" => (k_here; k_dflt (refine' Ctr.useVP (c_basenameP _ _ _ _ _ _) ?k1 ?k2 ?k3 ?k4 ?k5 ?kA ?kh ?kf ?kK ?kd ?ku ?kp ?_; walk_at "m_site"); (case kp => ((try dsimp only); omega)); intro t9 h' k' lb9 F' N'; (try k_sweep); (try dsimp only); (try k_fold))
  k_with "call ref" => (k_here; k_dflt (refine' Ctr.useVP (c_dirnameP _ _ _ _ _ _) ?k1 ?k2 ?k3 ?k4 ?k5 ?kA ?kh ?kf ?kK ?kd ?ku ?kp ?_; walk_at "m_site"); (case kp => ((try dsimp only); omega)); intro t9 h' k' lb9 F' N'; (try k_sweep); (try dsimp only); (try k_fold))
  k_with "call ref" => (k_here; k_dflt (refine' Ctr.useT2 (c_splitP _ _ _ _ _ _) ?k1 ?k2 ?k3 ?k4 ?k5 ?kA ?kh ?kf ?kK ?kd ?ku ?kp ?_; walk_at "m_site"); (case kp => ((try dsimp only); omega)); intro a9 t1 t2 h' k' lb9 F' l1 N'; (try simp only [AllNe, and_true] at l1); (try k_sweep); (try dsimp only); (try k_fold))
  k_with "m_isl" => exact Fr.lst (by assumption) (by assumption)
  k_with "m_slz" => first | omega | (simp only [List.length_append, List.length_cons, List.length_nil, List.length_dropLast, List.length_reverse, List.length_take, List.length_drop]; omega)
  k_with "call builtin:len" => (k_here; (with_reducible show wpAny _ _ (call (Value.builtin "len") [Value.ref _]) _ _ _); k_dflt (refine l_lenS (by walk_at "m_isl") (by assumption) (by walk_at "m_slz") ?_); intro t9 k9)
  k_with "subscriptTail Name Name ref int" => (k_here; k_dflt (refine l_itemS (by walk_at "m_isl") (by assumption) (by walk_at "m_slz") (by walk_at "m_slz") ?_); intro y9 t9 hy9)
  k_with "subscriptTail Name Slice ref ref" => (k_here; (with_reducible show wpAny _ _ (subscriptTail _ (PySem.Expr.Slice none none (some _) _) (Value.ref _) (Value.ref _)) _ _ _); k_dflt (refine' l_rev (by assumption) (by assumption) (by walk_at "m_isl") (IsPart.int _ _) (by walk_at "m_slz") ?_ (by with_unfolding_all rfl) (by intro _; with_unfolding_all rfl)); intro D' h' F' N' l1; (try k_lt l1); (try k_sweep))
  k_with "m_lend5" => (refine LEnd.mk2 (_, _, _, _, _) (by assumption) (by assumption) (by walk_at "m_all") (by walk_at "m_ea") (by walk_at "m_own") (by walk_at "m_off") ?_; (try dsimp only))
  k_with "call ref" => (k_here; k_dflt (refine' Ctr.useV (c_abspath _ _ _ _ _ _) ?k1 ?k2 ?k3 ?k4 ?k5 ?kA ?kh ?kf ?kK ?kd ?ku ?kp ?_; walk_at "m_site"); (case kp => ((try dsimp only); exact ⟨by omega, by assumption⟩)); intro t9 h' k' F' N'; (try k_sweep); (try dsimp only); (try k_fold))
  k_with "call ref" => (k_here; k_dflt (refine' Ctr.useO (c_number _ _ _ _ _ _) ?k1 ?k2 ?k3 ?k4 ?k5 ?kA ?kh ?kf ?kK ?kd ?ku ?kp ?_ ?_; walk_at "m_site"); (case kp => ((try dsimp only); omega)); (first | intro n9 t9 h' k' o' F' N' | intro h' k' o' F' N'); (try k_sweep); (try dsimp only); (try k_fold))
  trivial
section piece_W18
section
theorem ExtL.fr {h₀ h h' : Heap} {L : Addr} {m : Str → Option Value} (e : ExtL L h h') (F : Fr h₀ L h m) : Fr h₀ L h' m := by
  obtain ⟨g, T, x⟩ := e
  have hL := kts_self F
  refine ⟨?_, fun b o eb => x _ _ (T.other b o (F.keep b o eb) (fun hm => ?_)), F.above⟩
  · obtain ⟨o, es, ep, ho, hd, r⟩ := F.ns
    obtain ⟨sl, hs⟩ := T.frame L o ho (List.Mem.head _)
    exact ⟨_, es, ep, x _ _ hs, hd, r⟩
  · rw [List.mem_singleton.mp hm, hL] at eb; cases eb
theorem ExtL.news {h₀ h h' : Heap} {L : Addr} {news : List (Addr × Obj)} (e : ExtL L h h') (N : News h₀ L h news) : News h₀ L h' news := by
  obtain ⟨g, T, x⟩ := e
  intro p hp
  exact ⟨x _ _ (T.other _ _ (N p hp).1 (fun hm => (N p hp).2.1 (List.mem_singleton.mp hm))), (N p hp).2⟩
theorem place_new {h₀ h h' : Heap} {L : Addr} {m : Str → Option Value} {news : List (Addr × Obj)} {r : Value} {p : Option (Int × Int)} (F : Fr h₀ L h m) (N : News h₀ L h news) (N' : News h₀ L h' news) (o : PlaceIs h h' r p) :
    ∃ own, News h₀ L h' (own ++ news) ∧ (∀ q ∈ own, ∀ z ∈ news, z.1 ≠ q.1) ∧ PlIn r p own := by
  cases p with
  | none =>
    obtain ⟨t, rfl⟩ := o
    exact ⟨[], N', (fun _ h => nomatch h), ⟨t, rfl⟩⟩
  | some q =>
    obtain ⟨a, t1, t2, rfl, hn, hg⟩ := o
    refine ⟨[(a, tupOf [.int q.1 t1, .int q.2 t2])], news_add F N' hn hg, ?_, ⟨a, t1, t2, rfl, List.Mem.head _⟩⟩
    intro z hz w hw
    rw [List.mem_singleton.mp hz]
    exact news_ne N hn w hw
theorem use_place {w mean mg mb} {x : Str} {t : Tok} {A A₀ : Around} {base h₀ : Heap} {outer : List Env} {env : Env} {L : Addr} {m : Str → Option Value} {s : Shared} {news : List (Addr × Obj)} {Q E : Value → Shared → Prop}
    (B : Below A₀ base outer h₀) (F : Fr h₀ L s.heap m) (X : Frag.In (hd.heap_1 (World.params w)) h₀) (N : News h₀ L s.heap news)
    (T : Top hd.view_1 (looseW hd.view_1 [Str.ofString "relpath"]) mean mg mb h₀)
    (hA : A.frames = some (env :: outer)) (hh : A.handled = none) (hf : env.frame = some L) (hk : env.scope.kind = .function)
    (hd : A.depth + 2 < recursionLimit) (hu : A.units + 40 < cLine) (hp : x.length ≤ 1000)
    (h : ∀ r h' tk' own, Fr h₀ L h' m → News h₀ L h' (own ++ news) → (∀ q ∈ own, ∀ z ∈ news, z.1 ≠ q.1) → PlIn r (placeS x) own → Q r { s with heap := h', toks := tk' }) :
    wpAny (model PySem.Challenge.pw_mq0396_01 w) A (call (.ref 232) [.str x t]) Q E s :=
  Ctr.use (c_place w mean mg mb x t) B F X N T hA hh hf hk hd hu hp fun r h' tk' F' N' _ o => by
    obtain ⟨own, N9, d9, p9⟩ := place_new F N N' o
    exact h r h' tk' own F' N9 d9 p9
theorem use_read {w mean mg mb} {x : Str} {t : Tok} {A A₀ : Around} {h₀ : Heap} {env : Env} {L : Addr} {m : Str → Option Value} {s : Shared} {news : List (Addr × Obj)} {Q E : Value → Shared → Prop}
    (B : Below A₀ h₀ [] h₀) (F : Fr h₀ L s.heap m) (X : Frag.In (hd.heap_1 (World.params w)) h₀) (N : News h₀ L s.heap news)
    (T : Top hd.view_1 (looseW hd.view_1 [Str.ofString "relpath"]) mean mg mb h₀)
    (hA : A.frames = some [env]) (hh : A.handled = none) (hf : env.frame = some L) (hk : env.scope.kind = .function)
    (hd : A.depth + 3 < recursionLimit) (hu : A.units + 60 < cLine) (hp : Al x ∧ x.length ≤ 640)
    (h : ∀ r h' tk' own, Fr h₀ L h' m → News h₀ L h' (own ++ news) → (∀ q ∈ own, ∀ z ∈ news, z.1 ≠ q.1) → PlIn r (placeS x) own → Q r { s with heap := h', toks := tk' }) :
    wpAny (model PySem.Challenge.pw_mq0396_01 w) A (call (.ref 239) [.str x t]) Q E s :=
  c_read w mean mg mb x t A s Q E A₀ h₀ h₀ env L m B F X T hA hh hf hk hd hu hp.1 hp.2 fun r h' tk' e o => by
    rw [show readS x = placeS x from place_read x] at o
    obtain ⟨own, N9, d9, p9⟩ := place_new F N (e.news N) o
    exact h r h' tk' own (e.fr F) N9 d9 p9
end
end piece_W18
theorem lay_law : True := by
  k_with_none
  k_with "call ref" => (k_here; (with_reducible show wpAny _ _ (call (Value.ref _) _) _ _ _); refine stop_here ?_)
  k_with "compareOp NotEq ref ref" => (k_here; refine stop_here ?_)
  k_with "compareOp NotEq str str" => (k_here; refine stop_here ?_)
  k_with "compareOp NotEq" => (k_here; refine stop_here ?_)
  k_with "m_open" => (
    refine Ctr.opened ?_
    intro dp un gd s Q E A₀ base h₀ outer env L m B F X T hf hk hd hu hp ret
    (refine' enter ?k1 ?k2 ?k3 ?k5 ?kA ?kF ?kK ?k6 ?k7 ?k8 ?k9 ?kB ?_ ?c2 ?c3 ?c4 ?c5; (case kA => exact rfl); (case kF => exact hf); (case kK => exact hk); (case k1 => exact B); (case k2 => exact F); (case k3 => exact X); (case k5 => exact T); (case k6 => k_is); (case k7 => k_is); (case k8 => (simp only; omega)); (case k9 => exact BindsTo.of_eq rfl); (case kB => exact locs rfl); (case c2 => exact rfl); (case c3 => exact rfl); (case c4 => exact rfl); (case c5 => decide))
    clear B F X T hf hk
    intro L' h' F' N' B' X' T'
    (try dsimp only)
    (try k_lift B')
    k_fold)
  k_with "m_end" => ((repeat (first | k_unfold | dsimp only)); refine ret _ _ _ (Fr.keep (by assumption)) ?_; (try dsimp only))
  k_with "m_site" => (
    (case k1 => k_asm); (case k2 => k_asm); (case k3 => k_asm); (case k4 => k_asm); (case k5 => k_asm); (case kA => exact rfl); (case kh => exact rfl); (case kf => exact rfl); (case kK => exact rfl)
    (case kd => (first | exact room1 hd rfl | exact room0 hd rfl | exact room1 hdep rfl | exact room0 hdep rfl | ((try simp only [depth_deeper, Around.in1_depth]); omega))); (case ku => (first | exact room1 hu rfl | exact room0 hu rfl | exact room2 hu rfl | exact room1 hun rfl | exact room0 hun rfl | exact room2 hun rfl | ((try simp only [Around.deeper_units, Around.in1_units, Around.mark_units]); omega))))
  k_with "call builtin:issubclass" => (k_here; (with_reducible show wpAny _ _ (call (Value.builtin "issubclass") [Value.type _, Value.ref _]) _ _ _); k_dflt (refine isub_str ?k1 ?_; (case k1 => exact News.get (by assumption) (by news_mem))); intro _)
  k_with "call ref" => (k_here; k_dflt (refine' Ctr.useE (c_fspath _ _ _ _ _ _) ?k1 ?k2 ?k3 ?k4 ?k5 ?kA ?kh ?kf ?kK ?kd ?ku ?kp ?_; walk_at "m_site"); (case kp => trivial); intro h' k' F' N'; (try k_sweep); (try dsimp only); (try k_fold))
  k_with "call ref" => (k_here; k_dflt (refine' Ctr.useV (c_get_sep _ _ _ _ _ _) ?k1 ?k2 ?k3 ?k4 ?k5 ?kA ?kh ?kf ?kK ?kd ?ku ?kp ?_; walk_at "m_site"); (case kp => trivial); intro t9 h' k' F' N'; (try k_sweep); (try dsimp only); (try k_fold))
  k_with "m_steps" => (repeat' (first | (k_unfold; (try dsimp only)) | walk1 | (dsimp only; walk1) | fail "no step"))
  k_with "m_all" => first | exact List.forall_mem_nil _ | (refine List.forall_mem_cons.mpr ⟨by with_unfolding_all rfl, ?_⟩; walk_at "m_all")
  k_with "m_off" => (intro z hz1 hz2; first | with_reducible rfl | ((have hz3 := hz1); (try simp only [List.contains_cons, List.contains_nil, Bool.or_false, Bool.or_eq_false_iff, beq_eq_false_iff_ne, ne_eq] at hz3); (try simp only [List.forall_mem_cons, List.not_mem_nil, false_imp_iff, implies_true, and_true, ne_eq] at hz2); first | (simp only [frM, kstB, hz1, hz2, hz3, if_false, Bool.false_eq_true]; done) | (simp only [frM, kstB, hz1, hz2, if_false, Bool.false_eq_true]; done) | (simp only [frM, kstB, hz1, hz3, if_false, Bool.false_eq_true]; done) | (simp_all [frM, kstB]; done)))
  k_with "LPost" => (dsimp only [LPost])
  k_with "m_for" => (refine Stop.go ?_; (with_unfolding_all refine' For_invVF (by assumption) ?f1 ?f2 ?_); (case f1 => exact rfl); (case f2 => exact rfl))
  k_with "m_own" => (intro p9 hp9; first | exact absurd hp9 List.not_mem_nil | exact hp9 | exact List.Mem.tail _ hp9 | exact List.Mem.tail _ (List.Mem.tail _ hp9) | exact List.Mem.tail _ (List.Mem.tail _ (List.Mem.tail _ hp9)) | ((simp only [List.nil_append, List.append_nil, List.cons_append, List.mem_cons, List.mem_append, List.not_mem_nil, or_false, false_or] at hp9 ⊢); first | exact hp9 | exact Or.inr hp9 | (rcases hp9 with hp9 | hp9 <;> simp [hp9])))
  k_with "m_lend1" => (refine LEnd.mk2 _ (by assumption) (by assumption) (by walk_at "m_all") (by walk_at "m_ea") (by walk_at "m_own") (by walk_at "m_off") ?_; (try dsimp only))
  k_with "m_lend2" => (refine LEnd.mk2 (_, _) (by assumption) (by assumption) (by walk_at "m_all") (by walk_at "m_ea") (by walk_at "m_own") (by walk_at "m_off") ?_; (try dsimp only))
  k_with "m_lend3" => (refine LEnd.mk2 (_, _, _) (by assumption) (by assumption) (by walk_at "m_all") (by walk_at "m_ea") (by walk_at "m_own") (by walk_at "m_off") ?_; (try dsimp only))
  k_with "m_lend4" => (refine LEnd.mk2 (_, _, _, _) (by assumption) (by assumption) (by walk_at "m_all") (by walk_at "m_ea") (by walk_at "m_own") (by walk_at "m_off") ?_; (try dsimp only))
  k_with "m_ea" => first | exact (fun _ h9 => absurd h9 List.not_mem_nil) | (refine List.forall_mem_cons.mpr ⟨by k_mem, ?_⟩; walk_at "m_ea")
  k_with "m_isl" => first | with_reducible assumption | exact l_isl (by with_reducible assumption) (by k_mem) | (refine l_isl (by assumption) (by k_mem)) | assumption
  k_with "m_sz" => first | omega | ((simp only [List.length_append, List.length_cons, List.length_nil, List.length_dropLast, List.length_reverse]); omega)
  k_with "truthy ref" => (k_here; (with_reducible show wpAny _ _ (truthy (Value.ref _)) _ _ _); k_dflt (refine l_truthy (by walk_at "m_isl") (by walk_at "m_sz") ?_))
  k_with "call builtin:list.append" => (k_here; (with_reducible show wpAny _ _ (call (Value.builtin _) [Value.ref _, _]) _ _ _); k_dflt (refine l_append (by assumption) (by assumption) (by k_upd) (by walk_at "m_sz") ?_); intro h' F' N'; (try k_sweep))
  k_with "call builtin:str.join" => (k_here; (with_reducible show wpAny _ _ (call (Value.builtin _) [Value.str _ _, Value.ref _]) _ _ _); k_dflt (refine l_join (by walk_at "m_isl") (by assumption) (by decide) (by omega) ?_); intro t' k')
  k_with "call ref" => (k_here; k_dflt (refine' Ctr.useT3 (c_splitrootP _ _ _ _ _ _) ?k1 ?k2 ?k3 ?k4 ?k5 ?kA ?kh ?kf ?kK ?kd ?ku ?kp ?_; walk_at "m_site"); (case kp => ((try dsimp only); omega)); intro a9 t1 t2 t3 h' k' lt9 F' l1 N'; (try simp only [AllNe, and_true] at l1); (try k_sweep); (try dsimp only); (try k_fold))
  k_with "call ref" => (k_here; k_dflt (refine' Ctr.useT5 (c_splitext1 _ _ _ _ _ _ _ _) ?k1 ?k2 ?k3 ?k4 ?k5 ?kA ?kh ?kf ?kK ?kd ?ku ?kp ?_; walk_at "m_site"); (case kp => ((try dsimp only); omega)); intro a9 b9 c9 t1 t2 h' k' F' l1 N' o4; (try simp only [AllNe, and_true] at l1); (try k_sweep); (try dsimp only); (try k_fold))
  k_with "m_size" => ((try rw [PySem.sizeLine_eq]); omega)
  k_with "call builtin:str.split" => (k_here; (with_reducible show wpAny _ _ (call (Value.builtin "str.split") [Value.str _ _, Value.str _ _]) _ _ _); k_dflt (refine KSpl.split1 (by k_asm) (by k_asm) (by decide) ?_ (by walk_at "m_size")); intro D' l9 h' k' e9 a9 F' N' l1; rw [e9] at a9; (try k_lt l1))
  k_with "m_ne" => first | assumption | exact ne_of_isE (by assumption)
  k_with "subscriptTail Name UnaryOp ref int" => (k_here; k_dflt (refine l_lastS (by walk_at "m_isl") (by walk_at "m_ne") (by assumption) ?_); intro y9 t9 hy9)
  k_with "call builtin:list.pop" => (k_here; (with_reducible show wpAny _ _ (call (Value.builtin _) [Value.ref _]) _ _ _); k_dflt (refine l_popS (by assumption) (by assumption) (by k_upd) (by walk_at "m_ne") (by walk_at "m_sz") ?_); intro v9 h' F' N'; (try k_sweep))
  k_with "call ref" => (k_here; k_dflt (refine' Ctr.useV (c_normpath _ _ _ _ _ _) ?k1 ?k2 ?k3 ?k4 ?k5 ?kA ?kh ?kf ?kK ?kd ?ku ?kp ?_; walk_at "m_site"); (case kp => ((try dsimp only); omega)); intro t9 h' k' F' N'; (try k_sweep); (try dsimp only); (try k_fold))
  k_with "call ref" => (k_here; k_dflt (refine' Ctr.useVP (c_basenameP _ _ _ _ _ _) ?k1 ?k2 ?k3 ?k4 ?k5 ?kA ?kh ?kf ?kK ?kd ?ku ?kp ?_; walk_at "m_site"); (case kp => ((try dsimp only); omega)); intro t9 h' k' lb9 F' N'; (try k_sweep); (try dsimp only); (try k_fold))
  k_with "call ref" => (k_here; k_dflt (refine' Ctr.useVP (c_dirnameP _ _ _ _ _ _) ?k1 ?k2 ?k3 ?k4 ?k5 ?kA ?kh ?kf ?kK ?kd ?ku ?kp ?_; walk_at "m_site"); (case kp => ((try dsimp only); omega)); intro t9 h' k' lb9 F' N'; (try k_sweep); (try dsimp only); (try k_fold))
  k_with "call ref" => (k_here; k_dflt (refine' Ctr.useT2 (c_splitP _ _ _ _ _ _) ?k1 ?k2 ?k3 ?k4 ?k5 ?kA ?kh ?kf ?kK ?kd ?ku ?kp ?_; walk_at "m_site"); (case kp => ((try dsimp only); omega)); intro a9 t1 t2 h' k' lb9 F' l1 N'; (try simp only [AllNe, and_true] at l1); (try k_sweep); (try dsimp only); (try k_fold))
  k_with "m_isl" => exact Fr.lst (by assumption) (by assumption)
  k_with "m_slz" => first | omega | (simp only [List.length_append, List.length_cons, List.length_nil, List.length_dropLast, List.length_reverse, List.length_take, List.length_drop]; omega)
  k_with "call builtin:len" => (k_here; (with_reducible show wpAny _ _ (call (Value.builtin "len") [Value.ref _]) _ _ _); k_dflt (refine l_lenS (by walk_at "m_isl") (by assumption) (by walk_at "m_slz") ?_); intro t9 k9)
  k_with "subscriptTail Name Name ref int" => (k_here; k_dflt (refine l_itemS (by walk_at "m_isl") (by assumption) (by walk_at "m_slz") (by walk_at "m_slz") ?_); intro y9 t9 hy9)
  k_with "subscriptTail Name Slice ref ref" => (k_here; (with_reducible show wpAny _ _ (subscriptTail _ (PySem.Expr.Slice none none (some _) _) (Value.ref _) (Value.ref _)) _ _ _); k_dflt (refine' l_rev (by assumption) (by assumption) (by walk_at "m_isl") (IsPart.int _ _) (by walk_at "m_slz") ?_ (by with_unfolding_all rfl) (by intro _; with_unfolding_all rfl)); intro D' h' F' N' l1; (try k_lt l1); (try k_sweep))
  k_with "m_lend5" => (refine LEnd.mk2 (_, _, _, _, _) (by assumption) (by assumption) (by walk_at "m_all") (by walk_at "m_ea") (by walk_at "m_own") (by walk_at "m_off") ?_; (try dsimp only))
  k_with "call ref" => (k_here; k_dflt (refine' Ctr.useV (c_abspath _ _ _ _ _ _) ?k1 ?k2 ?k3 ?k4 ?k5 ?kA ?kh ?kf ?kK ?kd ?ku ?kp ?_; walk_at "m_site"); (case kp => ((try dsimp only); exact ⟨by omega, by assumption⟩)); intro t9 h' k' F' N'; (try k_sweep); (try dsimp only); (try k_fold))
  k_with "call ref" => (k_here; k_dflt (refine' Ctr.useO (c_number _ _ _ _ _ _) ?k1 ?k2 ?k3 ?k4 ?k5 ?kA ?kh ?kf ?kK ?kd ?ku ?kp ?_ ?_; walk_at "m_site"); (case kp => ((try dsimp only); omega)); (first | intro n9 t9 h' k' o' F' N' | intro h' k' o' F' N'); (try k_sweep); (try dsimp only); (try k_fold))
  k_with "call ref" => (k_here; k_dflt (refine' k_parts hI ?k1 ?k2 ?k3 ?k4 ?k5 ?kA ?kh ?kf ?kK ?kd ?ku ?kp ?_; walk_at "m_site"); (case kp => k_dflt (exact ⟨Fr.lst (by assumption) hL0, by omega⟩)); intro a9 p0 t0 vs0 r0 n9 h' k' F' l1 N' o4 o40 hPO hxl hxs hxj hjn hz0; (try simp only [AllNe, and_true] at l1); (try k_sweep); (try dsimp only); (try k_fold))
  k_with "call ref" => (k_here; k_dflt (refine' k_straight o4 hPO ?k1 ?k2 ?k3 ?k4 ?k5 ?kA ?kh ?kf ?kK ?kd ?ku ?kp ?_; walk_at "m_site"); (case kp => k_dflt (exact ⟨by walk_at "m_isl", by assumption, by assumption⟩)); intro R ps aS bP vsP nP tR h' k' F' N' hpcs hP hw hRl hvl; (try k_sweep); (try dsimp only); (try k_fold))
  k_with "call ref" => (k_here; k_dflt (refine' use_place ?k1 ?k2 ?k3 ?k4 ?k5 ?kA ?kh ?kf ?kK ?kd ?ku ?kp ?_; walk_at "m_site"); (case kp => assumption); intro r9 h' k' own9 F' N' d9 p9; (try k_sweep); (try dsimp only); (try k_fold))
  k_with "StarOf ref" => (k_here; k_dflt (refine star_seq (by assumption) (by assumption) (by k_mem) rfl rfl (.inl rfl) rfl (by assumption) ?_); intro h' F' N'; (try k_sweep); (try dsimp only [List.nil_append, List.cons_append]))
  k_with "call ref" => (k_here; k_dflt (refine' Ctr.useV (c_join _ _ _ _ _ _ _ _ (.cons _ _ .nil)) ?k1 ?k2 ?k3 ?k4 ?k5 ?kA ?kh ?kf ?kK ?kd ?ku ?kp ?_; walk_at "m_site"); (case kp => ((try dsimp only); omega)); intro t9 h' k' F' N'; (try k_sweep); (try dsimp only); (try k_fold))
  k_with "call ref" => (k_here; k_dflt (refine' Ctr.useVe hA.join (c_join _ _ _ _ _ _ _ _ hwrS2) ?k1 ?k2 ?k3 ?k4 ?k5 ?kA ?kh ?kf ?kK ?kd ?ku ?kp ?_; walk_at "m_site"); (case kp => ((try dsimp only); omega)); intro t9 h' k' F' N'; (try k_sweep); (try dsimp only); (try k_fold))
  k_with "call ref" => (k_here; k_dflt (refine' Ctr.useV (c_join _ _ _ _ _ _ _ _ o40) ?k1 ?k2 ?k3 ?k4 ?k5 ?kA ?kh ?kf ?kK ?kd ?ku ?kp ?_; walk_at "m_site"); (case kp => ((try dsimp only); omega)); intro t9 h' k' F' N'; (try k_sweep); (try dsimp only); (try k_fold))
  k_with "call ref" => (k_here; k_dflt ((first | refine' Ctr.useVe hw (c_normpath _ _ _ _ _ _) ?k1 ?k2 ?k3 ?k4 ?k5 ?kA ?kh ?kf ?kK ?kd ?ku ?kp ?_ | refine' Ctr.useVe hA.norm (c_normpath _ _ _ _ _ _) ?k1 ?k2 ?k3 ?k4 ?k5 ?kA ?kh ?kf ?kK ?kd ?ku ?kp ?_ | refine' Ctr.useVe hB.back (c_normpath _ _ _ _ _ _) ?k1 ?k2 ?k3 ?k4 ?k5 ?kA ?kh ?kf ?kK ?kd ?ku ?kp ?_); walk_at "m_site"); (case kp => ((try dsimp only); omega)); intro t9 h' k' F' N'; (try k_sweep); (try dsimp only); (try k_fold))
  k_with "call ref" => (k_here; k_dflt (refine' k_climb (by assumption) ?k1 ?k2 ?k3 ?k4 ?k5 ?kA ?kh ?kf ?kK ?kd ?ku ?kp ?_; walk_at "m_site"); (case kp => ((try dsimp only); omega)); intro a9 b9 vs9 t9 h' k' F' N' o6; (try k_sweep); (try dsimp only); (try k_fold))
  k_with "compareOp NotEq str str" => (k_here; (with_reducible show wpAny _ _ (compareOp CmpOp.NotEq (Value.str _ _) (Value.str _ _)) _ _ _); k_dflt (refine ne_txt (by first | rfl | assumption) ?_))
  k_with "m_len2" => exact (StrsAre.length (by assumption)).trans (StrsAre.length (by assumption)).symm
  k_with "m_un" => ((try simp only [Around.deeper_units, Around.in1_units, Around.mark_units]); omega)
  k_with "m_tups" => (k_here; (with_reducible show wpAny _ _ (compareOp CmpOp.NotEq (Value.ref _) (Value.ref _)) _ _ _); k_dflt (refine' ne_tuples ?ma ?mb ?mc ?md ?me ?_); (case ma => k_dflt (exact News.get (by assumption) (by k_mem))); (case mb => k_dflt (exact News.get (by assumption) (by k_mem))); (case mc => k_dflt rfl); (case md => k_dflt (walk_at "m_un")))
  k_with "compareOp NotEq ref ref" => (walk_at "m_tups"; (case me => k_dflt (refine' eq_two (eq_text _ _ _) (eq_lists ?g1 ?g2 ?g3 ?g4 ?g5); (case g1 => k_dflt (walk_at "m_isl")); (case g2 => k_dflt (walk_at "m_isl")); (case g3 => k_dflt (walk_at "m_len2")); (case g4 => k_dflt (walk_at "m_un")); (case g5 => k_dflt (exact eq_strs (by assumption) (by assumption))))))
  k_with "compareOp NotEq ref ref" => (walk_at "m_tups"; (case me => (with_reducible exact eq_two (eq_text _ _ _) (eq_text _ _ _))))
  k_with "compareOp NotEq ref ref" => (walk_at "m_tups"; (case me => (with_reducible exact eq_three (eq_text _ _ _) (eq_text _ _ _) (eq_text _ _ _))))
  k_with "m_steps2" => (k_unfold; walk_at "m_steps")
  k_with "eval IfExp" => (k_here; refine stop_here ?_)
  k_with "exec Assign cons ListComp" => (k_here; refine stop_here ?_)
  k_with "call ref" => (k_here; k_dflt (refine' Ctr.useT3 (c_splitrootL _ _ _ _ _ _ hsr1 hsr2) ?k1 ?k2 ?k3 ?k4 ?k5 ?kA ?kh ?kf ?kK ?kd ?ku ?kp ?_; walk_at "m_site"); (case kp => ((try dsimp only); omega)); intro a9 t1 t2 t3 h' k' z9 F' l1 N'; clear z9; (try simp only [AllNe, and_true] at l1); (try k_sweep); (try dsimp only); (try k_fold))
  k_with "call ref" => (k_here; k_dflt (refine' Ctr.useT2 (c_splitextL _ _ _ _ _ hnk) ?k1 ?k2 ?k3 ?k4 ?k5 ?kA ?kh ?kf ?kK ?kd ?ku ?kp ?_; walk_at "m_site"); (case kp => ((try dsimp only); omega)); intro a9 t1 t2 h' k' z9 F' l1 N'; clear z9; (try simp only [AllNe, and_true] at l1); (try k_sweep); (try dsimp only); (try k_fold))
  k_with "call ref" => (k_here; k_dflt (refine' use_read ?k1 ?k2 ?k3 ?k4 ?k5 ?kA ?kh ?kf ?kK ?kd ?ku ?kp ?_; walk_at "m_site"); (case kp => assumption); intro r9 h' k' own9 F' N' d9 p9; (try k_sweep); (try dsimp only); (try k_fold))
  k_with "compareOp NotEq ref ref" => (k_here; (with_reducible show wpAny _ _ (compareOp CmpOp.NotEq (Value.ref _) (Value.ref _)) _ _ _); k_dflt (refine' ne_lists ?ma ?mb ?mc ?md ?me ?_); (case ma => k_dflt (walk_at "m_isl")); (case mb => k_dflt (walk_at "m_isl")); (case mc => k_dflt (exact (PlsIn.len (by assumption)).trans (PlsIn.len (by assumption)).symm)); (case md => k_dflt (walk_at "m_un")); (case me => k_dflt (exact eq_places (news_tl (by assumption) (by walk_at "m_tl")) hplB hplA (by walk_at "m_un"))))
  k_with "m_tl" => (intro p9 hp9; repeat (first | exact hp9 | apply List.Mem.tail))
  k_with "compareOp NotEq" => (k_here; k_dflt (refine ne_place (by assumption) hpA hpV (by walk_at "m_un") ?_))
  k_with "subscriptTail Name Constant ref int" => (k_here; (fail_if_success (have cm9 : CutMark := by with_reducible assumption)); refine stop_here ?_)
  k_with "m_sub" => ((repeat (refine List.forall_mem_cons.mpr ⟨by k_mem, ?_⟩)); walk_at "m_tl")
  k_with "m_clean" => ((repeat ((with_reducible rename _ ∧ _ => z9); clear z9)); (repeat ((with_reducible rename LCg.Off1 _ _ => z9); clear z9)); (repeat ((with_reducible rename Str.length _ ≤ Str.length _ => z9); clear z9)))
  k_with "call type:zip" => (k_here; refine stop_here ?_)
  k_with "eval ListComp" => (k_here; refine stop_here ?_)
  k_with "eval BoolOp" => (k_here; (fail_if_success (have cm9 : CutMark := by with_reducible assumption)); refine stop_here ?_)
  k_with "call type:str" => (k_here; (with_reducible show wpAny _ _ (call (Value.type "str") [Value.int _ _]) _ _ _); k_dflt (refine P.str_of_int (by with_reducible assumption) ?_))
  k_with "call ref" => (k_here; k_dflt (refine' Ctr.useVn hA.alike (c_alike _ _ _ _ _ _ _ _ _ _ hpcs hwrS) ?k1 ?k2 ?k3 ?k4 ?k5 ?kA ?kh ?kf ?kK ?kd ?ku ?kp ?_; walk_at "m_site"); (case kp => k_dflt (exact ⟨by walk_at "m_isl", by walk_at "m_isl", by omega, by omega⟩)); intro t9 h' k' F' N'; (try k_sweep); (try dsimp only); (try k_fold))
  k_with "call ref" => (k_here; k_dflt (refine' Ctr.useV (Ctr.mono (c_commonpath _ _ _ _ _ _ _ _ _ _ _ hA.starts1 hA.starts2 hA.parts_len) fun _ _ _ o => commonpath_out hA o) ?k1 ?k2 ?k3 ?k4 ?k5 ?kA ?kh ?kf ?kK ?kd ?ku ?kp ?_; walk_at "m_site"); (case kp => k_dflt (exact ⟨News.get (by assumption) (by k_mem), by omega, by omega⟩)); intro t9 h' k' F' N'; (try k_sweep); (try dsimp only); (try k_fold))
  k_with "call ref" => (k_here; k_dflt (refine' Ctr.useV (Ctr.mono (c_relpath _ _ _ _ _ _ _ _) fun _ _ _ o => relpath_out hB o) ?k1 ?k2 ?k3 ?k4 ?k5 ?kA ?kh ?kf ?kK ?kd ?ku ?kp ?_; walk_at "m_site"); (case kp => k_dflt (exact ⟨hB.pos1, by omega, hB.pos2, by omega, hB.starts1, hB.starts2, hB.len, hB.few⟩)); intro t9 h' k' F' N'; (try k_sweep); (try dsimp only); (try k_fold))
  k_with "compareOp Eq ref str" => (k_here; (with_reducible show wpAny _ _ (compareOp CmpOp.Eq (Value.ref _) (Value.str _ _)) _ _ _); k_dflt (refine' eq_tup_str ?ma ?mb ?_); (case ma => k_dflt (exact News.get (by assumption) (by k_mem))); (case mb => k_dflt (walk_at "m_un")))
  k_with "subscriptTail Name Slice ref ref" => (k_here; (with_reducible show wpAny _ _ (subscriptTail _ (PySem.Expr.Slice none (some _) none _) (Value.ref _) (Value.ref _)) _ _ _); k_dflt (refine' l_to (by assumption) (by assumption) (by walk_at "m_isl") (IsPart.int _ _) (by walk_at "m_slz") (by walk_at "m_slz") ?_ (by with_unfolding_all rfl) (by intro _; with_unfolding_all rfl)); intro D' h' F' N' l1; (try k_lt l1); (try k_sweep))
  k_with "subscriptTail Name Slice ref ref" => (k_here; (with_reducible show wpAny _ _ (subscriptTail _ (PySem.Expr.Slice (some _) none none _) (Value.ref _) (Value.ref _)) _ _ _); k_dflt (refine' l_from (by assumption) (by assumption) (by walk_at "m_isl") (IsPart.int _ _) (by walk_at "m_slz") (by walk_at "m_slz") ?_ (by with_unfolding_all rfl) (by intro _; with_unfolding_all rfl)); intro D' h' F' N' l1; (try k_lt l1); (try k_sweep))
  k_with "binaryOp Mult ref int" => (k_here; k_dflt (refine KMa.mul (by assumption) (by assumption) (l_isl (by assumption) (List.Mem.head _)) (by omega) (by omega) (by simp only [List.length_cons, List.length_nil]; omega) rfl ?_); intro D' h' F' N' l1; (try k_lt l1); (try k_sweep))
  k_with "binaryOp Add ref ref" => (k_here; k_dflt (refine l_catS (by assumption) (by assumption) (l_isl (by assumption) (List.Mem.tail _ (List.Mem.head _))) (l_isl (by assumption) (List.Mem.head _)) (strs_repI _ _ _) (strs_drop hpcs _) (by walk_at "m_slr") ?_); intro D' h' F' N' l1 hcat9 hcl9; (try k_lt l1); (try k_sweep))
  k_with "call builtin:str.join" => (k_here; k_dflt (refine l_join (by walk_at "m_isl") hcat9 (by decide) (by rw [rel_list]; omega) ?_); intro t' k')
  k_with "m_slr" => ((simp only [List.length_replicate, List.length_drop]); omega)
  trivial
local macro_rules | `(tactic| k_qdec) => `(tactic| decide +kernel)
set_option maxHeartbeats 4000000 in
theorem law_top : PySem.Challenge.rw_mq0396_01.Holds := by
  w_on
  refine holds_law law_said fun said => ?_
  refine holds_open (q := hd.view_1) (loose := [Str.ofString "relpath"]) (Xt := kXt) (XP := XL hd.view_1 []) (Yf := Hook.obs kH) (Ya := Hook.val kH) (YP := Hook.says kH) (N := 3704) hl_whole (Hook.of _) (Hook.keeps _) (fun s e => xl_of s (Bool.and_eq_true_iff.mp e).1) XL.keeps (by rfl) (by rfl) (by rfl) (fun s e => recFacts_of (Bool.and_eq_true_iff.mp e).2) (by rfl) (by first | assumption | decide +kernel) (by decide +kernel) ⟨rfl, rfl, rfl, rfl, rfl, by decide +kernel⟩ ?hw ?hc
  case hw => w_witness2
  (try (rename _ = true => z9; clear z9))
  exact (by
  k_go0
  all_goals try k_fold
  rename IntsAre _ _ => hI
  rename Heap.IsList _ _ _ => hL0
  (repeat (first | (rename Heap.CodeRec _ _ _ => z9; clear z9) | (rename Dflts _ _ _ _ _ _ => z9; clear z9) | (rename Ground _ _ _ _ _ _ _ _ _ => z9; clear z9) | (rename Hook.says _ _ _ => z9; clear z9) | (rename Flt.MathXP _ _ _ => z9; clear z9) | (rename LooseAre _ _ _ => z9; clear z9) | (rename Glob _ _ _ _ _ _ _ _ => z9; clear z9) | (rename Tables _ _ _ _ => z9; clear z9) | (rename TopE _ _ _ _ => z9; clear z9) | (rename TopW _ _ _ => z9; clear z9) | (rename BMod _ _ _ _ _ => z9; clear z9) | (rename Well _ _ _ _ => z9; clear z9) | (rename Reads _ _ _ _ => z9; clear z9) | (rename ReadsAll _ _ _ _ => z9; clear z9) | (rename ReadsAllW _ _ _ _ _ _ => z9; clear z9) | (rename True => z9; clear z9) | (rename _ = true => z9; clear z9) | (rename Below _ _ _ _ => z9; clear z9)))
  rename Fr _ _ _ _ => F0
  rename News _ _ _ _ => N0
  have B0 := below_of F0
  replace F0 : Fr _ _ _ (fun y => List.lookup y [(Str.ofString "script", .ref _)]) := F0
  have hdep : callerA.depth + 40 < recursionLimit := by decide
  have hun : callerA.units + 400 < cLine := by decide
  have hlen : (63 : Nat) ≤ 63 := Nat.le_refl _
  change wpAny (model PySem.Challenge.pw_mq0396_01 _) _ _ _ _ _
  dsimp only
  refine law_cut F0 ?walk ?_
  case walk =>
    walk_at "m_steps"
    refine Stop.go ?_
    rename Fr _ _ _ _ => Fw
    rename News _ _ _ _ => Nw
    have hpl := hpcs.length
    refine cut_names Fw Nw (namesOf R ps) ?n1 ?n2
    case n1 =>
      refine IfExp_ ?_
      walk_at "m_steps"
      · exact NamesIn.old (by assumption) (by assumption) (by k_mem) hpcs (names_yes1 fun e => (by assumption : vsP ≠ []) ((strs_nil hpcs).mpr e))
      · exact NamesIn.old (by assumption) (by assumption) (by k_mem) hpcs (names_yes2 (by assumption))
      · exact NamesIn.new (by assumption) (by assumption) (.cons _ _ .nil) (names_no ((strs_nil hpcs).mp (Classical.not_not.mp (by assumption))) (by assumption))
    case n2 =>
      clear Fw Nw
      intro D ws k h' tk' F' N' hi
      have hwl := hi.length
      have hsum := hP.sum
      dsimp only
      walk_at "m_steps"
      refine Stop.go ?_
      rename Fr _ _ _ _ => Fw
      rename News _ _ _ _ => Nw
      refine assign_comp1 Fw (cl := []) ?w0 ?w1 ?w2 ?w3 ?w4 ?w5 ?w6 ?w7 ?w8 ?_ ?w9
      case w0 => exact rfl
      case w1 => with_unfolding_all rfl
      case w2 => with_unfolding_all rfl
      case w3 => decide
      case w4 => rfl
      case w5 => decide
      case w6 => rfl
      case w7 => rfl
      case w8 => rfl
      case w9 => intro _; rfl
      walk_at "m_steps"
      refine place_src rfl Fw Nw (List.Mem.head _) hi (by omega) ?_ ?_
      · clear Fw Nw
        intro z t I oI C oC D1 ys m2 h tk nw E' hz hoC hx F1 N1
        have hz1 : z.length ≤ 1000 := by have := (hP.one z hz).2; omega
        walk_at "m_steps"
        exact ⟨_, _, own9, rfl, by assumption, by assumption, by assumption, by assumption⟩
      · intro ys nw hpl1 hsub D2 h tk F2 N2 _
        have N3 := news_lit1 N2 hsub
        simp only [List.cons_append, List.nil_append] at N3
        clear N2 Fw Nw
        dsimp only at F2 N3 ⊢
        obtain ⟨hcl, hn1⟩ : climbS (pth R (namesOf R ps)) = (R, namesOf R ps) ∧ (pth R (namesOf R ps)).length ≤ 240 := ⟨climb_pth hP.st.names, hP.wl⟩
        walk_at "m_steps"
        as_aux_lemma => (
          have hnk := hP.st.names
          have hjl : (Txt.join (Str.ofString "/") (namesOf R ps)).length ≤ 240 := by have := pth_parts R (namesOf R ps); omega
          obtain ⟨hsr1, hsr2⟩ := pth_root hnk
          have hll := last_lenS (namesOf R ps)
          walk_at "m_steps"
          refine Stop.go ?_
          dsimp only
          rename Fr _ _ _ _ => Fw
          rename News _ _ _ _ => Nw
          refine cut_txt Fw Nw (lastS (namesOf R ps)) ?n1 ?n2
          case n1 =>
            refine IfExp_ ?_
            walk_at "m_steps"
            · exact here_txt (by assumption) (by assumption) (last_of (by assumption))
            · exact here_txt (by assumption) (by assumption) (last_no ((strs_nil hi).mp (Classical.not_not.mp (by assumption))))
          case n2 =>
            clear Fw Nw
            intro t h' tk' F' N'
            dsimp only
            walk_at "m_steps"
            refine Stop.go ?_
            dsimp only
            rename Fr _ _ _ _ => Fw
            rename News _ _ _ _ => Nw
            refine cut_int Fw Nw (cutS (pth R (namesOf R ps)) (lastS (namesOf R ps))) ?n1 ?n2
            case n1 =>
              refine IfExp_ ?_
              walk_at "m_steps"
              · exact here_int (by assumption) (by assumption) (cut_yes (by assumption) (by omega) rfl)
              · exact here_int (by assumption) (by assumption) (cut_no2 (by omega) rfl)
              · exact here_int (by assumption) (by assumption) (cut_no1 (by omega) rfl)
            case n2 =>
              clear Fw Nw
              intro t h' tk' F' N'
              dsimp only
              walk_at "m_steps"
              refine Stop.go ?_
              as_aux_lemma => (
                rename Fr _ _ _ _ => Fw
                rename News _ _ _ _ => Nw
                replace Nw := news_tl (t := (D2, LCg.lst ys) :: (D, listOf ws.toArray k) :: (bP, listOf vsP.toArray nP) :: nw) Nw (by walk_at "m_sub")
                walk_at "m_clean"
                clear hsr1 hsr2 hll hjl hcl hxl hxs hxj hjn hz0 hw o4 o40 hPO hsub
                refine assign_comp1 Fw (cl := []) ?w0 ?w1 ?w2 ?w3 ?w4 ?w5 ?w6 ?w7 ?w8 ?_ ?w9
                case w0 => exact rfl
                case w1 => with_unfolding_all rfl
                case w2 => with_unfolding_all rfl
                case w3 => decide
                case w4 => rfl
                case w5 => decide
                case w6 => rfl
                case w7 => rfl
                case w8 => rfl
                case w9 => intro _; rfl
                walk_at "m_steps"
                refine place_src rfl Fw Nw (by k_mem) hi (by omega) ?_ ?_
                · clear Fw Nw
                  intro z t I oI C oC D1 ys m2 h tk nw E' hz hoC hx F1 N1
                  have hz1 := hP.one z hz
                  walk_at "m_steps"
                  exact ⟨_, _, own9, rfl, by assumption, by assumption, by assumption, by assumption⟩
                · intro ys3 nw3 hpl3 hsub3 D3 h tk F2 N2 _
                  have N3 := news_lit1 N2 hsub3
                  simp only [List.cons_append, List.nil_append] at N3
                  clear N2 Fw Nw
                  dsimp only at F2 N3 ⊢
                  have hplA := hpl1.mono (news' := nw ++ nw3) (fun p hp => List.mem_append_left _ hp)
                  have hplB := hpl3.mono (news' := nw ++ nw3) (fun p hp => List.mem_append_right _ hp)
                  have hrd : Al (pth R (namesOf R ps)) ∧ (pth R (namesOf R ps)).length ≤ 640 := ⟨hP.way, by omega⟩
                  walk_at "m_steps"
                  refine Stop.go ?_
                  (try dsimp only)
                  rename Fr _ _ _ _ => Fw
                  rename News _ _ _ _ => Nw
                  rename PlIn _ (placeS (pth R (namesOf R ps))) _ => hpW
                  replace Nw := news_rot Nw
                  simp only [List.cons_append, List.append_assoc] at Nw
                  refine cut_place Fw Nw (placeS (pth R (namesOf R ps))) ?n1 ?n2
                  case n1 =>
                    refine IfExp_ ?_
                    walk_at "m_steps"
                    · have cm : CutMark := .mk
                      have h1 : (namesOf R ps).length = 1 := by omega
                      rename (R == Str.ofString "") = true => h2'
                      have h2 : R = Str.ofString "" := eq_of_beq h2'
                      obtain ⟨v0, hv0, hpv0⟩ := place_first hplA h1
                      refine Stop.go ?_
                      (try dsimp only)
                      k_dflt (refine l_item (i := 0) (l_isl (n := ys.length) Nw (by k_mem)) hv0 (by decide) ?_)
                      walk_at "m_steps"
                      exact here_place (by assumption) (by assumption) (way_one hnk (names_ne _ _) h1 h2 (hpv0.mono fun p hp => by simp only [List.mem_cons, List.mem_append] at hp ⊢; rcases hp with h | h <;> simp [h]))
                    · exact here_place (by assumption) (by assumption) (way_many hnk (names_ne _ _) fun h => ne_of_beq_false (by assumption) h.2)
                    · exact here_place (by assumption) (by assumption) (way_many hnk (names_ne _ _) fun h => (by assumption : ¬ (_ : Int) = 1) (by omega))
                  case n2 =>
                    clear Fw Nw
                    intro vP h' tk' hpV F' N'
                    have hpA := PlIn.mono (news' := (D3, LCg.lst ys3) :: (D2, LCg.lst ys) :: (D, listOf ws.toArray k) :: (bP, listOf vsP.toArray nP) :: (nw ++ (nw3 ++ own9))) hpW (fun p hp => by simp [hp])
                    (try dsimp only)
                    walk_at "m_steps"
                    refine Stop.go ?_
                    as_aux_lemma => (
                      clear hsub3
                      rename Fr _ _ _ _ => Fw
                      rename News _ _ _ _ => Nw
                      replace Nw := news_tl (t := (D3, LCg.lst ys3) :: (D2, LCg.lst ys) :: (D, listOf ws.toArray k) :: (bP, listOf vsP.toArray nP) :: (nw ++ nw3)) Nw (by
                        intro p hp
                        simp only [List.mem_cons, List.mem_append] at hp ⊢
                        rcases hp with h | h | h | h | h | h <;> simp [h])
                      have hl3 := hplB.len
                      rw [List.length_map] at hl3
                      refine assign_zip Fw (cl := []) ?w0 ?w1 ?w2 ?w3 ?w4 ?w5 ?w6 ?w61 ?w62 ?w7 ?w8 ?_ ?w9
                      case w0 => exact rfl
                      case w1 => with_unfolding_all rfl
                      case w2 => with_unfolding_all rfl
                      case w3 => decide
                      case w4 => rfl
                      case w5 => decide
                      case w6 => rfl
                      case w61 => rfl
                      case w62 => decide
                      case w7 => rfl
                      case w8 => rfl
                      case w9 => intro _; rfl
                      walk_at "m_steps"
                      refine Stop.go ?_
                      (try dsimp only)
                      refine call_zip_src (k1 := k) (k2 := ys3.length) (P := fun i v => ∃ n t, (namesOf R ps)[i]? = some n ∧ v = .str (wr n) t) rfl Fw Nw (by k_mem) (by k_mem) (by rw [sizeLine_eq]; omega) (by omega) ?turn ?fin
                      case turn =>
                        clear Fw
                        intro h0 i x y z TI TO i1 i2 C D' oz oTI oTO o1 o2 oC ys9 m2 h tk E' hx hy hoC ha hb F1 N1
                        obtain ⟨n, tn, rfl, hn⟩ := hi.item i x hx
                        obtain ⟨v9, hv9, hpv⟩ := hplB.2 i (placeS n) (by rw [List.getElem?_map, hn]; rfl)
                        obtain rfl : y = v9 := Option.some.inj (hy.symm.trans hv9)
                        obtain ⟨hna, hnl⟩ := hP.len1 n (List.mem_of_getElem? hn)
                        have cm : CutMark := .mk
                        cases hpn : placeS n with
                        | none =>
                          rw [hpn] at hpv
                          obtain ⟨t9, rfl⟩ := hpv
                          walk_at "m_steps"
                          refine Stop.go ?_
                          refine IfExp_ ?_
                          walk_at "m_steps"
                          exact ZEnd.mk (by assumption) (by assumption) (fun _ h => h) ⟨n, _, hn, by rw [wr_none hpn]⟩
                        | some q =>
                          rw [hpn] at hpv
                          obtain ⟨a9, t1, t2, rfl, hm9⟩ := hpv
                          obtain ⟨⟨hq1, hq2⟩, hq3, hq4⟩ := num_facts hna hnl hpn
                          simp only [ZLed] at N1
                          have N2 := news_in N1 (show (a9, tupOf [.int q.1 t1, .int q.2 t2]) ∈ _ by repeat (first | exact hm9 | apply List.Mem.tail))
                          clear N1
                          walk_at "m_steps"
                          refine Stop.go ?_
                          refine IfExp_ ?_
                          walk_at "m_steps"
                          exact ZEnd.mk (by assumption) (by assumption) (fun _ h => List.Mem.tail _ h) ⟨n, _, hn, by rw [wr_some hpn]⟩
                      case fin =>
                        intro h0 ys9 hyl hyP D9 h tk F2 N2 _
                        have hws := strs_of (f := wr) (hyl.trans hwl) hyP
                        have hA := hP.anew
                        have hwrS : StrsAre ys9 (namesOf R (ps.map wr)) := hA.names ▸ hws
                        have hwl9 := hwrS.length
                        have hwrS2 : StrsAre (ys9 ++ []) (namesOf R (ps.map wr)) := by rw [List.append_nil]; exact hwrS
                        have hn1w := hA.wl
                        have hsumw := hA.sum
                        have hpsum := hA.psum
                        have hcl2 := hA.climb
                        (try dsimp only at F2 N2 ⊢)
                        have hz9 : ys9.toArray.size ≤ sizeLine := by rw [sizeLine_eq, List.size_toArray]; omega
                        clear Nw hws hyP
                        have hjlw : (Txt.join (Str.ofString "/") (namesOf R (ps.map wr))).length ≤ 240 := by have := pth_parts R (namesOf R (ps.map wr)); omega
                        walk_at "m_steps"
                        refine Stop.go ?_
                        as_aux_lemma => (
                          rename Fr _ _ _ _ => Fw
                          rename News _ _ _ _ => Nw
                          replace Nw := news_tl (t := (D9, LCg.lst ys9) :: (D2, LCg.lst ys) :: (D, listOf ws.toArray k) :: (bP, listOf vsP.toArray nP) :: (nw ++ nw3)) Nw (by walk_at "m_sub")
                          (try dsimp only)
                          refine eval_comp1 Fw (cl := []) ?w2 ?w3 ?w4 ?w5 ?w6 ?_ ?w9
                          case w2 => with_unfolding_all rfl
                          case w3 => decide
                          case w4 => rfl
                          case w5 => decide
                          case w6 => rfl
                          case w9 => intro _; rfl
                          walk_at "m_steps"
                          refine place_src rfl Fw Nw (by k_mem) hwrS (by omega) ?_ ?_
                          · clear Fw Nw
                            intro z t I oI C oC D1 ys0 m2 h tk nw0 E' hz hoC hx F1 N1
                            have hz1 := hA.one z hz
                            walk_at "m_steps"
                            exact ⟨_, _, own9, rfl, by assumption, by assumption, by assumption, by assumption⟩
                          · intro ys4 nw4 hpl4 hsub4 D4 h tk F2 N2 _
                            have N3 := news_lit1 N2 hsub4
                            simp only [List.cons_append, List.nil_append] at N3
                            clear N2 Fw Nw hsub4
                            (try dsimp only at F2 N3 ⊢)
                            rw [hA.places] at hpl4
                            replace hplA := hplA.mono (news' := nw ++ nw3 ++ nw4) (fun p hp => List.mem_append_left _ hp)
                            replace hplB := hpl4.mono (news' := nw ++ nw3 ++ nw4) (fun p hp => List.mem_append_right _ hp)
                            have hal := alikeS_le ps (ps.map wr)
                            have hsl := StrsAre.take' hpcs (alikeS ps (ps.map wr))
                            walk_at "m_steps"
                            refine Stop.go ?_
                            (try dsimp only)
                            rename Fr _ _ _ _ => Fw
                            rename News _ _ _ _ => Nw
                            have hld := lead_len R
                            have hjc : (Txt.join (Str.ofString "/") (ps.take (alikeS ps (ps.map wr)))).length ≤ 500 := by
                              have h1 := tjoin_len1 (ps.take (alikeS ps (ps.map wr)))
                              have h2 := sumLen_take ps (alikeS ps (ps.map wr))
                              rw [List.length_take] at h1
                              omega
                            have hsc : sumLen (ps.take (alikeS ps (ps.map wr))) + (ps.take (alikeS ps (ps.map wr))).length ≤ 500 := by
                              have h2 := sumLen_take ps (alikeS ps (ps.map wr))
                              rw [List.length_take]
                              omega
                            refine cut_txt Fw Nw (leadS R) ?n1 ?n2
                            case n1 =>
                              refine IfExp_ ?_
                              walk_at "m_steps"
                              · exact here_txt (by assumption) (by assumption) (lead_yes (by omega))
                              · exact here_txt (by assumption) (by assumption) (lead_no (by omega))
                            case n2 =>
                              clear Fw Nw
                              intro t h' tk' F' N'
                              (try dsimp only)
                              walk_at "m_steps"
                              · exact LawTrue.mk (by assumption)
                              · refine Stop.go ?_
                                rename (R == Str.ofString "") = false => hr9
                                have hB := hP.away (ne_of_beq_false hr9)
                                have hsh := hB.short
                                (try dsimp only)
                                walk_at "m_steps"
                                refine Stop.go ?_
                                (try dsimp only)
                                rename Fr _ _ _ _ => Fw
                                rename News _ _ _ _ => Nw
                                have hrl := relL_len (ps.map wr) ps
                                rw [List.length_map] at hrl
                                have hs1 : sumLen [thereS (ps.map wr) ps] + [thereS (ps.map wr) ps].length ≤ 3000 := by
                                  rw [sumLen_cons, sumLen_nil]
                                  simp only [List.length_cons, List.length_nil]
                                  omega
                                have hj1 : (joinS (pth R (namesOf R (ps.map wr))) [thereS (ps.map wr) ps]).length ≤ 5000 := by
                                  have := joinS_len [thereS (ps.map wr) ps] (pth R (namesOf R (ps.map wr)))
                                  omega
                                refine cut_txt Fw Nw (thereS (ps.map wr) ps) ?n1 ?n2
                                case n1 =>
                                  have cm : CutMark := .mk
                                  have hjr : (Txt.join (Str.ofString "/") (List.replicate ((ps.length : Int) - (alikeS ps (ps.map wr) : Nat)).toNat (Str.ofString "..") ++ ps.drop (alikeS ps (ps.map wr)))).length ≤ 3000 := by
                                    have := tjoin_len1 (relL (ps.map wr) ps)
                                    rw [rel_list]
                                    omega
                                  walk_at "m_steps"
                                  · exact here_txt (by assumption) (news_tl (by assumption) (by walk_at "m_tl")) (by rw [rel_list]; exact there_some fun e => absurd ((rel_zero hP).mpr e) (by rw [← rel_list]; omega))
                                  · exact here_txt (by assumption) (news_tl (by assumption) (by walk_at "m_tl")) (there_none ((rel_zero hP).mp (by rw [← rel_list]; omega)))
                                case n2 =>
                                  clear Fw Nw
                                  intro t h' tk' F' N'
                                  (try dsimp only)
                                  walk_at "m_steps"
                                  exact LawTrue.mk2 (by assumption) (beq_self_eq_true _)))))
  clear F0
  intro h' tk' m' F'
  dsimp only
  close_w)
end Mine
theorem PySem.Challenge.cw_mq0396_01_holds : PySem.Challenge.rw_mq0396_01.Holds :=
  Mine.law_top
