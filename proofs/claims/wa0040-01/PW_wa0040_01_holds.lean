import PyProof.Rows.All
import Wide.All
import OpenK.AllK
import Wide.FinOn
import Lean
import PySem.Challenge.RW_wa0040_01
set_option Elab.async false
section
open PySem PySem.W PyProof.Rows
namespace Mine
local macro_rules | `(tactic| walk_at "flush") => `(tactic| skip)
theorem flushMHead {prog : Program} {w : World} {A : Around} {Q : Flow → Shared → Prop} {E : Value → Shared → Prop} {s : Shared} {env : Env} (h : wpAny (model prog w) A (execs [] env) Q E s) : wpAny (model prog w) A (execs [] env) Q E s := by
  w_top off
  first | (walk1; fail) | exact h
end Mine
end
section
open PySem PySem.W PyProof.Rows
namespace Mine
set_option maxRecDepth 100000
set_option maxHeartbeats 8000000
open_top hd for PySem.Challenge.rw_wa0040_01
end Mine
end
section
open PySem PySem.W PyProof.Rows
namespace Mine
local macro_rules | `(tactic| walk_at "flush") => `(tactic| skip)
theorem flushMCtr {prog : Program} {w : World} {A : Around} {Q : Flow → Shared → Prop} {E : Value → Shared → Prop} {s : Shared} {env : Env} (h : wpAny (model prog w) A (execs [] env) Q E s) : wpAny (model prog w) A (execs [] env) Q E s := by
  w_top off
  first | (walk1; fail) | exact h
end Mine
end
section
open PySem PySem.W PyProof.Rows
namespace Mine
noncomputable abbrev PP : PySem.Program := PySem.Challenge.rw_wa0040_01.row.prog
noncomputable abbrev LL : List Str := looseW hd.view_39 [Str.ofString "_name_disallowed_re", Str.ofString "_value_disallowed_re", Str.ofString "COMPILER_FLAG_NAMES", Str.ofString "length_hint"]
/-- what a call of the function at f with these arguments comes to: any frame, any ledger that holds `news` -/
def Ctr (w : World) (f : Addr) (vs : List Value) (kw : List (Str × Value)) (news : List (Addr × Obj)) (need : Nat) (P : Value → List (Addr × Obj) → Prop) : Prop :=
  ∀ (mean : ExcName → Option Value) (mg mb : Str → Option Value) (dp un : Nat) (gd : Option (List Code)) (cn : Str) (cs : Scope) (a : Addr) (ccd : Value) (cl : List (Str × Addr)) (outer : List Env) (A₀ : Around) (base h₀ : Heap) (L : Addr) (m : Str → Option Value) (s : Shared) (Q E : Value → Shared → Prop),
    Below A₀ base outer h₀ → Fr h₀ L s.heap m → (hd.heap_39 w.params).In h₀ → News h₀ L s.heap news → Top hd.view_39 LL mean mg mb h₀ → cs.kind = .function →
    dp + need < recursionLimit → un + 8 * need < cLine →
    (∀ (r : Value) (news' : List (Addr × Obj)) (h' : Heap) (tk' : Nat), Fr h₀ L h' m → News h₀ L h' news' → P r news' → Q r { s with heap := h', toks := tk' }) →
      wpAny (model PP w) (ktrTop dp un gd cn cs L a ccd cl outer) (call (.ref f) vs kw) Q E s
theorem Ctr.use {w : World} {f : Addr} {vs : List Value} {kw : List (Str × Value)} {news : List (Addr × Obj)} {need : Nat} {P : Value → List (Addr × Obj) → Prop} (C : Ctr w f vs kw news need P)
    {mean : ExcName → Option Value} {mg mb : Str → Option Value} {dp un : Nat} {gd : Option (List Code)} {cn : Str} {cs : Scope} {a : Addr} {ccd : Value} {cl : List (Str × Addr)} {outer : List Env} {A₀ : Around} {base h₀ : Heap} {L : Addr} {m : Str → Option Value} {s : Shared} {Q E : Value → Shared → Prop}
    (B : Below A₀ base outer h₀) (F : Fr h₀ L s.heap m) (X : (hd.heap_39 w.params).In h₀) (N : News h₀ L s.heap news) (T : Top hd.view_39 LL mean mg mb h₀) (hk : cs.kind = .function) (hd : dp + need < recursionLimit) (hu : un + 8 * need < cLine)
    (ret : ∀ (r : Value) (news' : List (Addr × Obj)) (h' : Heap) (tk' : Nat), Fr h₀ L h' m → News h₀ L h' news' → P r news' → Q r { s with heap := h', toks := tk' }) :
    wpAny (model PP w) (ktrTop dp un gd cn cs L a ccd cl outer) (call (.ref f) vs kw) Q E s := C _ _ _ _ _ _ _ _ _ _ _ _ _ _ _ _ _ _ _ _ B F X N T hk hd hu ret
end Mine
end
section
open PySem PySem.W PyProof.Rows
namespace Mine
local macro_rules | `(tactic| walk_at "flush") => `(tactic| skip)
theorem flushMLoop {prog : Program} {w : World} {A : Around} {Q : Flow → Shared → Prop} {E : Value → Shared → Prop} {s : Shared} {env : Env} (h : wpAny (model prog w) A (execs [] env) Q E s) : wpAny (model prog w) A (execs [] env) Q E s := by
  w_top off
  first | (walk1; fail) | exact h
end Mine
end
section
open PySem PySem.W PyProof.Rows PySem.Spec PySem.Calls
namespace Mine
set_option maxRecDepth 100000
set_option maxHeartbeats 4000000

/-- how a turn ends: the library's, under names that the walk does not open by itself -/
def TurnEnd := @InvEndG
def TurnPost := @InvPostG
theorem TurnEnd.intro {h₀ h' : Heap} {L : Addr} {J : (Str → Option Value) → List (Addr × Obj) → Prop} {m' : Str → Option Value} {own all : List (Addr × Obj)} {s₁ : Shared} {tk : Nat} (nx : List (Addr × Obj))
    (F : Fr h₀ L h' m') (N : News h₀ L h' all) (hn : ∀ p ∈ nx, p ∈ all) (ho : ∀ p ∈ own, p ∈ all) (ha : OwnOff own (nx.map (·.1))) (hj : J m' nx) : TurnEnd h₀ L J own s₁ { s₁ with heap := h', toks := tk } :=
  InvEndG.intro F N hj ha hn ho

theorem turn_next {g h' : Heap} {L : Addr} {J : (Str → Option Value) → List (Addr × Obj) → Prop} {m' : Str → Option Value} {own nx : List (Addr × Obj)} {s₁ : Shared} {tk : Nat} {Q : Flow → Shared → Prop}
    (F : Fr g L h' m') (N : News g L h' (nx ++ own)) (hoff : OwnOff own (nx.map (·.1))) (hj : J m' nx) : TurnPost g L J own s₁ Q .next { s₁ with heap := h', toks := tk } :=
  TurnEnd.intro nx F N (fun _ hp => List.mem_append_left _ hp) (fun _ hp => List.mem_append_right _ hp) hoff hj
section
variable {prog : Program} {w : World} {A : Around} {s : Shared} {env : Env} {h₀ : Heap} {E : Value → Shared → Prop} {Q : Flow → Shared → Prop}

/-- what stands between two turns: i items are taken, the frame and the ledger nx are whole, and nx holds nothing that the source writes -/
structure Between (h₀ : Heap) (L : Addr) (wr : List Addr) (St : Nat → Heap → Prop) (J : Nat → (Str → Option Value) → List (Addr × Obj) → Prop) (i : Nat) (h : Heap) (m : Str → Option Value) (nx : List (Addr × Obj)) : Prop where
  src : St i h
  fr : Fr h₀ L h m
  led : News h₀ L h nx
  off : ∀ p ∈ nx, p.1 ∉ wr
  inv : J i m nx

/-- when the source alone has moved, frame and ledger stand -/
theorem Between.moved {L : Addr} {wr : List Addr} {St : Nat → Heap → Prop} {J : Nat → (Str → Option Value) → List (Addr × Obj) → Prop} {i : Nat} {h h' : Heap} {m : Str → Option Value} {nx : List (Addr × Obj)}
    (B : Between h₀ L wr St J i h m nx) (hL : L ∉ wr) (hwr : ∀ b ∈ wr, h₀.get? b = none) (same : ∀ b o, b ∉ wr → h.get? b = some o → h'.get? b = some o) : Fr h₀ L h' m ∧ News h₀ L h' nx := by
  constructor
  · refine { ns := B.fr.ns.at' (fun o => same L o hL), keep := fun b o e => same b o ?_ (B.fr.keep b o e), above := B.fr.above }
    intro hb
    cases (hwr b hb).symm.trans e
  · intro p hp
    obtain ⟨at1, at2⟩ := B.led p hp
    exact ⟨same _ _ (B.off p hp) at1, at2⟩

/-- a turn's end is the next turn's start -/
theorem Between.step {L : Addr} {fp wr : List Addr} {St : Nat → Heap → Prop} {J : Nat → (Str → Option Value) → List (Addr × Obj) → Prop} {i : Nat} {h : Heap} {m : Str → Option Value} {nx : List (Addr × Obj)} {s₁ s₂ : Shared}
    (frame : ∀ h', St (i + 1) h → (∀ b ∈ fp, ∀ o, h.get? b = some o → h'.get? b = some o) → St (i + 1) h') (hwr : ∀ b ∈ wr, h₀.get? b = none) (hlive : ∀ b ∈ wr, ∃ o, h.get? b = some o)
    (hro : ∀ b ∈ fp, b ∉ wr → (∃ o, h₀.get? b = some o) ∨ ∃ o, ∀ i m nx, J i m nx → (b, o) ∈ nx)
    (src : St (i + 1) h) (F : Fr h₀ L h m) (N : News h₀ L h nx) (hJ : J i m nx) (fin : TurnEnd h₀ L (J (i + 1)) (ownOf h₀ wr h) s₁ s₂) :
    ∃ h' tk m' nx', s₂ = { s₁ with heap := h', toks := tk } ∧ Between h₀ L wr St J (i + 1) h' m' nx' := by
  obtain ⟨h', tk, m', all, nx', e, F', N', sub, own, apart, hJ'⟩ := fin
  refine ⟨h', tk, m', nx', e, { src := frame h' src ?_, fr := F', led := fun p hp => N' p (sub p hp), off := ?_, inv := hJ' }⟩
  · intro b hb o hbo
    rcases Classical.em (b ∈ wr) with w | w
    · exact (N' (b, o) (own _ (mem_ownOf w (hwr b w) hbo))).1
    · obtain ⟨x, old⟩ | ⟨x, mem⟩ := hro b hb w
      · cases hbo.symm.trans (F.keep b x old)
        exact F'.keep b o old
      · cases hbo.symm.trans (N _ (mem i m nx hJ)).1
        exact (N' _ (sub _ (mem (i + 1) m' nx' hJ'))).1
  · intro p hp w
    obtain ⟨o, live⟩ := hlive p.1 w
    exact apart (p.1, o) (mem_ownOf w (hwr _ w) live) p.1 (List.mem_map_of_mem hp) rfl

/-- a for over anything that walks: any target, any else -/
theorem for_walks {target : Expr} {body orelse : List Stmt} {I : Addr} {fp wr : List Addr} {n : Nat} {P : Nat → Value → Prop} {St : Nat → Heap → Prop} {m : Str → Option Value} {news : List (Addr × Obj)} {R : Result → Shared → Prop}
    (W : Walks prog w A I fp wr n P St) (hLw : env.locals ∉ wr) (hwr : ∀ b ∈ wr, h₀.get? b = none) (hlive : ∀ i h, St i h → ∀ b ∈ wr, ∃ o, h.get? b = some o) (c : Value) (hcls : ∀ i h, St i h → ∀ b ∈ wr, ∀ o, h.get? b = some o → o.cls = c)
    (J : Nat → (Str → Option Value) → List (Addr × Obj) → Prop) (B₀ : Between h₀ env.locals wr St J 0 s.heap m news)
    (hro : ∀ b ∈ fp, b ∉ wr → (∃ o, h₀.get? b = some o) ∨ ∃ o, ∀ i m nx, J i m nx → (b, o) ∈ nx)
    (turn : ∀ i v m₁ nx h tk own, i < n → P i v → J i m₁ nx → OwnOff own (nx.map (·.1)) → (∀ p ∈ own, p.2.cls = c) → Fr h₀ env.locals h m₁ → News h₀ env.locals h (nx ++ own) →
      wpAny (model prog w) A (assign target env v) (fun _ s₂ => wpAny (model prog w) A (execs body env) (TurnPost h₀ env.locals (J (i + 1)) own { s with heap := h, toks := tk } Q) (fun _ _ => False) s₂) (fun _ _ => False) { s with heap := h, toks := tk })
    (done : ∀ m₁ nx h tk, J n m₁ nx → Fr h₀ env.locals h m₁ → News h₀ env.locals h nx → wpAny (model prog w) A (execs orelse env) Q (fun _ _ => False) { s with heap := h, toks := tk })
    (hR : ∀ f s', Q f s' → R (.ok f) s')
    (hgo : ∀ i v (s : Shared) (Q : Unit → Shared → Prop) (E : Value → Shared → Prop), i < n → P i v → St (i + 1) s.heap → Q () s → wpAny (model prog w) A (letOwnedTupleGo target (.ref I) v) Q E s) :
    codeAny (model prog w) A (.forLoop target (.ref I) body orelse env) R s := by
  let at_ (left : Nat) (s' : Shared) : Prop := ∃ i h tk m nx, i + left = n ∧ s' = { s with heap := h, toks := tk } ∧ Between h₀ env.locals wr St J i h m nx
  suffices turns : ∀ left s', at_ left s' → wpAny (model prog w) A (pyNext (.ref I)) _ _ s' from codeAny_forLoop_any at_ turns n ⟨0, s.heap, s.toks, m, news, Nat.zero_add n, rfl, B₀⟩
  rintro left s' ⟨i, h, tk, m', nx, hleft, rfl, B⟩
  cases left with
  | zero =>
    obtain rfl : i = n := hleft
    refine W.done _ _ _ B.src fun h₁ tk₁ same => ?_
    have std := B.moved hLw hwr same
    exact wpAny_mono (done m' nx h₁ tk₁ B.inv std.1 std.2) hR fun _ _ x => x.elim
  | succ left =>
    have hlt : i < n := by omega
    refine W.item i _ _ _ hlt B.src fun v h₁ tk₁ hv src same => ?_
    have std := B.moved hLw hwr same
    have mine : News h₀ env.locals h₁ (ownOf h₀ wr h₁) := news_ownOf hLw
    have apart : OwnOff (ownOf h₀ wr h₁) (nx.map (·.1)) := by
      rintro p hp b hb rfl
      obtain ⟨q, hq, e⟩ := List.mem_map.mp hb
      exact B.off q hq (e ▸ ownOf_sub p hp)
    have run := turn i v m' nx h₁ tk₁ (ownOf h₀ wr h₁) hlt hv B.inv apart (fun p hp => hcls _ _ src p.1 (ownOf_sub p hp) p.2 (mine p hp).1) std.1 (std.2.append mine)
    have next : ∀ {s₃ : Shared}, TurnEnd h₀ env.locals (J (i + 1)) (ownOf h₀ wr h₁) { s with heap := h₁, toks := tk₁ } s₃ → ∃ k, k < left + 1 ∧ at_ k s₃ := fun {s₃} fin => by
      obtain ⟨h₃, tk₃, m₃, nx₃, e, B₃⟩ := Between.step (fun h' st k => W.frame _ _ _ st k) hwr (hlive _ _ src) hro src std.1 std.2 B.inv fin
      exact ⟨left, Nat.lt_succ_self left, i + 1, h₃, tk₃, m₃, nx₃, by omega, e, B₃⟩
    refine hgo i v _ _ _ hlt hv src (wpAny_mono run (fun _ s₂ after => wpAny_mono after (fun f s₃ fin => ?_) fun _ _ x => x.elim) fun _ _ x => x.elim)
    cases f with
    | next => exact next fin
    | cont => exact next fin
    | brk => exact hR .next s₃ fin
    | ret r => exact hR (.ret r) s₃ fin

def nameOrRefs (target : Expr) (vs : List Value) : Prop := match target with
  | .Name .. => True
  | .Tuple .. => ∀ v ∈ vs, ∃ a, v = .ref a
  | _ => False

/-- what a list's for asks: the list stands in the ledger (or below it), J holds at the start, and is handed on by every turn -/
def ForLed (prog : Program) (w : World) (A : Around) (h₀ : Heap) (env : Env) (target : Expr) (body orelse : List Stmt) (Q : Flow → Shared → Prop) (xv : Value) (s : Shared) : Prop :=
  ∃ (l : Addr) (vs : List Value) (o : Obj) (m : Str → Option Value) (news : List (Addr × Obj)) (J : Nat → (Str → Option Value) → List (Addr × Obj) → Prop),
    xv = .ref l ∧ nameOrRefs target vs ∧ A.handled = none ∧ s.heap.get? l = some o ∧ o.cls = .type "list" ∧ (∃ n, o.data = .seq vs.toArray n) ∧ l < s.heap.objs.size ∧ Fr h₀ env.locals s.heap m ∧ News h₀ env.locals s.heap news ∧ J 0 m news ∧
    (h₀.get? l = some o ∨ ∀ i m nx, J i m nx → (l, o) ∈ nx) ∧
    (∀ i v m₁ nx h tk own, vs[i]? = some v → J i m₁ nx → OwnOff own (nx.map (·.1)) → (∀ p ∈ own, p.2.cls = .type "list_iterator") → Fr h₀ env.locals h m₁ → News h₀ env.locals h (nx ++ own) →
      wpAny (model prog w) A (assign target env v) (fun _ s₂ => wpAny (model prog w) A (execs body env) (TurnPost h₀ env.locals (J (i + 1)) own { s with heap := h, toks := tk } Q) (fun _ _ => False) s₂) (fun _ _ => False) { s with heap := h, toks := tk }) ∧
    (∀ m₁ nx h tk, J vs.length m₁ nx → Fr h₀ env.locals h m₁ → News h₀ env.locals h nx → wpAny (model prog w) A (execs orelse env) Q (fun _ _ => False) { s with heap := h, toks := tk })

theorem for_led {target iter : Expr} {body orelse : List Stmt} {pos : Pos} {m₀ : Str → Option Value} (_F₀ : Fr h₀ env.locals s.heap m₀)
    (h : wpAny (model prog w) A (eval iter env) (fun xv s₁ => ForLed prog w A h₀ env target body orelse Q xv s₁) E s)
    (hs : ∀ x, foldedSetIterable iter env x = pure x := by intro _; rfl) :
    wpAny (model prog w) A (exec (.For target iter body orelse pos) env) Q E s := by
  refine wpAny_For (wpAny_mono h (fun xv s₁ h₁ => ?_) fun _ _ e => e) hs
  obtain ⟨l, vs, o, m, news, J, rfl, hn', hh, hol, hc, ⟨n, hd⟩, hlt, F, N, h0, hro, turn, done⟩ := h₁
  have hls : s₁.heap.IsList l vs.toArray := ⟨o, hol, hc, n, hd⟩
  have hne : l ≠ s₁.heap.objs.size := Nat.ne_of_lt hlt
  refine wpAny_pyIter_list hls ?_
  have W := Walks.list (prog := prog) (w := w) hh s₁.heap.objs.size l hne vs.toArray
  refine for_walks (h₀ := h₀) (m := m) (news := news) W ?_ ?_ ?_ (.type "list_iterator") ?_ J { src := ⟨⟨_, Heap.get?_push_size _ rfl, rfl, rfl⟩, hls.at fun o e => Heap.get?_push_of_some _ e⟩, fr := F.push _, led := N.pushKeep _, off := ?_, inv := h0 } ?_ ?_ ?_ (fun f s' q => q) ?_
  · intro hm
    exact absurd F.ns.lt ((List.mem_singleton.mp hm) ▸ Nat.lt_irrefl _)
  · intro b hb
    rw [List.mem_singleton.mp hb]
    exact next_is_new F
  · rintro i h ⟨⟨o, ho, _⟩, _⟩ b hb
    rw [List.mem_singleton.mp hb]
    exact ⟨o, ho⟩
  · rintro i h ⟨⟨o, ho, hc, _⟩, _⟩ b hb o' ho'
    rw [List.mem_singleton.mp hb, ho] at ho'
    exact Option.some.inj ho' ▸ hc
  · intro p hp hI
    exact absurd (Heap.lt_size (N p hp).1) ((List.mem_singleton.mp hI) ▸ Nat.lt_irrefl _)
  · intro b hb hbw
    rcases List.mem_cons.mp hb with e | hb
    · exact absurd (List.mem_singleton.mpr e) hbw
    · rw [List.mem_singleton.mp hb]
      rcases hro with h | h
      · exact .inl ⟨_, h⟩
      · exact .inr ⟨_, h⟩
  · intro i v m₁ nx h tk own hi hP hJ hoff hoc F₁ N₁
    exact turn i v m₁ nx h tk own (by simpa using hP) hJ hoff hoc F₁ N₁
  · intro m₁ nx h tk hJ F₁ N₁
    refine done m₁ nx h tk ?_ F₁ N₁
    rwa [List.size_toArray] at hJ
  · rintro i v s' Q' E' hi hP ⟨hit, _⟩ hQ
    unfold nameOrRefs at hn'
    split at hn'
    · exact wpAny_of_eq rfl hQ
    · have hv : v ∈ vs := by
        have : vs[i]? = some v := by simpa using hP
        exact List.mem_of_getElem? this
      obtain ⟨a, rfl⟩ := hn' v hv
      exact wpAny_letOwnedTupleGo_listiter hit hQ
    · exact hn'.elim

/-- the same over a range that rises by ones -/
def ForRange (prog : Program) (w : World) (A : Around) (h₀ : Heap) (env : Env) (target : Expr) (body orelse : List Stmt) (Q : Flow → Shared → Prop) (xv : Value) (s : Shared) : Prop :=
  ∃ (r : Addr) (a b : Int) (t u v : Tok) (n : Nat) (m : Str → Option Value) (news : List (Addr × Obj)) (J : Nat → (Str → Option Value) → List (Addr × Obj) → Prop),
    xv = .ref r ∧ A.handled = none ∧ IsRange s.heap r a b 1 t u v ∧ Builtin.Range.small a b 1 = true ∧ Builtin.Range.rangeSize a b 1 = (n : Int) ∧ Fr h₀ env.locals s.heap m ∧ News h₀ env.locals s.heap news ∧ J 0 m news ∧
    (∀ (i : Nat) v m₁ nx h tk own, i < n → (∃ t, v = .int (a + (i : Int)) t) → J i m₁ nx → OwnOff own (nx.map (·.1)) → (∀ p ∈ own, p.2.cls = .type "range_iterator") → Fr h₀ env.locals h m₁ → News h₀ env.locals h (nx ++ own) →
      wpAny (model prog w) A (assign target env v) (fun _ s₂ => wpAny (model prog w) A (execs body env) (TurnPost h₀ env.locals (J (i + 1)) own { s with heap := h, toks := tk } Q) (fun _ _ => False) s₂) (fun _ _ => False) { s with heap := h, toks := tk }) ∧
    (∀ m₁ nx h tk, J n m₁ nx → Fr h₀ env.locals h m₁ → News h₀ env.locals h nx → wpAny (model prog w) A (execs orelse env) Q (fun _ _ => False) { s with heap := h, toks := tk })

theorem for_range {x : Str} {px : Pos} {iter : Expr} {body orelse : List Stmt} {pos : Pos} {m₀ : Str → Option Value} (_F₀ : Fr h₀ env.locals s.heap m₀)
    (h : wpAny (model prog w) A (eval iter env) (fun xv s₁ => ForRange prog w A h₀ env (.Name x px) body orelse Q xv s₁) E s)
    (hs : ∀ x, foldedSetIterable iter env x = pure x := by intro _; rfl) :
    wpAny (model prog w) A (exec (.For (.Name x px) iter body orelse pos) env) Q E s := by
  refine wpAny_For (wpAny_mono h (fun xv s₁ h₁ => ?_) fun _ _ e => e) hs
  obtain ⟨r, a, b, t, u, v, n, m, news, J, rfl, hh, hr, hsmall, hsz, F, N, h0, turn, done⟩ := h₁
  refine wpAny_pyIter_range hr hsmall ?_
  have W := Walks.range (prog := prog) (w := w) hh s₁.heap.objs.size a 1 n
  refine for_walks (h₀ := h₀) (m := m) (news := news) W ?_ ?_ ?_ (.type "range_iterator") ?_ J { src := by show IsRangeIter _ _ _ _ _; rw [hsz]; simpa using Heap.get?_push_size _ rfl, fr := F.push _, led := N.pushKeep _, off := ?_, inv := h0 } ?_ ?_ ?_ (fun f s' q => q) ?_
  · intro hm
    exact absurd F.ns.lt ((List.mem_singleton.mp hm) ▸ Nat.lt_irrefl _)
  · intro b hb
    rw [List.mem_singleton.mp hb]
    exact next_is_new F
  · intro i h hi b hb
    rw [List.mem_singleton.mp hb]
    exact ⟨_, hi⟩
  · intro i h hi b hb o' ho'
    rw [List.mem_singleton.mp hb, show h.get? _ = some _ from hi] at ho'
    cases Option.some.inj ho'
    rfl
  · intro p hp hI
    exact absurd (Heap.lt_size (N p hp).1) ((List.mem_singleton.mp hI) ▸ Nat.lt_irrefl _)
  · intro b hb hbw
    exact absurd hb hbw
  · rintro i v m₁ nx h tk own hi ⟨t, rfl⟩ hJ hoff hoc F₁ N₁
    exact turn i _ m₁ nx h tk own hi ⟨t, by rw [Int.mul_one]⟩ hJ hoff hoc F₁ N₁
  · intro m₁ nx h tk hJ F₁ N₁
    exact done m₁ nx h tk hJ F₁ N₁
  · intro i v s' Q' E' hi hP hst hQ
    exact wpAny_of_eq rfl hQ
end
/-- a turn of a while, under a name that the walk does not open by itself -/
def WhM := @WhileStep2
section
variable {prog : Program} {w : World} {A : Around} {E : Value → Shared → Prop} {Q : Flow → Shared → Prop} {s : Shared} {env : Env} {h₀ : Heap} {L : Addr}
/-- what a while asks -/
def WhileAt (prog : Program) (w : World) (A : Around) (h₀ : Heap) (L : Addr) (test : Expr) (body : List Stmt) (env : Env) (Q : Flow → Shared → Prop) (s : Shared) : Prop :=
  ∃ (J : Nat → (Str → Option Value) → List (Addr × Obj) → Prop) (n₀ : Nat) (m : Str → Option Value) (news : List (Addr × Obj)), Fr h₀ L s.heap m ∧ News h₀ L s.heap news ∧ J n₀ m news ∧
    ∀ n m₁ news₁ h₁ tk₁, Fr h₀ L h₁ m₁ → News h₀ L h₁ news₁ → J n m₁ news₁ →
      wpAny (model prog w) A (isTrue test env (eval test env)) (fun b s₂ => if b = true then wpAny (model prog w) A (execs body env) (WhM h₀ L s J Q n) (fun _ _ => False) s₂ else Q .next s₂) (fun _ _ => False) { s with heap := h₁, toks := tk₁ }
theorem while_at {test : Expr} {body : List Stmt} {pos : Pos} {m₀ : Str → Option Value} (_F₀ : Fr h₀ L s.heap m₀) (h : WhileAt prog w A h₀ L test body env Q s) : wpAny (model prog w) A (exec (.While test body [] pos) env) Q E s := by
  obtain ⟨J, n₀, m, news, F, N, hJ, turn⟩ := h
  exact wpAny_mono (While_inv2 (E := fun _ _ => False) J F N hJ (fun n m₁ news₁ h₁ tk₁ F₁ N₁ J₁ => turn n m₁ news₁ h₁ tk₁ F₁ N₁ J₁) (fun _ _ h => h.elim)) (fun _ _ q => q) fun _ _ h => h.elim
end
end Mine
end
section
open PySem PySem.W PyProof.Rows
namespace Mine
local macro_rules | `(tactic| walk_at "flush") => `(tactic| skip)
theorem flushMPretty {prog : Program} {w : World} {A : Around} {Q : Flow → Shared → Prop} {E : Value → Shared → Prop} {s : Shared} {env : Env} (h : wpAny (model prog w) A (execs [] env) Q E s) : wpAny (model prog w) A (execs [] env) Q E s := by
  w_top off
  first | (walk1; fail) | exact h
end Mine
end
section
open PySem PySem.W PyProof.Rows
namespace Mine
set_option maxRecDepth 100000
set_option maxHeartbeats 8000000
theorem fr_st {h₀ h : Heap} {L : Addr} {m : Str → Option Value} (ps : List (Str × Value)) (F : Fr h₀ L h m) (hp : ∀ p ∈ ps, m p.1 = some p.2) : Fr h₀ L h (kstB m ps) := by
  have : kstB m ps = m := funext fun z => kstB_eq hp fun _ => rfl
  rw [this]; exact F
/-- the names of the letters below i that v holds -/
def bitNames (v : Int) (i : Nat) : List Str := ((List.range i).filter fun k => v.toNat.testBit k).map fun k => Str.ofString ((["OPTIMIZED", "NEWLOCALS", "VARARGS", "VARKEYWORDS"] : List String).getD k "")
/-- pretty_flags of a number below 16 -/
def word (v : Int) : Str := if v = 0 then Str.ofString "0x0" else Txt.join (Str.ofString ", ") (bitNames v 4)

theorem fin16 {P : Int → Prop} (h : ∀ k : _root_.Fin 16, P (k.val : Int)) {v : Int} (h0 : 0 ≤ v) (h1 : v < 16) : P v := by
  have := h ⟨v.toNat, by omega⟩
  rwa [show ((⟨v.toNat, by omega⟩ : _root_.Fin 16).val : Int) = v from by simp; omega] at this
def nameAt (i : Nat) : String := (["OPTIMIZED", "NEWLOCALS", "VARARGS", "VARKEYWORDS"] : List String).getD i ""
theorem pr_skip0 (k : _root_.Fin 16) (i : _root_.Fin 4) : Builtin.bitAnd ((k.val : Int) - (k.val : Int) % 2 ^ i.val) (2 ^ i.val) = 0 → (k.val : Int) - (k.val : Int) % 2 ^ (i.val + 1) = (k.val : Int) - (k.val : Int) % 2 ^ i.val ∧ bitNames (k.val : Int) (i.val + 1) = bitNames (k.val : Int) i.val := by
  revert k i; decide +kernel
theorem pr_set0 (k : _root_.Fin 16) (i : _root_.Fin 4) : Builtin.bitAnd ((k.val : Int) - (k.val : Int) % 2 ^ i.val) (2 ^ i.val) ≠ 0 → Builtin.bitXor ((k.val : Int) - (k.val : Int) % 2 ^ i.val) (2 ^ i.val) = (k.val : Int) - (k.val : Int) % 2 ^ (i.val + 1) ∧
    bitNames (k.val : Int) (i.val + 1) = bitNames (k.val : Int) i.val ++ [Str.ofString (nameAt i.val)] ∧ (k.val : Int) ≠ 0 ∧
    (Builtin.bitXor ((k.val : Int) - (k.val : Int) % 2 ^ i.val) (2 ^ i.val) = 0 → bitNames (k.val : Int) (i.val + 1) = bitNames (k.val : Int) 4) := by
  revert k i; decide +kernel
theorem pr_skip {v f fl : Int} (i : Nat) (h0 : 0 ≤ v) (h1 : v < 16) (hi : i < 4) (ef : f = v - v % 2 ^ i) (efl : fl = 2 ^ i) (h : Builtin.bitAnd f fl = 0) : f = v - v % 2 ^ (i + 1) ∧ bitNames v (i + 1) = bitNames v i := by
  subst ef efl
  have := pr_skip0 ⟨v.toNat, by omega⟩ ⟨i, hi⟩
  simp only [Int.toNat_of_nonneg h0] at this
  exact ⟨(this h).1.symm, (this h).2⟩
theorem pr_set {v f fl : Int} (i : Nat) (h0 : 0 ≤ v) (h1 : v < 16) (hi : i < 4) (ef : f = v - v % 2 ^ i) (efl : fl = 2 ^ i) (h : Builtin.bitAnd f fl ≠ 0) : Builtin.bitXor f fl = v - v % 2 ^ (i + 1) ∧ bitNames v (i + 1) = bitNames v i ++ [Str.ofString (nameAt i)] ∧ v ≠ 0 ∧
    (Builtin.bitXor f fl = 0 → bitNames v (i + 1) = bitNames v 4) := by
  subst ef efl
  have := pr_set0 ⟨v.toNat, by omega⟩ ⟨i, hi⟩
  simp only [Int.toNat_of_nonneg h0] at this
  exact this h
theorem bitNames_len (v : Int) (i : Nat) : (bitNames v i).length ≤ i := by
  unfold bitNames
  rw [List.length_map]
  exact Nat.le_trans (List.length_filter_le _ _) (by simp)
theorem bitNames_weight (v : Int) : ((bitNames v 4).map (·.length)).sum + (bitNames v 4).length ≤ 1048576 := by
  have : ∀ b₀ b₁ b₂ b₃ : Bool, (((([0, 1, 2, 3] : List Nat).filter fun k => [b₀, b₁, b₂, b₃].getD k false).map fun k => Str.ofString ((["OPTIMIZED", "NEWLOCALS", "VARARGS", "VARKEYWORDS"] : List String).getD k "")).map (·.length)).sum + 4 ≤ 1048576 := by decide +kernel
  have h := this (v.toNat.testBit 0) (v.toNat.testBit 1) (v.toNat.testBit 2) (v.toNat.testBit 3)
  have h2 := bitNames_len v 4
  have e : bitNames v 4 = ((([0, 1, 2, 3] : List Nat).filter fun k => [v.toNat.testBit 0, v.toNat.testBit 1, v.toNat.testBit 2, v.toNat.testBit 3].getD k false).map fun k => Str.ofString ((["OPTIMIZED", "NEWLOCALS", "VARARGS", "VARKEYWORDS"] : List String).getD k "")) := by
    unfold bitNames
    rw [show List.range 4 = [0, 1, 2, 3] from rfl]
    simp [List.filter_cons]
  rw [e] at h2 ⊢
  omega

theorem pr_zero {v : Int} {i : Nat} (h0 : 0 ≤ v) (h1 : v < 16) (hi : 4 ≤ i) : v - v % 2 ^ i = 0 := by
  have h : (16 : Int) ≤ 2 ^ i := by
    have h2 : (2 : Nat) ^ 4 ≤ 2 ^ i := Nat.pow_le_pow_right (by decide) hi
    have h3 : ((2 ^ i : Nat) : Int) = 2 ^ i := by push_cast; rfl
    omega
  rw [Int.emod_eq_of_lt h0 (by omega)]
  omega
theorem bitAnd_zero {x : Int} (h : 0 ≤ x) : Builtin.bitAnd 0 x = 0 := by
  unfold Builtin.bitAnd
  rw [decide_eq_true h]
  simp
theorem pow_nn (k : Nat) : (0 : Int) ≤ 1 * 2 ^ k := Int.mul_nonneg (by decide) (Int.pow_nonneg (by decide))
theorem word_zero : Txt.join (Str.ofString ", ") [baseText "0x" 16 0] = word 0 := by decide +kernel
theorem bitNames_zero (i : Nat) : bitNames 0 i = [] := by
  unfold bitNames
  simp
def PrJ (v : Int) (l : Addr) (news : List (Addr × Obj)) (i : Nat) (m : Str → Option Value) (nx : List (Addr × Obj)) : Prop :=
  ∃ (tf : Tok) (its : Array Value) (n : Nat), m (Str.ofString "flags") = some (.int (v - v % 2 ^ i) tf) ∧ m (Str.ofString "names") = some (.ref l) ∧ nx = (l, W.listOf its n) :: news ∧ StrsAre its.toList (bitNames v i) ∧ (v = 0 ∨ v - v % 2 ^ i ≠ 0)
theorem pr_next {v f : Int} {i n : Nat} {l L : Addr} {g h' : Heap} {m' : Str → Option Value} {news own : List (Addr × Obj)} {its : Array Value} {tf : Tok} {s₁ : Shared} {tk : Nat} {Q : Flow → Shared → Prop}
    (F : Fr g L h' m') (N : News g L h' ((l, W.listOf its n) :: (news ++ own))) (hf : m' (Str.ofString "flags") = some (.int f tf)) (hn : m' (Str.ofString "names") = some (.ref l)) (hoff : OwnOff own (l :: news.map (·.1)))
    (e : f = v - v % 2 ^ (i + 1)) (hvs : StrsAre its.toList (bitNames v (i + 1))) (hne : v = 0 ∨ f ≠ 0) : TurnPost g L (PrJ v l news (i + 1)) own s₁ Q .next { s₁ with heap := h', toks := tk } := by
  subst e
  refine TurnEnd.intro ((l, W.listOf its n) :: news) F N (fun p hp => ?_) (fun p hp => .tail _ (List.mem_append_right _ hp)) hoff ⟨tf, its, n, hf, hn, rfl, hvs, hne⟩
  rcases List.mem_cons.mp hp with rfl | hp
  · exact .head _
  · exact .tail _ (List.mem_append_left _ hp)
theorem strs_push {its : Array Value} {ys : List Str} {y : Str} {t : Tok} (h : StrsAre its.toList ys) : StrsAre (its.push (.str y t)).toList (ys ++ [y]) := by
  rw [Array.toList_push]; exact kct_snoc h

local macro_rules | `(tactic| k_all) => `(tactic| assumption)
theorem pretty_ctr (w : World) (v : Int) (t : Tok) (h0 : 0 ≤ v) (h16 : v < 16) (news : List (Addr × Obj)) : Ctr w 183 [.int v t] [] news 4 (fun r n => n = news ∧ ∃ k, r = .str (word v) k) := by
  unfold Ctr PP
  k_fill
  intro mean mg mb dp un gd cn cs a ccd cl outer A₀ base h₀ L m s Q E B F X N T hk hd hu hret
  refine wpAny_call ?_
  k_dflt ktr_enter
  k_steps
  refine for_range (by assumption) ?_
  k_steps
  rename_i l' h2 hl h1 F1 N1 h' tkx t₁ u₁ v₁ hr FF NN a0
  refine ⟨_, 0, 32, t₁, u₁, v₁, 32, _, _, PrJ v l' news, rfl, rfl, hr, by decide, by decide, FF, NN, ?_, ?_, ?_⟩
  · refine ⟨t, #[], 0, ?_, ?_, rfl, .nil, ?_⟩
    · have e : v - v % 2 ^ 0 = v := by omega
      rw [e]
      with_unfolding_all rfl
    · with_unfolding_all rfl
    · omega
  · rintro i _ m₁ nx h tk own hi ⟨ti, rfl⟩ ⟨tf, its, n, hf, hn, rfl, hvs, hne⟩ hoff _ F₁ N₁
    have F₂ := fr_st [(Str.ofString "flags", _), (Str.ofString "names", _)] F₁ (by simp only [List.forall_mem_cons]; exact ⟨hf, hn, fun _ h => nomatch h⟩)
    have N₂ : News _ _ h ((l', W.listOf its n) :: (news ++ own)) := N₁
    have hAll : ∀ p ∈ news ++ own, p.1 ≠ l' := fun p hp => by
      rcases List.mem_append.mp hp with hp | hp
      · exact Nat.ne_of_lt (hl p hp)
      · exact hoff p hp _ (List.mem_map.mpr ⟨_, List.Mem.head _, rfl⟩)
    have hsz : its.size ≤ sizeLine := by
      have := hvs.len_eq
      have h2 := bitNames_len v i
      rw [Array.length_toList] at this
      rw [sizeLine_eq]
      omega
    clear F₁ FF NN N₁
    refine wpAny_assign_Name ?_
    have hi4 : 4 ≤ i ∨ i = 0 ∨ i = 1 ∨ i = 2 ∨ i = 3 := by omega
    rcases hi4 with h4 | rfl | rfl | rfl | rfl
    · have e0 : v - v % 2 ^ i = 0 := pr_zero h0 h16 h4
      have hv0 : v = 0 := hne.resolve_right (fun h => h e0)
      rw [e0] at F₂
      k_steps
      · exact absurd (bitAnd_zero (pow_nn _)) (by assumption)
      · refine pr_next (by assumption) (by assumption) (by with_unfolding_all rfl) (by with_unfolding_all rfl) hoff (pr_zero h0 h16 (by omega)).symm ?_ (.inl hv0)
        subst hv0
        rw [bitNames_zero] at hvs ⊢
        exact hvs
    · show wpAny _ _ (storeName _ _ (Value.int 0 ti)) _ _ _
      k_steps
      · obtain ⟨e1, e2, e3, e4⟩ := pr_set 0 h0 h16 (by decide) rfl rfl (by assumption)
        exact pr_next (by assumption) (by assumption) (by with_unfolding_all rfl) (by with_unfolding_all rfl) hoff e1 (e2 ▸ strs_push hvs) (.inr (by assumption))
      · obtain ⟨e1, e2, e3, e4⟩ := pr_set 0 h0 h16 (by decide) rfl rfl (by assumption)
        have hvs' : ∀ t, StrsAre (its.push (.str (Str.ofString (nameAt 0)) t)).toList (bitNames v 4) := fun t => by rw [← e4 (by assumption), e2]; exact strs_push hvs
        dsimp only [TurnPost, InvPostG]
        k_steps
        refine join_listW (News.isList (by assumption) (.head _)) (hvs' _) (by decide) (bitNames_weight v) ?_
        intro _ _
        k_steps
        exact hret _ _ _ _ (by k_asm) (cb_drop (by assumption) (fun p hp => .tail _ (List.mem_append_left _ hp))) ⟨rfl, _, by rw [word, if_neg e3]⟩
      · obtain ⟨e1, e2⟩ := pr_skip 0 h0 h16 (by decide) rfl rfl (by assumption)
        exact pr_next (by assumption) (by assumption) (by with_unfolding_all rfl) (by with_unfolding_all rfl) hoff e1 (e2 ▸ hvs) hne
    · show wpAny _ _ (storeName _ _ (Value.int 1 ti)) _ _ _
      k_steps
      · obtain ⟨e1, e2, e3, e4⟩ := pr_set 1 h0 h16 (by decide) rfl rfl (by assumption)
        exact pr_next (by assumption) (by assumption) (by with_unfolding_all rfl) (by with_unfolding_all rfl) hoff e1 (e2 ▸ strs_push hvs) (.inr (by assumption))
      · obtain ⟨e1, e2, e3, e4⟩ := pr_set 1 h0 h16 (by decide) rfl rfl (by assumption)
        have hvs' : ∀ t, StrsAre (its.push (.str (Str.ofString (nameAt 1)) t)).toList (bitNames v 4) := fun t => by rw [← e4 (by assumption), e2]; exact strs_push hvs
        dsimp only [TurnPost, InvPostG]
        k_steps
        refine join_listW (News.isList (by assumption) (.head _)) (hvs' _) (by decide) (bitNames_weight v) ?_
        intro _ _
        k_steps
        exact hret _ _ _ _ (by k_asm) (cb_drop (by assumption) (fun p hp => .tail _ (List.mem_append_left _ hp))) ⟨rfl, _, by rw [word, if_neg e3]⟩
      · obtain ⟨e1, e2⟩ := pr_skip 1 h0 h16 (by decide) rfl rfl (by assumption)
        exact pr_next (by assumption) (by assumption) (by with_unfolding_all rfl) (by with_unfolding_all rfl) hoff e1 (e2 ▸ hvs) hne
    · show wpAny _ _ (storeName _ _ (Value.int 2 ti)) _ _ _
      k_steps
      · obtain ⟨e1, e2, e3, e4⟩ := pr_set 2 h0 h16 (by decide) rfl rfl (by assumption)
        exact pr_next (by assumption) (by assumption) (by with_unfolding_all rfl) (by with_unfolding_all rfl) hoff e1 (e2 ▸ strs_push hvs) (.inr (by assumption))
      · obtain ⟨e1, e2, e3, e4⟩ := pr_set 2 h0 h16 (by decide) rfl rfl (by assumption)
        have hvs' : ∀ t, StrsAre (its.push (.str (Str.ofString (nameAt 2)) t)).toList (bitNames v 4) := fun t => by rw [← e4 (by assumption), e2]; exact strs_push hvs
        dsimp only [TurnPost, InvPostG]
        k_steps
        refine join_listW (News.isList (by assumption) (.head _)) (hvs' _) (by decide) (bitNames_weight v) ?_
        intro _ _
        k_steps
        exact hret _ _ _ _ (by k_asm) (cb_drop (by assumption) (fun p hp => .tail _ (List.mem_append_left _ hp))) ⟨rfl, _, by rw [word, if_neg e3]⟩
      · obtain ⟨e1, e2⟩ := pr_skip 2 h0 h16 (by decide) rfl rfl (by assumption)
        exact pr_next (by assumption) (by assumption) (by with_unfolding_all rfl) (by with_unfolding_all rfl) hoff e1 (e2 ▸ hvs) hne
    · show wpAny _ _ (storeName _ _ (Value.int 3 ti)) _ _ _
      k_steps
      · obtain ⟨e1, e2, e3, e4⟩ := pr_set 3 h0 h16 (by decide) rfl rfl (by assumption)
        exact pr_next (by assumption) (by assumption) (by with_unfolding_all rfl) (by with_unfolding_all rfl) hoff e1 (e2 ▸ strs_push hvs) (.inr (by assumption))
      · obtain ⟨e1, e2, e3, e4⟩ := pr_set 3 h0 h16 (by decide) rfl rfl (by assumption)
        have hvs' : ∀ t, StrsAre (its.push (.str (Str.ofString (nameAt 3)) t)).toList (bitNames v 4) := fun t => by rw [← e4 (by assumption), e2]; exact strs_push hvs
        dsimp only [TurnPost, InvPostG]
        k_steps
        refine join_listW (News.isList (by assumption) (.head _)) (hvs' _) (by decide) (bitNames_weight v) ?_
        intro _ _
        k_steps
        exact hret _ _ _ _ (by k_asm) (cb_drop (by assumption) (fun p hp => .tail _ (List.mem_append_left _ hp))) ⟨rfl, _, by rw [word, if_neg e3]⟩
      · obtain ⟨e1, e2⟩ := pr_skip 3 h0 h16 (by decide) rfl rfl (by assumption)
        exact pr_next (by assumption) (by assumption) (by with_unfolding_all rfl) (by with_unfolding_all rfl) hoff e1 (e2 ▸ hvs) hne
  · rintro m₁ nx h tk ⟨tf, its, n, hf, hn, rfl, hvs, hne⟩ F₁ N₁
    have e0 : v - v % 2 ^ 32 = 0 := pr_zero h0 h16 (by omega)
    have hv0 : v = 0 := hne.resolve_right (fun h => h e0)
    rw [e0] at hf
    subst hv0
    rw [bitNames_zero] at hvs
    have F₂ := fr_st [(Str.ofString "flags", _), (Str.ofString "names", _)] F₁ (by simp only [List.forall_mem_cons]; exact ⟨hf, hn, fun _ h => nomatch h⟩)
    obtain ⟨its⟩ := its
    cases hvs
    have hAll : ∀ p ∈ news, p.1 ≠ l' := fun p hp => Nat.ne_of_lt (hl p hp)
    clear F₁ FF NN
    k_steps
    exact hret _ _ _ _ (by k_asm) (cb_drop (by assumption) (fun p hp => .tail _ hp)) ⟨rfl, _, by rw [word_zero]⟩
end Mine
end
section
open PySem PySem.W PyProof.Rows
namespace Mine
local macro_rules | `(tactic| walk_at "flush") => `(tactic| skip)
theorem flushMSearch {prog : Program} {w : World} {A : Around} {Q : Flow → Shared → Prop} {E : Value → Shared → Prop} {s : Shared} {env : Env} (h : wpAny (model prog w) A (execs [] env) Q E s) : wpAny (model prog w) A (execs [] env) Q E s := by
  w_top off
  first | (walk1; fail) | exact h
end Mine
end
section
open PySem PySem.W PyProof.Rows PySem.Spec PySem.Calls PySem.Builtin.Re
namespace Mine
set_option maxRecDepth 100000
set_option maxHeartbeats 4000000

/-- the matcher, driven at most n turns -/
def drv : Nat → Sre.M → Option Sre.M
  | 0, _ => none
  | n + 1, m => let m := m.runFor reTurnSteps; if m.outcome.isSome then some m else drv n m
def failedB (m : Sre.M) : Bool := match m.outcome with | some .failed => true | _ => false
/-- nothing of the pattern is found in the text -/
def noneIn (code cps : Array Nat) : Bool := (drv 200 (Sre.forSearch code cps 0 0 cps.size false)).any failedB

section
variable {M : Model} {A : Around} {E : Value → Shared → Prop} {s : Shared}
theorem drive_of {m' : Sre.M} {Q : Sre.M → Shared → Prop} : ∀ (n k : Nat) (m : Sre.M), drv n m = some m' → Q m' s → wpAny M A (reDrive (n + k) m) Q E s
  | 0, _, _, h, _ => by cases h
  | n + 1, k, m, h, hQ => by
    rw [show n + 1 + k = (n + k) + 1 by omega]
    unfold drv at h
    unfold reDrive
    dsimp only at h ⊢
    by_cases e : (m.runFor reTurnSteps).outcome.isSome = true
    · rw [if_pos e] at h ⊢
      cases h
      exact wpAny_pure hQ
    · rw [if_neg e] at h ⊢
      exact wpAny_bind (wpAny_rule (drive_of n k _ h hQ))
theorem rules_of {P : Nat → Prop} [DecidablePred P] {f : Nat → String} {Q : PUnit → Shared → Prop} (h : Q ⟨⟩ s) : ∀ (l : List Nat), wpAny M A (forIn l PUnit.unit (fun i _ => if P i then (do rule (f i); pure (ForInStep.yield PUnit.unit)) else (pure (ForInStep.yield PUnit.unit) : Sem (ForInStep PUnit)))) Q E s
  | [] => by rw [List.forIn_nil]; exact wpAny_pure h
  | i :: l => by
    rw [List.forIn_cons]
    refine wpAny_bind ?_
    by_cases e : P i
    · rw [if_pos e]; exact wpAny_bind (wpAny_rule (wpAny_pure (rules_of h l)))
    · rw [if_neg e]; exact wpAny_pure (rules_of h l)
theorem runs_none {m : Sre.M} {Q : Option Sre.M → Shared → Prop} (hm : (drv 200 m).any failedB = true) (h : Q none s) : wpAny M A (reRunToEnd m) Q E s := by
  cases hd : drv 200 m with
  | none => rw [hd] at hm; cases hm
  | some m' =>
    rw [hd] at hm
    have hf : m'.outcome = some .failed := by
      have : failedB m' = true := hm
      unfold failedB at this
      split at this
      · assumption
      · cases this
    unfold reRunToEnd
    refine wpAny_bind ?_
    rw [show (2 ^ 64 : Nat) = 200 + (2 ^ 64 - 200) by decide]
    refine drive_of 200 _ _ hd ?_
    refine wpAny_bind (rules_of (P := fun i => m'.seen.has i = true) (f := fun i => Sre.names.getD i "") ?_ _)
    rw [hf]
    exact wpAny_pure h
end
theorem re_named (s : Str) (t : Tok) : reNamed "re.Pattern.search" "search" ["string", "pos", "endpos"] 1 [.str s t] [] = pure [some (.str s t), none, none] := by rfl
theorem entry_search : entryFor table "re.Pattern.search" = some Builtin.«re.Pattern.search» := entryFor_of_fast (by kernel_rfl)
theorem args_search (a b : Value) : argsOk "re.Pattern.search" ⟨[a, b], []⟩ := by unfold argsOk; kernel_rfl
theorem slot_search : Slot "re.Pattern" "search" "re.Pattern.search" :=
  .of (owner := "re.Pattern") (n := "search") (by rw [typeLookup_type, builtinLookup_eq_fast]; kernel_rfl) (by decide +kernel) (by decide +kernel) (by decide +kernel)
    (by first | exact .inl (by decide +kernel) | exact .inr (by decide +kernel)) (by rw [isSubtype_type]; kernel_rfl)
section
variable {prog : Program} {w : World} {A : Around} {E : Value → Shared → Prop} {s : Shared}
/-- a search of a plain pattern that finds nothing -/
theorem search_none {p c : Addr} {pt x : Str} {tp t fl : Tok} {flags : Int} {xs : Array Value} {n : Nat} {Q : Value → Shared → Prop}
    (hp : s.heap.get? p = some ⟨.type "re.Pattern", none, .fields #[.str pt tp, .int flags fl, .int 0 0, .none, .none, .ref c, .int 0 0], #[]⟩)
    (hc : s.heap.get? c = some ⟨.type "tuple", none, .seq xs n, #[]⟩) (hx : x.cps.size < 2 ^ 63) (hno : noneIn ((xs.map reRawOf).map (·.toNat)) x.cps = true) (h : Q .none s) :
    wpAny (model prog w) A (call (.builtin "re.Pattern.search") [.ref p, .str x t]) Q E s := by
  refine wpAny_call_entry slot_search ⟨_, hp, rfl⟩ entry_search ?_ (args_search _ _)
  show wpAny _ _ (reTarget "re.Pattern.search" "search" ⟨[.ref p, .str x t], []⟩ >>= fun T => reAnswer T (Sre.forSearch T.code T.text T.groups T.pos T.lim false)) _ _ s
  refine wpAny_bind ?_
  unfold reTarget
  dsimp only
  rw [re_named]
  refine wpAny_bind (wpAny_pure ?_)
  refine wpAny_bind (wpAny_pure ?_)
  refine wpAny_bind (wpAny_pure ?_)
  refine wpAny_bind (wpAny_fieldsOf hp rfl ?_)
  refine wpAny_bind (m := reTextOf (.str x t)) (wpAny_pure ?_)
  dsimp only
  rw [show reRawNat ((#[Value.str pt tp, Value.int flags fl, Value.int 0 0, Value.none, Value.none, Value.ref c, Value.int 0 0] : Array Value).getD 6 Value.none) = 0 from rfl,
    show reRawNat ((#[Value.str pt tp, Value.int flags fl, Value.int 0 0, Value.none, Value.none, Value.ref c, Value.int 0 0] : Array Value).getD 2 Value.none) = 0 from rfl,
    show ((#[Value.str pt tp, Value.int flags fl, Value.int 0 0, Value.none, Value.none, Value.ref c, Value.int 0 0] : Array Value).getD 5 Value.none) = Value.ref c from rfl]
  rw [if_neg (by decide), if_neg (by decide)]
  have e0 : min (Int.toNat 0) x.cps.size = 0 := Nat.min_eq_left (Nat.zero_le _)
  have e1 : min (Int.toNat (2 ^ 63 - 1)) x.cps.size = x.cps.size := Nat.min_eq_right (by
    have : Int.toNat (2 ^ 63 - 1) = 2 ^ 63 - 1 := by decide
    rw [this]; omega)
  rw [e0, e1]
  unfold reNoCollectionInside
  rw [if_neg (by decide)]
  refine wpAny_bind (wpAny_pure ?_)
  refine wpAny_bind (m := reRawItems (.ref c)) ?_
  unfold reRawItems seqItems?
  refine wpAny_bind (wpAny_bind (wpAny_load hc (wpAny_pure (wpAny_pure (wpAny_pure ?_)))))
  dsimp only
  unfold reAnswer
  refine wpAny_bind (runs_none hno ?_)
  exact wpAny_pure ⟨_, rfl, h⟩
end
theorem plainAttrs_pat : PlainAttrs "re.Pattern" :=
  ⟨⟨"object.__getattribute__", by rw [typeLookup_type, builtinLookup_eq_fast]; kernel_rfl, by decide +kernel⟩, by rw [typeLookup_type, builtinLookup_eq_fast]; kernel_rfl⟩
theorem type_search : typeOf (.builtin "re.Pattern.search") = pure (.type "method_descriptor") := by show builtinType _ = _; rw [builtinType_eq_fast]; kernel_rfl
section
variable {prog : Program} {w : World} {A : Around} {E : Value → Shared → Prop} {s : Shared} {K : Frag} {h₀ : Heap} {L : Addr} {m : Str → Option Value}
theorem method_pat {p : Addr} {d : Data} {pl : Sem Bool} {Q : Value × List Value → Shared → Prop} (F : Fr h₀ L s.heap m) (X₀ : K.In h₀) (hl : K.lookup p = some ⟨.type "re.Pattern", none, d, #[]⟩)
    (h : Q (.builtin "re.Pattern.search", [.ref p]) s) : wpAny (model prog w) A (getMethod (.ref p) "search" pl) Q E s :=
  have hp := (X₀.keeps F.keep) _ _ hl
  getMethod_builtin (v := .ref p) ⟨_, hp, rfl⟩ plainAttrs_pat slot_search type_search (fun a e => by cases e; exact ⟨_, hp, rfl⟩) h
theorem search_K {p c : Addr} {pt x : Str} {tp t fl : Tok} {flags : Int} {xs : Array Value} {n : Nat} {Q : Value → Shared → Prop} (F : Fr h₀ L s.heap m) (X₀ : K.In h₀)
    (hp : K.lookup p = some ⟨.type "re.Pattern", none, .fields #[.str pt tp, .int flags fl, .int 0 0, .none, .none, .ref c, .int 0 0], #[]⟩)
    (hc : K.lookup c = some ⟨.type "tuple", none, .seq xs n, #[]⟩) (hx : x.cps.size < 2 ^ 63) (hno : noneIn ((xs.map reRawOf).map (·.toNat)) x.cps = true) (h : Q .none s) :
    wpAny (model prog w) A (call (.builtin "re.Pattern.search") [.ref p, .str x t]) Q E s :=
  search_none ((X₀.keeps F.keep) _ _ hp) ((X₀.keeps F.keep) _ _ hc) hx hno h
end
def nmVals : Array Value := #[.int 14 0, .int 10 0, .int 4 0, .int 1 0, .int 1 0, .int 22 0, .int 0 0, .int 31 0, .int 16 0, .int 127 0, .int 0 0, .int 13 0, .int 7 0, .int 22 0, .int 0 0, .int 31 0, .int 16 0, .int 127 0, .int 0 0, .int 1 0]
def vlVals : Array Value := #[.int 14 0, .int 14 0, .int 4 0, .int 1 0, .int 1 0, .int 9 0, .int 4294966783 0, .int 0 0, .int 0 0, .int 2147483648 0, .int 0 0, .int 0 0, .int 0 0, .int 0 0, .int 0 0, .int 13 0, .int 11 0, .int 9 0, .int 4294966783 0, .int 0 0, .int 0 0, .int 2147483648 0, .int 0 0, .int 0 0, .int 0 0, .int 0 0, .int 0 0, .int 1 0]
/-- a text that the headers' pattern lets through: of a name (true), of a value (false) -/
def clean (b : Bool) (y : Str) : Bool := (if b then noneIn ((nmVals.map reRawOf).map (·.toNat)) y.cps else noneIn ((vlVals.map reRawOf).map (·.toNat)) y.cps) && decide (y.cps.size < 2 ^ 63)
def low (y : Str) : Str := Txt.lower y
def num (v : Int) : Str := Str.ofString (toString v)
theorem clean_all : ∀ k : _root_.Fin 16, (clean true (word (k.val : Int)) && clean true (low (word (k.val : Int))) && clean false (num (k.val : Int))) = true := by decide +kernel
end Mine
end
section
open PySem PySem.W PyProof.Rows
namespace Mine
local macro_rules | `(tactic| walk_at "flush") => `(tactic| skip)
theorem flushMConv {prog : Program} {w : World} {A : Around} {Q : Flow → Shared → Prop} {E : Value → Shared → Prop} {s : Shared} {env : Env} (h : wpAny (model prog w) A (execs [] env) Q E s) : wpAny (model prog w) A (execs [] env) Q E s := by
  w_top off
  first | (walk1; fail) | exact h
end Mine
end
section
open PySem PySem.W PyProof.Rows
namespace Mine
set_option maxRecDepth 100000
set_option maxHeartbeats 8000000
section
local macro_rules | `(tactic| walk_at "getMethod ref") => `(tactic| (k_here; (with_reducible show wpAny _ _ (getMethod (Value.ref _) (PySem.Str.ofString "search") _) _ _ _); k_dflt (refine' method_pat ?F ?X ?l ?_; (case F => k_asm); (case X => k_asm); (case l => k_is); k_whole)))
local macro_rules | `(tactic| walk_at "call builtin:re.Pattern.search") => `(tactic| (k_here; k_dflt (refine' search_K ?F ?X ?p ?c ?x ?n ?_; (case F => k_asm); (case X => k_asm); (case p => k_is); (case c => k_is); (case x => assumption); (case n => assumption); k_whole)))
theorem conv_ctr (w : World) (x : Addr) (y : Str) (t : Tok) (b : Bool) (hc : clean b y = true) (news : List (Addr × Obj)) : Ctr w 70 [.ref x, .str y t] [(Str.ofString "name", .bool b)] news 4 (fun r n => n = news ∧ ∃ k, r = .str y k) := by
  unfold Ctr PP
  k_fill
  intro mean mg mb dp un gd cn cs a ccd cl outer A₀ base h₀ L m s Q E B F X N T hk hd hu hret
  obtain ⟨hc, hz⟩ := Bool.and_eq_true_iff.mp hc
  have hz := of_decide_eq_true hz
  cases b
  · have hc : noneIn ((vlVals.map Builtin.Re.reRawOf).map (·.toNat)) y.cps = true := hc
    refine wpAny_call ?_
    k_dflt ktr_enter
    k_steps
    exact hret _ _ _ _ (by k_asm) (by k_asm) ⟨rfl, _, rfl⟩
  · have hc : noneIn ((nmVals.map Builtin.Re.reRawOf).map (·.toNat)) y.cps = true := hc
    refine wpAny_call ?_
    k_dflt ktr_enter
    k_steps
    exact hret _ _ _ _ (by k_asm) (by k_asm) ⟨rfl, _, rfl⟩
end
end Mine
end
section
open PySem PySem.W PyProof.Rows
namespace Mine
local macro_rules | `(tactic| walk_at "flush") => `(tactic| skip)
theorem flushMTab {prog : Program} {w : World} {A : Around} {Q : Flow → Shared → Prop} {E : Value → Shared → Prop} {s : Shared} {env : Env} (h : wpAny (model prog w) A (execs [] env) Q E s) : wpAny (model prog w) A (execs [] env) Q E s := by
  w_top off
  first | (walk1; fail) | exact h
end Mine
end
section
open PySem PySem.W PyProof.Rows
namespace Mine
set_option maxRecDepth 100000
set_option maxHeartbeats 8000000
/-- a row of the table: the pair of the words and the number -/
abbrev rowObj (v : Int) (t u : Tok) (n : Nat) : Obj := { cls := .type "tuple", data := .seq (List.toArray [.str (word v) t, .str (num v) u]) n }
inductive RowsAre (news : List (Addr × Obj)) : List Value → List Int → Prop
  | nil : RowsAre news [] []
  | cons {a : Addr} {v : Int} {t u : Tok} {n : Nat} {its : List Value} {vs : List Int} : (a, rowObj v t u n) ∈ news → 0 ≤ v → v < 16 → RowsAre news its vs → RowsAre news (.ref a :: its) (v :: vs)
structure Tab (w : World) (news : List (Addr × Obj)) (x dx l : Addr) (its : List Value) (n : Nat) (vs : List Int) : Prop where
  hx : (x, instObj 171 dx) ∈ news
  hd : ∃ (hsh : Int) (tok : Tok), (dx, dictOf [⟨hsh, .str (Str.ofString "_headers") tok, .ref l⟩] 1) ∈ news
  hl : (l, W.listOf its.toArray n) ∈ news
  hr : RowsAre news its vs
  hn : vs.Nodup
theorem RowsAre.length {news : List (Addr × Obj)} : ∀ {its : List Value} {vs : List Int}, RowsAre news its vs → its.length = vs.length
  | _, _, .nil => rfl
  | _, _, .cons _ _ _ r => by rw [List.length_cons, List.length_cons, r.length]
theorem RowsAre.mono {news news' : List (Addr × Obj)} (hs : ∀ a v t u n, (a, rowObj v t u n) ∈ news → (a, rowObj v t u n) ∈ news') : ∀ {its : List Value} {vs : List Int}, RowsAre news its vs → RowsAre news' its vs
  | _, _, .nil => .nil
  | _, _, .cons h a b r => .cons (hs _ _ _ _ _ h) a b (r.mono hs)
theorem RowsAre.get {news : List (Addr × Obj)} : ∀ {its : List Value} {vs : List Int} {i : Nat} {y : Value}, RowsAre news its vs → its[i]? = some y → ∃ a v t u n, y = .ref a ∧ vs[i]? = some v ∧ (a, rowObj v t u n) ∈ news ∧ 0 ≤ v ∧ v < 16
  | _, _, 0, _, .cons (a := a) h p q _, e => by cases e; exact ⟨a, _, _, _, _, rfl, rfl, h, p, q⟩
  | _, _, i + 1, _, .cons _ _ _ r, e => by
    obtain ⟨a, v, t, u, n, h1, h2, h3⟩ := r.get (i := i) (by simpa using e)
    exact ⟨a, v, t, u, n, h1, by simpa using h2, h3⟩
theorem RowsAre.refs {news : List (Addr × Obj)} : ∀ {its : List Value} {vs : List Int}, RowsAre news its vs → ∀ y ∈ its, ∃ a, y = .ref a
  | _, _, .cons (a := a) _ _ _ r, y, h => by
    rcases List.mem_cons.mp h with rfl | h
    · exact ⟨a, rfl⟩
    · exact r.refs y h
theorem RowsAre.range {news : List (Addr × Obj)} : ∀ {its : List Value} {vs : List Int}, RowsAre news its vs → ∀ v ∈ vs, 0 ≤ v ∧ v < 16
  | _, _, .cons _ p q r, v, h => by
    rcases List.mem_cons.mp h with rfl | h
    · exact ⟨p, q⟩
    · exact r.range v h
theorem range16_mem {v : Int} (h0 : 0 ≤ v) (h1 : v < 16) : v ∈ (List.range 16).map (fun k : Nat => (k : Int)) := List.mem_map.mpr ⟨v.toNat, List.mem_range.mpr (by omega), by omega⟩
theorem nodup_len {vs : List Int} (hn : vs.Nodup) (hr : ∀ v ∈ vs, 0 ≤ v ∧ v < 16) : vs.length ≤ 16 := by
  have := List.Nodup.length_le_of_subset hn (l₂ := (List.range 16).map (fun k : Nat => (k : Int))) (fun v hv => range16_mem (hr v hv).1 (hr v hv).2)
  simpa using this
theorem Tab.len {w : World} {news : List (Addr × Obj)} {x dx l : Addr} {its : List Value} {n : Nat} {vs : List Int} (T : Tab w news x dx l its n vs) : vs.length ≤ 16 := nodup_len T.hn T.hr.range
theorem RowsAre.snoc {news : List (Addr × Obj)} {a : Addr} {v : Int} {t u : Tok} {n : Nat} (h : (a, rowObj v t u n) ∈ news) (h0 : 0 ≤ v) (h1 : v < 16) : ∀ {its : List Value} {vs : List Int}, RowsAre news its vs → RowsAre news (its ++ [.ref a]) (vs ++ [v])
  | _, _, .nil => .cons h h0 h1 .nil
  | _, _, .cons p q r z => .cons p q r (RowsAre.snoc h h0 h1 z)
/-- what setdefault makes of the table's numbers -/
def ins (vs : List Int) (v : Int) : List Int := if v ∈ vs then vs else vs ++ [v]
theorem clean_word {v : Int} (h0 : 0 ≤ v) (h1 : v < 16) : clean true (word v) = true := fin16 (P := fun v => clean true (word v) = true) (fun k => (Bool.and_eq_true_iff.mp (Bool.and_eq_true_iff.mp (clean_all k)).1).1) h0 h1
theorem clean_low {v : Int} (h0 : 0 ≤ v) (h1 : v < 16) : clean true (low (word v)) = true := fin16 (P := fun v => clean true (low (word v)) = true) (fun k => (Bool.and_eq_true_iff.mp (Bool.and_eq_true_iff.mp (clean_all k)).1).2) h0 h1
theorem clean_num {v : Int} (h0 : 0 ≤ v) (h1 : v < 16) : clean false (num v) = true := fin16 (P := fun v => clean false (num v) = true) (fun k => (Bool.and_eq_true_iff.mp (clean_all k)).2) h0 h1
theorem word_len0 : ∀ k : _root_.Fin 16, (word (k.val : Int)).length ≤ 64 ∧ (num (k.val : Int)).length ≤ 2 := by decide +kernel
theorem word_len {v : Int} (h0 : 0 ≤ v) (h1 : v < 16) : (word v).length ≤ 64 := fin16 (P := fun v => (word v).length ≤ 64) (fun k => (word_len0 k).1) h0 h1
theorem num_len {v : Int} (h0 : 0 ≤ v) (h1 : v < 16) : (num v).length ≤ 2 := fin16 (P := fun v => (num v).length ≤ 2) (fun k => (word_len0 k).2) h0 h1
theorem low_inj0 : ∀ j k : _root_.Fin 16, low (word (j.val : Int)) = low (word (k.val : Int)) → j = k := by decide +kernel
theorem low_inj {u v : Int} (hu : 0 ≤ u) (hu' : u < 16) (hv : 0 ≤ v) (hv' : v < 16) (h : low (word u) = low (word v)) : u = v := by
  have := low_inj0 ⟨u.toNat, by omega⟩ ⟨v.toNat, by omega⟩
  simp only [Int.toNat_of_nonneg hu, Int.toNat_of_nonneg hv] at this
  have := congrArg _root_.Fin.val (this h)
  dsimp only at this
  omega
end Mine
end
section
open PySem PySem.W PyProof.Rows
namespace Mine
local macro_rules | `(tactic| walk_at "flush") => `(tactic| skip)
theorem flushMGet {prog : Program} {w : World} {A : Around} {Q : Flow → Shared → Prop} {E : Value → Shared → Prop} {s : Shared} {env : Env} (h : wpAny (model prog w) A (execs [] env) Q E s) : wpAny (model prog w) A (execs [] env) Q E s := by
  w_top off
  first | (walk1; fail) | exact h
end Mine
end
section
open PySem PySem.W PyProof.Rows
namespace Mine
set_option maxRecDepth 100000
set_option maxHeartbeats 8000000
section
local macro_rules | `(tactic| cell_enter) => `(tactic| (refine' code_def ?k1 ?k2 ?k3 ?k4 ?k5 ?kA ?kF ?kK ?k6 ?k7 ?k8 ?k9 ?kB ?_ ?c2 ?c3 ?c4 ?c5; (case kA | kF => rfl); (case kK => assumption); (case k1 | k2 | k3 | k4 | k5 => k_asm); (case k6 | k7 => k_is); (case k8 => ktr_room); (case k9 => first | exact BindsTo.of_eq rfl | exact binds_K (by k_in) rfl (by k_is) rfl rfl rfl); (case kB => exact locs rfl); (case c2 | c3 | c4 => rfl); (case c5 => decide); k_whole; intro g1 L1 h1 FG1 F1 N1 B1 X1 T1; (try dsimp only); (try k_fold)))
local macro_rules | `(tactic| walk_at "call ref") => `(tactic| (k_here; (with_reducible show wpAny _ _ (call (Value.ref 70) _ _) _ _ _); k_dflt (refine' Ctr.use (conv_ctr _ _ _ _ true ?c _) ?k1 ?k2 ?k3 ?k4 ?k5 ?kK ?kd ?ku ?_; (case k1 => k_asm); (case k2 => k_asm); (case k3 => k_asm); (case k4 => k_asm); (case k5 => k_asm); (case kK => first | exact rfl | assumption); (case c => assumption); (case kd => ktr_room); (case ku => ktr_units)); intro r9 n9 h9 tk9 F9 N9 P9; obtain ⟨en9, k9, er9⟩ := P9; replace en9 := en9.symm; subst en9; subst er9; (try dsimp only); (try k_fold)))
def GtJ (v : Int) (vs : List Int) (news : List (Addr × Obj)) (i : Nat) (m : Str → Option Value) (nx : List (Addr × Obj)) : Prop :=
  (∃ kk, m (Str.ofString "name") = some (.str (Txt.lower (word v)) kk)) ∧ m (Str.ofString "default") = some .none ∧ nx = news ∧ ∀ j, j < i → vs[j]? ≠ some v
theorem get_ctr (w : World) (x dx l : Addr) (its : List Value) (n : Nat) (vs : List Int) (v : Int) (h0 : 0 ≤ v) (h16 : v < 16) (t : Tok) (news : List (Addr × Obj)) (hT : Tab w news x dx l its n vs) :
    Ctr w 118 [.ref x, .str (word v) t] [] news 8 (fun r n => n = news ∧ (v ∈ vs → ∃ k, r = .str (num v) k) ∧ (v ∉ vs → r = .none)) := by
  unfold Ctr PP
  k_fill
  intro mean mg mb dp un gd cn cs a ccd cl outer A₀ base h₀ L m s Q E B F X N T hk hd hu hret
  obtain ⟨hx, ⟨hsh, tok, hdx⟩, hl, hr, _⟩ := hT
  have hcl : clean true (Txt.lower (word v)) = true := clean_low h0 h16
  have hwl := word_len h0 h16
  refine wpAny_call ?_
  k_dflt cell_enter
  k_steps
  refine for_led (by assumption) ?_
  k_steps
  rename Fr _ _ _ _ => FF
  rename News _ _ _ _ => NN
  refine ⟨l, its, W.listOf its.toArray n, _, news, GtJ v vs news, rfl, hr.refs, rfl, (NN _ hl).1, rfl, ⟨n, rfl⟩, Heap.lt_size (NN _ hl).1, FF, NN, ?_, .inr ?_, ?_, ?_⟩
  · exact ⟨⟨_, by with_unfolding_all rfl⟩, by with_unfolding_all rfl, rfl, fun j h => absurd h (Nat.not_lt_zero _)⟩
  · rintro i m nx ⟨_, _, rfl, _⟩
    exact hl
  · rintro i y m₁ nx h tk own hy ⟨⟨kk, hn⟩, hdf, rfl, hj⟩ hoff _ F₁ N₁
    obtain ⟨a, u, t1, t2, nn, rfl, hu, hmem, hu0, hu16⟩ := hr.get hy
    have F₂ := fr_st [(Str.ofString "name", _), (Str.ofString "default", _)] F₁ (by simp only [List.forall_mem_cons]; exact ⟨hn, hdf, fun _ h => nomatch h⟩)
    have hwu := word_len hu0 hu16
    clear F₁ FF NN
    k_steps
    · have e := low_inj hu0 hu16 h0 h16 (beq_iff_eq.mp (by assumption))
      subst e
      dsimp only [TurnPost, InvPostG]
      k_steps
      exact hret _ _ _ _ (by k_asm) (cb_drop (by assumption) (fun p hp => List.mem_append_left _ hp)) ⟨rfl, fun _ => ⟨_, rfl⟩, fun h => absurd (List.mem_of_getElem? hu) h⟩
    · have e : u ≠ v := fun e => by
        subst e
        have h9 : (Txt.lower (word u) == Txt.lower (word u)) = false := by assumption
        rw [beq_self_eq_true] at h9
        cases h9
      refine turn_next (by assumption) (by assumption) hoff ⟨⟨kk, by with_unfolding_all rfl⟩, by with_unfolding_all rfl, rfl, fun j hj' => ?_⟩
      by_cases hji : j = i
      · subst hji
        rw [hu]
        exact fun h => e (Option.some.inj h)
      · exact hj j (by omega)
  · rintro m₁ nx h tk ⟨⟨kk, hn⟩, hdf, rfl, hj⟩ F₁ N₁
    have F₂ := fr_st [(Str.ofString "name", _), (Str.ofString "default", _)] F₁ (by simp only [List.forall_mem_cons]; exact ⟨hn, hdf, fun _ h => nomatch h⟩)
    have hnot : v ∉ vs := fun hm => by
      obtain ⟨j, hj1, hj2⟩ := List.mem_iff_getElem.mp hm
      exact hj j (by rw [hr.length]; exact hj1) (by rw [List.getElem?_eq_getElem hj1, hj2])
    clear F₁ FF NN
    k_steps
    exact hret _ _ _ _ (by k_asm) (by k_asm) ⟨rfl, fun h => absurd h hnot, fun _ => rfl⟩
end
theorem Ctr.mono {w : World} {f : Addr} {vs : List Value} {kw : List (Str × Value)} {news : List (Addr × Obj)} {need : Nat} {P P' : Value → List (Addr × Obj) → Prop} (C : Ctr w f vs kw news need P) (h : ∀ r n, P r n → P' r n) : Ctr w f vs kw news need P' := by
  unfold Ctr at C ⊢
  intro mean mg mb dp un gd cn cs a ccd cl outer A₀ base h₀ L m s Q E B F X N T hk hd hu hret
  exact C _ _ _ _ _ _ _ _ _ _ _ _ _ _ _ _ _ _ _ _ B F X N T hk hd hu fun r n' h' tk' F' N' p => hret r n' h' tk' F' N' (h _ _ p)
theorem get_in (w : World) {x dx l : Addr} {its : List Value} {n : Nat} {vs : List Int} {v : Int} (h0 : 0 ≤ v) (h16 : v < 16) (t : Tok) {news : List (Addr × Obj)} (hT : Tab w news x dx l its n vs) (hv : v ∈ vs) :
    Ctr w 118 [.ref x, .str (word v) t] [] news 8 (fun r n => n = news ∧ ∃ k, r = .str (num v) k) := (get_ctr w x dx l its n vs v h0 h16 t news hT).mono fun _ _ p => ⟨p.1, p.2.1 hv⟩
theorem get_out (w : World) {x dx l : Addr} {its : List Value} {n : Nat} {vs : List Int} {v : Int} (h0 : 0 ≤ v) (h16 : v < 16) (t : Tok) {news : List (Addr × Obj)} (hT : Tab w news x dx l its n vs) (hv : v ∉ vs) :
    Ctr w 118 [.ref x, .str (word v) t] [] news 8 (fun r n => n = news ∧ r = .none) := (get_ctr w x dx l its n vs v h0 h16 t news hT).mono fun _ _ p => ⟨p.1, p.2.2 hv⟩
theorem append_led {M : World} {A : Around} {E : Value → Shared → Prop} {s : Shared} {h₀ : Heap} {L : Addr} {m : Str → Option Value} {l : Addr} {its : Array Value} {n : Nat} {y : Value} {news : List (Addr × Obj)} {Q : Value → Shared → Prop}
    (F : Fr h₀ L s.heap m) (N : News h₀ L s.heap news) (hl : (l, W.listOf its n) ∈ news) (hsz : its.size ≤ sizeLine)
    (h : ∀ h', Fr h₀ L h' m → News h₀ L h' ((l, W.listOf (its.push y) (n + 1)) :: news.filter (fun p => decide (p.1 ≠ l))) → Q .none { s with heap := h' }) : wpAny (model PP M) A (call (.builtin "list.append") [.ref l, y]) Q E s := by
  have z := N _ hl
  refine append_at (hsz := hsz) z.1 fun h' hs ho' => h h' (F.change hs z.2.1 z.2.2) fun p hp => ?_
  rcases List.mem_cons.mp hp with rfl | hp
  · exact ⟨ho', z.2⟩
  · obtain ⟨hp, hne⟩ := List.mem_filter.mp hp
    exact ⟨(hs.2 p.1 (of_decide_eq_true hne)).trans (N p hp).1, (N p hp).2⟩
end Mine
end
section
open PySem PySem.W PyProof.Rows
namespace Mine
local macro_rules | `(tactic| walk_at "flush") => `(tactic| skip)
theorem flushMSet {prog : Program} {w : World} {A : Around} {Q : Flow → Shared → Prop} {E : Value → Shared → Prop} {s : Shared} {env : Env} (h : wpAny (model prog w) A (execs [] env) Q E s) : wpAny (model prog w) A (execs [] env) Q E s := by
  w_top off
  first | (walk1; fail) | exact h
end Mine
end
section
open PySem PySem.W PyProof.Rows
namespace Mine
set_option maxRecDepth 100000
set_option maxHeartbeats 8000000
section
local macro_rules | `(tactic| cell_enter) => `(tactic| (refine' code_def ?k1 ?k2 ?k3 ?k4 ?k5 ?kA ?kF ?kK ?k6 ?k7 ?k8 ?k9 ?kB ?_ ?c2 ?c3 ?c4 ?c5; (case kA | kF => rfl); (case kK => assumption); (case k1 | k2 | k3 | k4 | k5 => k_asm); (case k6 | k7 => k_is); (case k8 => ktr_room); (case k9 => first | exact BindsTo.of_eq rfl | exact binds_K (by k_in) rfl (by k_is) rfl rfl rfl); (case kB => exact locs rfl); (case c2 | c3 | c4 => rfl); (case c5 => decide); k_whole; intro g1 L1 h1 FG1 F1 N1 B1 X1 T1; (try dsimp only); (try k_fold)))
local macro_rules | `(tactic| walk_at "call ref") => `(tactic| (k_here; (with_reducible show wpAny _ _ (call (Value.ref 70) _ _) _ _ _); k_dflt (refine' Ctr.use (conv_ctr _ _ _ _ false ?c _) ?k1 ?k2 ?k3 ?k4 ?k5 ?kK ?kd ?ku ?_; (case k1 => k_asm); (case k2 => k_asm); (case k3 => k_asm); (case k4 => k_asm); (case k5 => k_asm); (case kK => first | exact rfl | assumption); (case c => assumption); (case kd => ktr_room); (case ku => ktr_units)); intro r9 n9 h9 tk9 F9 N9 P9; obtain ⟨en9, k9, er9⟩ := P9; replace en9 := en9.symm; subst en9; subst er9; (try dsimp only); (try k_fold)))
local macro_rules | `(tactic| walk_at "call ref") => `(tactic| (k_here; (with_reducible show wpAny _ _ (call (Value.ref 70) _ _) _ _ _); k_dflt (refine' Ctr.use (conv_ctr _ _ _ _ true ?c _) ?k1 ?k2 ?k3 ?k4 ?k5 ?kK ?kd ?ku ?_; (case k1 => k_asm); (case k2 => k_asm); (case k3 => k_asm); (case k4 => k_asm); (case k5 => k_asm); (case kK => first | exact rfl | assumption); (case c => assumption); (case kd => ktr_room); (case ku => ktr_units)); intro r9 n9 h9 tk9 F9 N9 P9; obtain ⟨en9, k9, er9⟩ := P9; replace en9 := en9.symm; subst en9; subst er9; (try dsimp only); (try k_fold)))
local macro_rules | `(tactic| walk_at "call ref") => `(tactic| (k_here; (with_reducible show wpAny _ _ (call (Value.ref 118) _ _) _ _ _); k_dflt (refine' Ctr.use (by assumption) ?k1 ?k2 ?k3 ?k4 ?k5 ?kK ?kd ?ku ?_; (case k1 => k_asm); (case k2 => k_asm); (case k3 => k_asm); (case k4 => k_asm); (case k5 => k_asm); (case kK => first | exact rfl | assumption); (case kd => ktr_room); (case ku => ktr_units)); intro r9 n9 h9 tk9 F9 N9 P9; first | (obtain ⟨en9, k9, er9⟩ := P9; replace en9 := en9.symm; subst en9; subst er9; (try dsimp only); (try k_fold)) | (obtain ⟨en9, er9⟩ := P9; replace en9 := en9.symm; subst en9; subst er9; (try dsimp only); (try k_fold))))
theorem news_ne {g h : Heap} {L a b : Addr} {o o' : Obj} {news : List (Addr × Obj)} (N : News g L h news) (h1 : (a, o) ∈ news) (h2 : (b, o') ∈ news) (hne : o.cls ≠ o'.cls) : a ≠ b := by
  rintro rfl
  have e1 := (N _ h1).1
  have e2 := (N _ h2).1
  dsimp only at e1 e2
  rw [e1] at e2
  exact hne (congrArg Obj.cls (Option.some.inj e2))
theorem mem_off {l a : Addr} {o o' : Obj} {news : List (Addr × Obj)} (h : (a, o) ∈ news) (hne : a ≠ l) : (a, o) ∈ (l, o') :: news.filter (fun p => decide (p.1 ≠ l)) := .tail _ (List.mem_filter.mpr ⟨h, decide_eq_true hne⟩)
theorem tab_grow {w : World} {g h : Heap} {L x dx l D : Addr} {its : List Value} {n k : Nat} {vs : List Int} {v : Int} {t u : Tok} {news : List (Addr × Obj)} (h0 : 0 ≤ v) (h16 : v < 16) (N : News g L h ((D, rowObj v t u k) :: news)) (hT : Tab w news x dx l its n vs) (hv : v ∉ vs) :
    Tab w ((l, W.listOf (its.toArray.push (.ref D)) (n + 1)) :: ((D, rowObj v t u k) :: news).filter (fun p => decide (p.1 ≠ l))) x dx l (its ++ [.ref D]) (n + 1) (vs ++ [v]) ∧
      ∀ p ∈ news, p.1 ≠ l → p ∈ (l, W.listOf (its.toArray.push (.ref D)) (n + 1)) :: ((D, rowObj v t u k) :: news).filter (fun p => decide (p.1 ≠ l)) := by
  obtain ⟨hx, ⟨hsh, tok, hdx⟩, hl, hr, hn⟩ := hT
  have hl' := List.mem_cons_of_mem (D, rowObj v t u k) hl
  have keep : ∀ p ∈ news, p.1 ≠ l → p ∈ (l, W.listOf (its.toArray.push (.ref D)) (n + 1)) :: ((D, rowObj v t u k) :: news).filter (fun p => decide (p.1 ≠ l)) := fun p hp hne => mem_off (.tail _ hp) hne
  refine ⟨⟨keep _ hx ?_, ⟨hsh, tok, keep _ hdx ?_⟩, ?_, ?_, ?_⟩, keep⟩
  · exact news_ne N (.tail _ hx) hl' (by intro e; cases e)
  · exact news_ne N (.tail _ hdx) hl' (fun e => absurd (Value.type.inj e) (by decide))
  · rw [List.push_toArray]; exact .head _
  · refine RowsAre.snoc (mem_off (.head _) ?_) h0 h16 (hr.mono fun a v t u n hm => keep _ hm ?_)
    · exact news_ne N (.head _) hl' (fun e => absurd (Value.type.inj e) (by decide))
    · exact news_ne N (.tail _ hm) hl' (fun e => absurd (Value.type.inj e) (by decide))
  · rw [List.nodup_append]
    refine ⟨hn, by simp, ?_⟩
    intro a ha b hb e
    rw [List.mem_singleton.mp hb] at e
    exact hv (e ▸ ha)
theorem turn_tab {w : World} {g h : Heap} {L x dx l : Addr} {its : List Value} {n : Nat} {vs : List Int} {news nx n' own : List (Addr × Obj)} {c : String} (N : News g L h n') (hoff : OwnOff own (nx.map (·.1))) (ho : ∀ p ∈ own, p ∈ n') (hoc : ∀ p ∈ own, p.2.cls = .type c)
    (hc : c ≠ "list" ∧ c ≠ "dict" ∧ c ≠ "tuple") (hT : Tab w n' x dx l its n vs) (hsub : ∀ p ∈ news, p ∈ nx) (hsub' : ∀ p ∈ news, p ∈ n') :
    ∃ nx', (∀ p ∈ nx', p ∈ n') ∧ OwnOff own (nx'.map (·.1)) ∧ Tab w nx' x dx l its n vs ∧ ∀ p ∈ news, p ∈ nx' := by
  have keep : ∀ a o, (a, o) ∈ n' → (∀ p ∈ own, p.1 ≠ a) → (a, o) ∈ n'.filter (fun p => !(own.map (·.1)).contains p.1) := fun a o hm hne => List.mem_filter.mpr ⟨hm, by
    simp only [Bool.not_eq_true', List.contains_eq_mem, decide_eq_false_iff_not, List.mem_map, not_exists, not_and]
    exact fun p hp => hne p hp⟩
  have off : ∀ a o, (a, o) ∈ n' → (∀ p ∈ own, p.2.cls ≠ o.cls) → ∀ p ∈ own, p.1 ≠ a := fun a o hm hne p hp => news_ne N (ho p hp) hm (hne p hp)
  obtain ⟨hx, ⟨hsh, tok, hdx⟩, hl, hr, hn⟩ := hT
  refine ⟨n'.filter (fun p => !(own.map (·.1)).contains p.1), fun p hp => (List.mem_filter.mp hp).1, ?_, ⟨keep _ _ hx (off _ _ hx ?_), ⟨hsh, tok, keep _ _ hdx (off _ _ hdx ?_)⟩, keep _ _ hl (off _ _ hl ?_), hr.mono fun a v t u n hm => keep _ _ hm (off _ _ hm ?_), hn⟩, ?_⟩
  · intro p hp b hb e
    obtain ⟨q, hq, rfl⟩ := List.mem_map.mp hb
    have hq2 := (List.mem_filter.mp hq).2
    simp only [Bool.not_eq_true', List.contains_eq_mem, decide_eq_false_iff_not, List.mem_map, not_exists, not_and] at hq2
    exact hq2 p hp e
  · intro p hp e
    rw [hoc p hp] at e
    cases e
  · intro p hp e
    rw [hoc p hp] at e
    exact hc.2.1 (Value.type.inj e)
  · intro p hp e
    rw [hoc p hp] at e
    exact hc.1 (Value.type.inj e)
  · intro p hp e
    rw [hoc p hp] at e
    exact hc.2.2 (Value.type.inj e)
  · intro p hp
    exact keep _ _ (hsub' p hp) fun q hq => hoff q hq _ (List.mem_map.mpr ⟨p, hsub p hp, rfl⟩)
theorem set_in (w : World) (x dx l : Addr) (its : List Value) (n : Nat) (vs : List Int) (v : Int) (h0 : 0 ≤ v) (h16 : v < 16) (t u : Tok) (news : List (Addr × Obj)) (hT : Tab w news x dx l its n vs) (hv : v ∈ vs) :
    Ctr w 161 [.ref x, .str (word v) t, .str (num v) u] [] news 12 (fun _ n => n = news) := by
  unfold Ctr PP
  k_fill
  intro mean mg mb dp un gd cn cs a ccd cl outer A₀ base h₀ L m s Q E B F X N T hk hd hu hret
  have hG := get_in w h0 h16 t hT hv
  obtain ⟨hx, ⟨hsh, tok, hdx⟩, hl, hr, _⟩ := hT
  refine wpAny_call ?_
  k_dflt cell_enter
  k_steps
  exact hret _ _ _ _ (by k_asm) (by k_asm) rfl
theorem set_out (w : World) (x dx l : Addr) (its : List Value) (n : Nat) (vs : List Int) (v : Int) (h0 : 0 ≤ v) (h16 : v < 16) (t u : Tok) (news : List (Addr × Obj)) (hT : Tab w news x dx l its n vs) (hv : v ∉ vs) :
    Ctr w 161 [.ref x, .str (word v) t, .str (num v) u] [] news 12 (fun _ n => ∃ its' n', Tab w n x dx l its' n' (vs ++ [v]) ∧ ∀ p ∈ news, p.1 ≠ l → p ∈ n) := by
  unfold Ctr PP
  k_fill
  intro mean mg mb dp un gd cn cs a ccd cl outer A₀ base h₀ L m s Q E B F X N T hk hd hu hret
  have hG := get_out w h0 h16 t hT hv
  have hc1 := clean_word h0 h16
  have hc2 := clean_num h0 h16
  have hT' := hT
  obtain ⟨hx, ⟨hsh, tok, hdx⟩, hl, hr, _⟩ := hT
  refine wpAny_call ?_
  k_dflt cell_enter
  k_steps
  rename News _ _ _ (_ :: _) => N4
  refine append_led (by assumption) N4 (.tail _ hl) ?_ fun h5 F5 N5 => ?_
  · have h1 := hr.length
    have h2 := hT'.len
    rw [List.size_toArray, sizeLine_eq]
    omega
  k_steps
  obtain ⟨hT9, hk9⟩ := tab_grow h0 h16 N4 hT' hv
  exact hret _ _ _ _ (by k_asm) (by k_asm) ⟨_, _, hT9, hk9⟩
/-- setdefault of a number that is not there, or is -/
theorem set_ctr (w : World) (x dx l : Addr) (its : List Value) (n : Nat) (vs : List Int) (v : Int) (h0 : 0 ≤ v) (h16 : v < 16) (t u : Tok) (news : List (Addr × Obj)) (hT : Tab w news x dx l its n vs) :
    Ctr w 161 [.ref x, .str (word v) t, .str (num v) u] [] news 12 (fun _ n => ∃ its' n', Tab w n x dx l its' n' (ins vs v) ∧ ∀ p ∈ news, p.1 ≠ l → p ∈ n) := by
  by_cases hv : v ∈ vs
  · refine (set_in w x dx l its n vs v h0 h16 t u news hT hv).mono fun _ n' e => ?_
    subst e
    exact ⟨its, n, by rw [ins, if_pos hv]; exact hT, fun p hp _ => hp⟩
  · refine (set_out w x dx l its n vs v h0 h16 t u news hT hv).mono fun _ n' e => ?_
    rw [ins, if_neg hv]
    exact e
end
end Mine
end
section
open PySem PySem.W PyProof.Rows
namespace Mine
local macro_rules | `(tactic| walk_at "flush") => `(tactic| skip)
theorem flushMComp {prog : Program} {w : World} {A : Around} {Q : Flow → Shared → Prop} {E : Value → Shared → Prop} {s : Shared} {env : Env} (h : wpAny (model prog w) A (execs [] env) Q E s) : wpAny (model prog w) A (execs [] env) Q E s := by
  w_top off
  first | (walk1; fail) | exact h
end Mine
end
section
open PySem PySem.W PyProof.Rows PySem.Spec PySem.Calls PyProof.Rows.LCg PyProof.Rows.LCp
namespace Mine
set_option maxRecDepth 100000
set_option maxHeartbeats 4000000
section
variable {prog : Program} {w : World} {A : Around} {h₀ : Heap} {L : Addr} {m : Str → Option Value} {env : Env} {elt : Expr} {x x₂ : Str} {scope : Scope} {cl : List (Str × Addr)} {s : Shared} {S : List (Addr × Obj) → Prop} {P : Nat → Value → Prop} {Fin : List Value → List (Addr × Obj) → Prop}
theorem compEnd_mono {I C D : Addr} {oI oC oD : Obj} {s₁ s₂ : Shared} {R R' : Value → List (Addr × Obj) → Prop} {y : Value} (h : CompEnd h₀ L m s₁ I oI C oC D oD S R y s₂) (hR : ∀ nw, R y nw → R' y nw) : CompEnd h₀ L m s₁ I oI C oC D oD S R' y s₂ := by
  obtain ⟨h', tk, news', e, F, N, off, hS, r⟩ := h
  exact ⟨h', tk, news', e, F, N, off, hS, hR _ r⟩
theorem restP_ind {n : Nat} (Inv : Nat → List Value → List (Addr × Obj) → Prop)
    (step : ∀ i ys news, i < n → Inv i ys news → ∀ v, P i v → ∃ (t : Addr) (ot : Obj) (v₁ v₂ : Value) (nt : Nat), v = .ref t ∧ (t, ot) ∈ news ∧ ot.cls = .type "tuple" ∧ ot.data = .seq #[v₁, v₂] nt ∧
      ∀ I oI C oC D m₂ h tk (E' : Value → Shared → Prop), NsObj oC m₂ → m₂ x = some v₁ → m₂ x₂ = some v₂ → Fr h₀ L h m → News h₀ L h ((I, oI) :: (C, oC) :: (D, lst ys) :: news) → Off3 I C D news → ((@Ne Nat I C) ∧ (@Ne Nat I D) ∧ (@Ne Nat C D)) →
      wpAny (model prog w) A (eval elt (compEnvC scope cl C env)) (CompEnd h₀ L m { s with heap := h, toks := tk } I oI C oC D (lst ys) S (fun y news' => Inv (i + 1) (ys ++ [y]) news')) E' { s with heap := h, toks := tk })
    (fin : ∀ ys news, Inv n ys news → Fin ys news) : ∀ k i ys news, k + i = n → Inv i ys news → CompRestP prog w A h₀ L m env elt x x₂ scope cl s S P Fin k i ys news
  | 0, i, ys, news, e, hI => by
    have : i = n := by omega
    subst this
    exact CompRestP.zero (fin _ _ hI)
  | k + 1, i, ys, news, e, hI => by
    refine CompRestP.succ fun v hv => ?_
    obtain ⟨t, ot, v₁, v₂, nt, h1, h2, h3, h4, h5⟩ := step i ys news (by omega) hI v hv
    refine ⟨t, ot, v₁, v₂, nt, h1, h2, h3, h4, fun I oI C oC D m₂ h tk E' a b c F N off ne => ?_⟩
    exact wpAny_mono (h5 I oI C oC D m₂ h tk E' a b c F N off ne) (fun y s₂ q => compEnd_mono q fun nw hi => restP_ind Inv step fin k (i + 1) _ nw (by omega) hi) fun _ _ x => x
theorem rest_ind {n : Nat} (Inv : Nat → List Value → List (Addr × Obj) → Prop)
    (step : ∀ i ys news, i < n → Inv i ys news → ∀ v I oI C oC D m₂ h tk (E' : Value → Shared → Prop), P i v → NsObj oC m₂ → m₂ x = some v → Fr h₀ L h m → News h₀ L h ((I, oI) :: (C, oC) :: (D, lst ys) :: news) → Off3 I C D news → ((@Ne Nat I C) ∧ (@Ne Nat I D) ∧ (@Ne Nat C D)) →
      wpAny (model prog w) A (eval elt (compEnvC scope cl C env)) (CompEnd h₀ L m { s with heap := h, toks := tk } I oI C oC D (lst ys) S (fun y news' => Inv (i + 1) (ys ++ [y]) news')) E' { s with heap := h, toks := tk })
    (fin : ∀ ys news, Inv n ys news → Fin ys news) : ∀ k i ys news, k + i = n → Inv i ys news → CompRest prog w A h₀ L m env elt x scope cl s S P Fin k i ys news
  | 0, i, ys, news, e, hI => by
    have : i = n := by omega
    subst this
    exact CompRest.zero (fin _ _ hI)
  | k + 1, i, ys, news, e, hI => by
    refine CompRest.succ fun v I oI C oC D m₂ h tk E' p a b F N off ne => ?_
    exact wpAny_mono (step i ys news (by omega) hI v I oI C oC D m₂ h tk E' p a b F N off ne) (fun y s₂ q => compEnd_mono q fun nw hi => rest_ind Inv step fin k (i + 1) _ nw (by omega) hi) fun _ _ x => x
end
/-- the same sources under names that the walk does not open by itself; `as_M`, `as_U` hand them to the library's rules -/
def SrcM := @LCp.SrcLP
def SrcU := @LCg.CompSrc
section
variable {prog : Program} {w : World} {A : Around} {E : Value → Shared → Prop} {s : Shared} {h₀ : Heap} {L : Addr} {m : Str → Option Value} {env : Env} {elt : Expr} {x y : Str} {scope : Scope} {cl : List (Str × Addr)} {Fin : Shared → List Value → List (Addr × Obj) → Prop} {c : Sem Value}
theorem as_M (h : wpAny (model prog w) A c (SrcM prog w A h₀ L m env elt x y scope cl Fin) E s) : wpAny (model prog w) A c (LCp.SrcLP prog w A h₀ L m env elt x y scope cl Fin) E s := h
theorem as_U (h : wpAny (model prog w) A c (SrcU prog w A h₀ L m env elt x scope cl Fin) E s) : wpAny (model prog w) A c (LCg.CompSrc prog w A h₀ L m env elt x scope cl Fin) E s := h
end
end Mine
end
section
open PySem PySem.W PyProof.Rows
namespace Mine
local macro_rules | `(tactic| walk_at "flush") => `(tactic| skip)
theorem flushMVal {prog : Program} {w : World} {A : Around} {Q : Flow → Shared → Prop} {E : Value → Shared → Prop} {s : Shared} {env : Env} (h : wpAny (model prog w) A (execs [] env) Q E s) : wpAny (model prog w) A (execs [] env) Q E s := by
  w_top off
  first | (walk1; fail) | exact h
end Mine
end
section
open PySem PySem.W PyProof.Rows
namespace Mine
set_option maxRecDepth 100000
set_option maxHeartbeats 8000000
section
local macro_rules | `(tactic| walk_at "eval ListComp") => `(tactic| (k_here; k_dflt (refine LCp.ListComp_P (F₀ := by k_asm) (by with_unfolding_all rfl) (by decide) (by rfl) (by decide) (by rfl) (by rfl) (by decide) (as_M ?_))))
theorem values_ctr (w : World) (x dx l : Addr) (its : List Value) (n : Nat) (vs : List Int) (news : List (Addr × Obj)) (hT : Tab w news x dx l its n vs) :
    Ctr w 128 [.ref x] [] news 4 (fun r n => ∃ b ys, r = .ref b ∧ (b, LCg.lst ys) ∈ n ∧ StrsAre ys (vs.map num) ∧ ∀ p ∈ news, p ∈ n) := by
  unfold Ctr PP
  k_fill
  intro mean mg mb dp un gd cn cs a ccd cl outer A₀ base h₀ L m s Q E B F X N T hk hd hu hret
  have hT' := hT
  obtain ⟨hx, ⟨hsh, tok, hdx⟩, hl, hr, _⟩ := hT
  refine wpAny_call ?_
  k_dflt cell_enter
  k_steps
  rename Fr _ _ _ _ => FF
  rename News _ _ _ _ => NN
  have hlen := hr.length
  have hz16 := hT'.len
  refine LCp.SrcLP.ledger rfl FF NN hl (by rw [List.size_toArray, sizeLine_eq]; omega) fun gg => ?_
  refine restP_ind (n := its.toArray.size) (fun i ys nw => (∀ p ∈ news, p ∈ nw) ∧ StrsAre ys ((vs.take i).map num)) ?_ ?_ _ 0 [] news rfl ⟨fun _ h => h, .nil⟩
  · rintro i ys nw hi ⟨hsub, hys⟩ v hv
    obtain ⟨a, u, t1, t2, nn, rfl, hu, hmem, hu0, hu16⟩ := hr.get (by simpa using hv)
    refine ⟨a, _, .str (word u) t1, .str (num u) t2, nn, rfl, hsub _ hmem, rfl, rfl, ?_⟩
    intro I oI C oC D m₂ h5 tk5 E' hC hx1 hx2 F5 N5 off ne
    k_steps
    refine LCg.CompEnd.intro (by assumption) (by assumption) nw (fun _ h => h) off (.inr ⟨_, hsub _ hl, rfl, n, rfl⟩) ⟨hsub, ?_⟩
    rw [List.take_add_one, hu, Option.toList_some, List.map_append]
    exact kct_snoc hys
  · rintro ys nw ⟨hsub, hys⟩ D h5 tk5 F5 N5 off
    have hys' : StrsAre ys (vs.map num) := by
      rw [List.size_toArray, hlen, List.take_length] at hys
      exact hys
    clear FF NN
    k_steps
    exact hret _ _ _ _ (by k_asm) (by k_asm) ⟨D, ys, rfl, .head _, hys', fun p hp => .tail _ (hsub p hp)⟩
end
end Mine
end
section
open PySem PySem.W PyProof.Rows
namespace Mine
local macro_rules | `(tactic| walk_at "flush") => `(tactic| skip)
theorem flushMHint {prog : Program} {w : World} {A : Around} {Q : Flow → Shared → Prop} {E : Value → Shared → Prop} {s : Shared} {env : Env} (h : wpAny (model prog w) A (execs [] env) Q E s) : wpAny (model prog w) A (execs [] env) Q E s := by
  w_top off
  first | (walk1; fail) | exact h
end Mine
end
section
open PySem PySem.W PyProof.Rows
namespace Mine
set_option maxRecDepth 100000
set_option maxHeartbeats 8000000
section
local macro_rules | `(tactic| cell_enter) => `(tactic| (refine' code_def ?k1 ?k2 ?k3 ?k4 ?k5 ?kA ?kF ?kK ?k6 ?k7 ?k8 ?k9 ?kB ?_ ?c2 ?c3 ?c4 ?c5; (case kA | kF => rfl); (case kK => assumption); (case k1 | k2 | k3 | k4 | k5 => k_asm); (case k6 | k7 => k_is); (case k8 => ktr_room); (case k9 => first | exact BindsTo.of_eq rfl | exact binds_K (by k_in) rfl (by k_is) rfl rfl rfl); (case kB => exact locs rfl); (case c2 | c3 | c4 => rfl); (case c5 => decide); k_whole; intro g1 L1 h1 FG1 F1 N1 B1 X1 T1; (try dsimp only); (try k_fold)))
theorem len_ctr (w : World) (x dx l : Addr) (its : List Value) (n : Nat) (vs : List Int) (news : List (Addr × Obj)) (hT : Tab w news x dx l its n vs) :
    Ctr w 77 [.ref x] [] news 4 (fun r n => n = news ∧ ∃ k, r = .int (vs.length : Int) k) := by
  unfold Ctr PP
  k_fill
  intro mean mg mb dp un gd cn cs a ccd cl outer A₀ base h₀ L m s Q E B F X N T hk hd hu hret
  have hT' := hT
  obtain ⟨hx, ⟨hsh, tok, hdx⟩, hl, hr, _⟩ := hT
  have hlen := hr.length
  have hz16 := hT'.len
  have hz : its.toArray.size ≤ 16 := by rw [List.size_toArray]; omega
  refine wpAny_call ?_
  k_dflt cell_enter
  k_steps
  refine PyProof.Rows.len_list (News.isList (by assumption) hl) (by omega) ?_
  k_steps
  exact hret _ _ _ _ (by k_asm) (by k_asm) ⟨rfl, _, by rw [List.size_toArray, hlen]⟩
local macro_rules | `(tactic| walk_at "call ref") => `(tactic| (k_here; (with_reducible show wpAny _ _ (call (Value.ref 77) _ _) _ _ _); k_dflt (refine' Ctr.use (by assumption) ?k1 ?k2 ?k3 ?k4 ?k5 ?kK ?kd ?ku ?_; (case k1 => k_asm); (case k2 => k_asm); (case k3 => k_asm); (case k4 => k_asm); (case k5 => k_asm); (case kK => first | exact rfl | assumption); (case kd => ktr_room); (case ku => ktr_units)); intro r9 n9 h9 tk9 F9 N9 P9; (obtain ⟨en9, k9, er9⟩ := P9; replace en9 := en9.symm; subst en9; subst er9; (try dsimp only); (try k_fold))))
theorem hint_ctr (w : World) (x dx l : Addr) (its : List Value) (n : Nat) (vs : List Int) (news : List (Addr × Obj)) (hT : Tab w news x dx l its n vs) :
    Ctr w 212 [.ref x] [] news 8 (fun r n => n = news ∧ ∃ k, r = .int (vs.length : Int) k) := by
  unfold Ctr PP
  k_fill
  intro mean mg mb dp un gd cn cs a ccd cl outer A₀ base h₀ L m s Q E B F X N T hk hd hu hret
  have hT' := hT
  have hG := len_ctr w x dx l its n vs news hT
  obtain ⟨hx, ⟨hsh, tok, hdx⟩, hl, hr, _⟩ := hT
  have hz16 := hT'.len
  refine wpAny_call ?_
  k_dflt cell_enter
  k_steps
  refine ⟨⟨by omega, by omega⟩, ?_⟩
  k_steps
  exact hret _ _ _ _ (by k_asm) (by k_asm) ⟨rfl, _, rfl⟩
end
end Mine
end
section
open PySem PySem.W PyProof.Rows
namespace Mine
local macro_rules | `(tactic| walk_at "flush") => `(tactic| skip)
theorem flushMInit {prog : Program} {w : World} {A : Around} {Q : Flow → Shared → Prop} {E : Value → Shared → Prop} {s : Shared} {env : Env} (h : wpAny (model prog w) A (execs [] env) Q E s) : wpAny (model prog w) A (execs [] env) Q E s := by
  w_top off
  first | (walk1; fail) | exact h
end Mine
end
section
open PySem PySem.W PyProof.Rows
namespace Mine
set_option maxRecDepth 100000
set_option maxHeartbeats 8000000
section
variable {prog : Program} {w : World} {A : Around} {s : Shared} {env : Env} {h₀ : Heap} {Q : Flow → Shared → Prop}
theorem allLt_mem {d : Addr} (l : List (Addr × Obj)) (h : AllLt d l) : ∀ p ∈ l, p.1 ≠ d := by
  induction l with
  | nil => intro p hp; exact absurd hp List.not_mem_nil
  | cons q r ih =>
    intro p hp
    rcases List.mem_cons.mp hp with rfl | hp
    · exact Nat.ne_of_lt h.1
    · exact ih h.2 p hp
theorem forLed_nil {elts : List PySem.Expr} {kk : Nat} {tp : Pos} {body orelse : List Stmt} {l : Addr} {n : Nat} {m : Str → Option Value} {news : List (Addr × Obj)} (hh : A.handled = none) (F : Fr h₀ env.locals s.heap m) (N : News h₀ env.locals s.heap news) (hl : (l, W.listOf #[] n) ∈ news)
    (done : ∀ h tk, Fr h₀ env.locals h m → News h₀ env.locals h news → wpAny (model prog w) A (execs orelse env) Q (fun _ _ => False) { s with heap := h, toks := tk }) :
    ForLed prog w A h₀ env (.Tuple elts kk tp) body orelse Q (.ref l) s := by
  refine ⟨l, [], W.listOf #[] n, m, news, fun _ m' nx => m' = m ∧ nx = news, rfl, (by intro v h; exact absurd h List.not_mem_nil), hh, (N _ hl).1, rfl, ⟨n, rfl⟩, Heap.lt_size (N _ hl).1, F, N, ⟨rfl, rfl⟩, .inr ?_, ?_, ?_⟩
  · rintro i m' nx ⟨_, rfl⟩
    exact hl
  · intro i v m₁ nx h tk own hv
    simp at hv
  · rintro m₁ nx h tk ⟨rfl, rfl⟩ F₁ N₁
    exact done h tk F₁ N₁
end
section
local macro_rules | `(tactic| cell_enter) => `(tactic| (refine' code_def ?k1 ?k2 ?k3 ?k4 ?k5 ?kA ?kF ?kK ?k6 ?k7 ?k8 ?k9 ?kB ?_ ?c2 ?c3 ?c4 ?c5; (case kA | kF => rfl); (case kK => assumption); (case k1 | k2 | k3 | k4 | k5 => k_asm); (case k6 | k7 => k_is); (case k8 => ktr_room); (case k9 => first | exact BindsTo.of_eq rfl | exact binds_K (by k_in) rfl (by k_is) rfl rfl rfl); (case kB => exact locs rfl); (case c2 | c3 | c4 => rfl); (case c5 => decide); k_whole; intro g1 L1 h1 FG1 F1 N1 B1 X1 T1; (try dsimp only); (try k_fold)))
local macro_rules | `(tactic| k_all) => `(tactic| assumption)
theorem init_ctr (w : World) (news : List (Addr × Obj)) :
    Ctr w 171 [] [] news 30 (fun r n => ∃ x dx l, r = .ref x ∧ Tab w n x dx l [] 0 [] ∧ ∀ p ∈ news, p ∈ n ∧ p.1 ≠ l) := by
  unfold Ctr PP
  k_fill
  intro mean mg mb dp un gd cn cs a ccd cl outer A₀ base h₀ L m s Q E B F X N T hk hdp hu hret
  k_dflt (refine' call_cls (K := hd.heap_39 w.params) (C := 171) (pos := []) (kw := []) (fI := 63) F X N ?k1 ?k2 ?k3 ?_; (case k1 => k_is); (case k2 => k_is); (case k3 => k_is))
  intro x dx h5 F5 N5 l1 l2
  have hAll : ∀ p ∈ news, p.1 ≠ dx := fun p hp => Nat.ne_of_lt (l1 p hp)
  replace l2 := ltN l2
  k_dflt cell_enter
  k_steps
  rename Fr _ _ _ _ => FF
  rename News _ _ _ _ => NN
  refine for_led FF ?_
  refine ld FF (by with_unfolding_all rfl) ?_
  refine forLed_nil rfl FF NN (.head _) fun h8 tk8 F8 N8 => ?_
  clear FF NN
  k_steps
  rename _ ∧ _ ∧ AllLt _ _ => hlt
  exact hret _ _ _ _ (by k_asm) (by k_asm) ⟨x, dx, _, rfl, ⟨.tail _ (.head _), ⟨_, _, .tail _ (.tail _ (.head _))⟩, .head _, .nil, .nil⟩, fun p hp => ⟨.tail _ (.tail _ (.tail _ hp)), allLt_mem _ hlt.2.2 p hp⟩⟩
end
end Mine
end
section
open PySem PySem.W PyProof.Rows
namespace Mine
local macro_rules | `(tactic| walk_at "flush") => `(tactic| skip)
theorem flushMItems {prog : Program} {w : World} {A : Around} {Q : Flow → Shared → Prop} {E : Value → Shared → Prop} {s : Shared} {env : Env} (h : wpAny (model prog w) A (execs [] env) Q E s) : wpAny (model prog w) A (execs [] env) Q E s := by
  w_top off
  first | (walk1; fail) | exact h
end Mine
end
section
open PySem PySem.W PyProof.Rows
namespace Mine
set_option maxRecDepth 100000
set_option maxHeartbeats 8000000
section
theorem pick_all (vs : List Value) : (slicePick vs.toArray none none none).toList = vs := by
  have e : sliceBounds none none none vs.toArray.size = (((0 : Nat) : Int), ((vs.toArray.size : Nat) : Int), 1) := by
    simp only [sliceBounds, Option.getD_none, show (1 : Int) > 0 by decide, if_true]
    rfl
  rw [kmk_pick_nat _ e]
  simp
theorem items_ctr (w : World) (x dx l : Addr) (its : List Value) (n : Nat) (vs : List Int) (news : List (Addr × Obj)) (hT : Tab w news x dx l its n vs) :
    Ctr w 135 [.ref x] [] news 4 (fun r n => ∃ b nb, r = .ref b ∧ (b, W.listOf its.toArray nb) ∈ n ∧ ∀ p ∈ news, p ∈ n) := by
  unfold Ctr PP
  k_fill
  intro mean mg mb dp un gd cn cs a ccd cl outer A₀ base h₀ L m s Q E B F X N T hk hdp hu hret
  have hT' := hT
  obtain ⟨hx, ⟨hsh, tok, hdx⟩, hl, hr, _⟩ := hT
  have hlen := hr.length
  have hz16 := hT'.len
  have hz : its.toArray.size ≤ 16 := by rw [List.size_toArray]; omega
  refine wpAny_call ?_
  k_dflt cell_enter
  k_steps
  k_dflt (refine' kmk_slice_lit (by k_asm) (by k_asm) (News.isList (by k_asm) hl) IsPart.none IsPart.none (pick_all its) ?_ (by with_unfolding_all rfl) (by kmk_pure) (by rw [sizeLine_eq]; omega))
  intro D h7 F7 N7 l7
  k_steps
  exact hret _ _ _ _ (by k_asm) (by k_asm) ⟨D, _, rfl, .head _, fun p hp => .tail _ hp⟩
end
end Mine
end
section
open PySem PySem.W PyProof.Rows
namespace Mine
local macro_rules | `(tactic| walk_at "flush") => `(tactic| skip)
theorem flushMFun {prog : Program} {w : World} {A : Around} {Q : Flow → Shared → Prop} {E : Value → Shared → Prop} {s : Shared} {env : Env} (h : wpAny (model prog w) A (execs [] env) Q E s) : wpAny (model prog w) A (execs [] env) Q E s := by
  w_top off
  first | (walk1; fail) | exact h
end Mine
end
section
open PySem PySem.W PyProof.Rows
namespace Mine
/-- the deed -/
def op (s0 kind taken one : Int) : Int := if kind = 0 then Builtin.bitAnd taken one else if kind = 1 then Builtin.bitOr taken one else Builtin.bitXor (Builtin.bitXor taken s0) one
def inner (ss : List Int) (s0 kind taken : Int) (vs : List Int) : List Int := ss.foldl (fun vs one => ins vs (op s0 kind taken one)) vs
def runC (ss : List Int) (s0 kind : Int) : Nat → Nat → List Int → List Int
  | 0, _, vs => vs
  | f + 1, p, vs => if p < vs.length ∧ p < 16 then runC ss s0 kind f (p + 1) (inner ss s0 kind (vs.getD p 0) vs) else vs
/-- what _law_closed lays into the table -/
def closedF (ss : List Int) (s0 kind : Int) : List Int := runC ss s0 kind 16 0 (ss.foldl ins [])
theorem bits_lt0 : ∀ j k : _root_.Fin 16, (0 ≤ Builtin.bitAnd (j.val : Int) (k.val : Int) ∧ Builtin.bitAnd (j.val : Int) (k.val : Int) < 16) ∧ (0 ≤ Builtin.bitOr (j.val : Int) (k.val : Int) ∧ Builtin.bitOr (j.val : Int) (k.val : Int) < 16) ∧ (0 ≤ Builtin.bitXor (j.val : Int) (k.val : Int) ∧ Builtin.bitXor (j.val : Int) (k.val : Int) < 16) := by decide +kernel
theorem bits_lt {u v : Int} (hu : 0 ≤ u) (hu' : u < 16) (hv : 0 ≤ v) (hv' : v < 16) : (0 ≤ Builtin.bitAnd u v ∧ Builtin.bitAnd u v < 16) ∧ (0 ≤ Builtin.bitOr u v ∧ Builtin.bitOr u v < 16) ∧ (0 ≤ Builtin.bitXor u v ∧ Builtin.bitXor u v < 16) := by
  have := bits_lt0 ⟨u.toNat, by omega⟩ ⟨v.toNat, by omega⟩
  simpa only [Int.toNat_of_nonneg hu, Int.toNat_of_nonneg hv] using this
theorem op_lt {s0 kind u v : Int} (h0 : 0 ≤ s0) (h0' : s0 < 16) (hu : 0 ≤ u) (hu' : u < 16) (hv : 0 ≤ v) (hv' : v < 16) : 0 ≤ op s0 kind u v ∧ op s0 kind u v < 16 := by
  unfold op
  have h1 := bits_lt hu hu' hv hv'
  have h2 := (bits_lt hu hu' h0 h0').2.2
  have h3 := (bits_lt h2.1 h2.2 hv hv').2.2
  split
  · exact h1.1
  · split
    · exact h1.2.1
    · exact h3
theorem ins_range {vs : List Int} {v : Int} (h : ∀ u ∈ vs, 0 ≤ u ∧ u < 16) (hv : 0 ≤ v ∧ v < 16) : ∀ u ∈ ins vs v, 0 ≤ u ∧ u < 16 := by
  unfold ins
  split
  · exact h
  · intro u hu
    rcases List.mem_append.mp hu with hu | hu
    · exact h u hu
    · rw [List.mem_singleton.mp hu]; exact hv
end Mine
end
section
open PySem PySem.W PyProof.Rows
namespace Mine
local macro_rules | `(tactic| walk_at "flush") => `(tactic| skip)
theorem flushMClosed {prog : Program} {w : World} {A : Around} {Q : Flow → Shared → Prop} {E : Value → Shared → Prop} {s : Shared} {env : Env} (h : wpAny (model prog w) A (execs [] env) Q E s) : wpAny (model prog w) A (execs [] env) Q E s := by
  w_top off
  first | (walk1; fail) | exact h
end Mine
end
section
open PySem PySem.W PyProof.Rows
namespace Mine
set_option maxRecDepth 100000
set_option maxHeartbeats 8000000
section
theorem Tab.mono {w : World} {news news' : List (Addr × Obj)} {x dx l : Addr} {its : List Value} {n : Nat} {vs : List Int} (T : Tab w news x dx l its n vs) (hs : ∀ p ∈ news, p ∈ news') : Tab w news' x dx l its n vs :=
  ⟨hs _ T.hx, let ⟨a, b, c⟩ := T.hd; ⟨a, b, hs _ c⟩, hs _ T.hl, T.hr.mono fun _ _ _ _ _ h => hs _ h, T.hn⟩
theorem tab_up {w : World} {news news' : List (Addr × Obj)} {x dx l : Addr} {its : List Value} {n : Nat} {vs : List Int} (hs : ∀ p ∈ news, p ∈ news') (T : Tab w news x dx l its n vs) : Tab w news' x dx l its n vs := T.mono hs
theorem ints_at : ∀ {vs : List Value} {ns : List Int} {i : Nat} {y : Value}, IntsAre vs ns → vs[i]? = some y → ∃ v t, y = .int v t ∧ ns[i]? = some v
  | _, _, 0, _, .cons v t _, e => by simp at e; exact ⟨v, t, e.symm, rfl⟩
  | _, _, i + 1, _, .cons _ _ h, e => by
    obtain ⟨v, t, h1, h2⟩ := ints_at (i := i) h (by simpa using e)
    exact ⟨v, t, h1, by simpa using h2⟩
theorem strs_at : ∀ {vs : List Value} {ns : List Str} {i : Nat} {y : Str}, StrsAre vs ns → ns[i]? = some y → ∃ t, vs[i]? = some (.str y t)
  | _, _, 0, _, .cons v t _, e => by simp at e; subst e; exact ⟨t, rfl⟩
  | _, _, i + 1, _, .cons _ _ h, e => by
    obtain ⟨t, h1⟩ := strs_at (i := i) h (by simpa using e)
    exact ⟨t, by simpa using h1⟩
theorem run_out {ss : List Int} {s0 kind : Int} {p : Nat} {vs : List Int} (h : ¬ (p < vs.length ∧ p < 16)) : ∀ {μ : Nat}, runC ss s0 kind μ p vs = vs
  | 0 => rfl
  | _ + 1 => by rw [runC, if_neg h]
/-- the loops' word: the table holds f i, the ledger keeps what the caller had, the frame's names -/
def ClJ (w : World) (x dx l : Addr) (news : List (Addr × Obj)) (ps : List (Str × Value)) (f : Nat → List Int) (i : Nat) (m : Str → Option Value) (nx : List (Addr × Obj)) : Prop :=
  (∃ its n, Tab w nx x dx l its n (f i)) ∧ (∀ p ∈ news, p ∈ nx) ∧ ∀ p ∈ ps, m p.1 = some p.2
def ClW (w : World) (x dx l : Addr) (news : List (Addr × Obj)) (s0 s1 s2 s3 kind : Int) (ps : List (Str × Value)) (μ : Nat) (m : Str → Option Value) (nx : List (Addr × Obj)) : Prop :=
  ∃ (p : Nat) (vs : List Int) (tp : Tok), runC [s0, s1, s2, s3] s0 kind μ p vs = closedF [s0, s1, s2, s3] s0 kind ∧ 16 ≤ p + μ ∧ (∃ its n, Tab w nx x dx l its n vs) ∧ (∀ q ∈ news, q ∈ nx) ∧ m (Str.ofString "place") = some (.int (p : Int) tp) ∧ ∀ q ∈ ps, m q.1 = some q.2
theorem cl_turn {w : World} {g h' : Heap} {L x dx l : Addr} {its its9 : List Value} {n nn9 : Nat} {vs vs9 : List Int} {news nx n9 own : List (Addr × Obj)} {J : (Str → Option Value) → List (Addr × Obj) → Prop} {m' : Str → Option Value} {s₁ : Shared} {tk : Nat} {Q : Flow → Shared → Prop}
    (F : Fr g L h' m') (N : News g L h' n9) (hoff : OwnOff own (nx.map (·.1))) (hoc : ∀ p ∈ own, p.2.cls = .type "list_iterator") (hTi : Tab w nx x dx l its n vs) (hT9 : Tab w n9 x dx l its9 nn9 vs9) (hk9 : ∀ p ∈ nx ++ own, p.1 ≠ l → p ∈ n9)
    (hs : ∀ p ∈ news, p ∈ nx) (hne : ∀ p ∈ news, p.1 ≠ l) (hJ : ∀ nx', (∃ its n, Tab w nx' x dx l its n vs9) → (∀ p ∈ news, p ∈ nx') → J m' nx') : TurnPost g L J own s₁ Q .next { s₁ with heap := h', toks := tk } := by
  have hol : ∀ p ∈ own, p.1 ≠ l := fun p hp => hoff p hp _ (List.mem_map.mpr ⟨_, hTi.hl, rfl⟩)
  have ho : ∀ p ∈ own, p ∈ n9 := fun p hp => hk9 p (List.mem_append_right _ hp) (hol p hp)
  obtain ⟨nx', h1, h2, h3, h4⟩ := turn_tab N hoff ho hoc (by decide) hT9 hs fun p hp => hk9 p (List.mem_append_left _ (hs p hp)) (hne p hp)
  exact TurnEnd.intro nx' F N h1 ho h2 (hJ nx' ⟨_, _, h3⟩ h4)
local macro_rules | `(tactic| walk_at "exec For Name Name cons nil") => `(tactic| (k_here; k_dflt (refine for_led (by k_asm) ?_)))
local macro_rules | `(tactic| walk_at "call ref") => `(tactic| (k_here; (with_reducible show wpAny _ _ (call (Value.ref 183) _ _) _ _ _); k_dflt (refine' Ctr.use (pretty_ctr _ _ _ ?a ?b _) ?k1 ?k2 ?k3 ?k4 ?k5 ?kK ?kd ?ku ?_; (case a => assumption); (case b => assumption); (case k1 => k_asm); (case k2 => k_asm); (case k3 => k_asm); (case k4 => k_asm); (case k5 => k_asm); (case kK => first | exact rfl | assumption); (case kd => ktr_room); (case ku => ktr_units)); intro r9 n9 h9 tk9 F9 N9 P9; (obtain ⟨en9, k9, er9⟩ := P9; replace en9 := en9.symm; subst en9; subst er9; (try dsimp only); (try k_fold))))
local macro_rules | `(tactic| walk_at "call ref") => `(tactic| (k_here; (with_reducible show wpAny _ _ (call (Value.ref 161) _ _) _ _ _); k_dflt (refine' Ctr.use (set_ctr _ _ _ _ _ _ _ _ ?a ?b _ _ _ ?T) ?k1 ?k2 ?k3 ?k4 ?k5 ?kK ?kd ?ku ?_; (case k1 => k_asm); (case k2 => k_asm); (case k3 => k_asm); (case k4 => k_asm); (case T => assumption); (case a => assumption); (case b => assumption); (case k5 => k_asm); (case kK => first | exact rfl | assumption); (case kd => ktr_room); (case ku => ktr_units)); intro r9 n9 h9 tk9 F9 N9 P9; (obtain ⟨its9, nn9, hT9, hk9⟩ := P9; (try dsimp only); (try k_fold))))
theorem and_ctr (w : World) (x y : Int) (t u : Tok) (news : List (Addr × Obj)) : Ctr w 190 [.int x t, .int y u] [] news 2 (fun r n => n = news ∧ ∃ k, r = .int (Builtin.bitAnd x y) k) := by
  unfold Ctr PP
  k_fill
  intro mean mg mb dp un gd cn cs a ccd cl outer A₀ base h₀ L m s Q E B F X N T hk hd hu hret
  refine wpAny_call ?_
  k_dflt cell_enter
  k_steps
  exact hret _ _ _ _ (by k_asm) (by k_asm) ⟨rfl, _, rfl⟩
theorem or_ctr (w : World) (x y : Int) (t u : Tok) (news : List (Addr × Obj)) : Ctr w 197 [.int x t, .int y u] [] news 2 (fun r n => n = news ∧ ∃ k, r = .int (Builtin.bitOr x y) k) := by
  unfold Ctr PP
  k_fill
  intro mean mg mb dp un gd cn cs a ccd cl outer A₀ base h₀ L m s Q E B F X N T hk hd hu hret
  refine wpAny_call ?_
  k_dflt cell_enter
  k_steps
  exact hret _ _ _ _ (by k_asm) (by k_asm) ⟨rfl, _, rfl⟩
theorem xor_ctr (w : World) (x y : Int) (t u : Tok) (news : List (Addr × Obj)) : Ctr w 204 [.int x t, .int y u] [] news 2 (fun r n => n = news ∧ ∃ k, r = .int (Builtin.bitXor x y) k) := by
  unfold Ctr PP
  k_fill
  intro mean mg mb dp un gd cn cs a ccd cl outer A₀ base h₀ L m s Q E B F X N T hk hd hu hret
  refine wpAny_call ?_
  k_dflt cell_enter
  k_steps
  exact hret _ _ _ _ (by k_asm) (by k_asm) ⟨rfl, _, rfl⟩
local macro_rules | `(tactic| walk_at "call ref") => `(tactic| (k_here; (with_reducible show wpAny _ _ (call (Value.ref 190) _ _) _ _ _); k_dflt (refine' Ctr.use (and_ctr _ _ _ _ _ _) ?k1 ?k2 ?k3 ?k4 ?k5 ?kK ?kd ?ku ?_; (case k1 => k_asm); (case k2 => k_asm); (case k3 => k_asm); (case k4 => k_asm); (case k5 => k_asm); (case kK => first | exact rfl | assumption); (case kd => ktr_room); (case ku => ktr_units)); intro r9 n9 h9 tk9 F9 N9 P9; (obtain ⟨en9, k9, er9⟩ := P9; replace en9 := en9.symm; subst en9; subst er9; (try dsimp only); (try k_fold))))
local macro_rules | `(tactic| walk_at "call ref") => `(tactic| (k_here; (with_reducible show wpAny _ _ (call (Value.ref 197) _ _) _ _ _); k_dflt (refine' Ctr.use (or_ctr _ _ _ _ _ _) ?k1 ?k2 ?k3 ?k4 ?k5 ?kK ?kd ?ku ?_; (case k1 => k_asm); (case k2 => k_asm); (case k3 => k_asm); (case k4 => k_asm); (case k5 => k_asm); (case kK => first | exact rfl | assumption); (case kd => ktr_room); (case ku => ktr_units)); intro r9 n9 h9 tk9 F9 N9 P9; (obtain ⟨en9, k9, er9⟩ := P9; replace en9 := en9.symm; subst en9; subst er9; (try dsimp only); (try k_fold))))
local macro_rules | `(tactic| walk_at "call ref") => `(tactic| (k_here; (with_reducible show wpAny _ _ (call (Value.ref 204) _ _) _ _ _); k_dflt (refine' Ctr.use (xor_ctr _ _ _ _ _ _) ?k1 ?k2 ?k3 ?k4 ?k5 ?kK ?kd ?ku ?_; (case k1 => k_asm); (case k2 => k_asm); (case k3 => k_asm); (case k4 => k_asm); (case k5 => k_asm); (case kK => first | exact rfl | assumption); (case kd => ktr_room); (case ku => ktr_units)); intro r9 n9 h9 tk9 F9 N9 P9; (obtain ⟨en9, k9, er9⟩ := P9; replace en9 := en9.symm; subst en9; subst er9; (try dsimp only); (try k_fold))))
local macro_rules | `(tactic| walk_at "call ref") => `(tactic| (k_here; (with_reducible show wpAny _ _ (call (Value.ref 212) _ _) _ _ _); k_dflt (refine' Ctr.use (hint_ctr _ _ _ _ _ _ _ _ ?T) ?k1 ?k2 ?k3 ?k4 ?k5 ?kK ?kd ?ku ?_; (case k1 => k_asm); (case k2 => k_asm); (case k3 => k_asm); (case k4 => k_asm); (case T => assumption); (case k5 => k_asm); (case kK => first | exact rfl | assumption); (case kd => ktr_room); (case ku => ktr_units)); intro r9 n9 h9 tk9 F9 N9 P9; (obtain ⟨en9, k9, er9⟩ := P9; replace en9 := en9.symm; subst en9; subst er9; (try dsimp only); (try k_fold))))
local macro_rules | `(tactic| walk_at "call ref") => `(tactic| (k_here; (with_reducible show wpAny _ _ (call (Value.ref 128) _ _) _ _ _); k_dflt (refine' Ctr.use (values_ctr _ _ _ _ _ _ _ _ ?T) ?k1 ?k2 ?k3 ?k4 ?k5 ?kK ?kd ?ku ?_; (case k1 => k_asm); (case k2 => k_asm); (case k3 => k_asm); (case k4 => k_asm); (case T => assumption); (case k5 => k_asm); (case kK => first | exact rfl | assumption); (case kd => ktr_room); (case ku => ktr_units)); intro r9 n9 h9 tk9 F9 N9 P9; (obtain ⟨b9, ys9, er9, hb9, hs9, hk9⟩ := P9; subst er9; (have hT9 := tab_up hk9 (by assumption)); (have hx9 := hT9.hx); (have hd9 := hT9.hd); (obtain ⟨hsh9, tok9, hdx9⟩ := hd9); (try dsimp only); (try k_fold))))
local macro_rules | `(tactic| walk_at "call ref") => `(tactic| (k_here; (with_reducible show wpAny _ _ (call (Value.ref 135) _ _) _ _ _); k_dflt (refine' Ctr.use (items_ctr _ _ _ _ _ _ _ _ ?T) ?k1 ?k2 ?k3 ?k4 ?k5 ?kK ?kd ?ku ?_; (case k1 => k_asm); (case k2 => k_asm); (case k3 => k_asm); (case k4 => k_asm); (case T => assumption); (case k5 => k_asm); (case kK => first | exact rfl | assumption); (case kd => ktr_room); (case ku => ktr_units)); intro r9 n9 h9 tk9 F9 N9 P9; (obtain ⟨b9, nb9, er9, hb9, hk9⟩ := P9; subst er9; (try dsimp only); (try k_fold))))
local macro_rules | `(tactic| walk_at "call type:int") => `(tactic| (k_here; (with_reducible show wpAny _ _ (call (Value.type "int") [Value.str (num _) _]) _ _ _); k_dflt (refine' KIN.call_num ?na ?nb ?_; (case na => assumption); (case nb => exact Int.lt_trans (by assumption) (by decide)))))
local macro_rules | `(tactic| walk_at "exec While BoolOp cons nil") => `(tactic| (k_here; k_dflt (refine while_at (by k_asm) ?_)))
local macro_rules | `(tactic| walk_at "exec While BoolOp") => `(tactic| (k_here; k_dflt (refine while_at (by k_asm) ?_)))
local macro_rules | `(tactic| walk_at "exec While") => `(tactic| (k_here; k_dflt (refine while_at (by k_asm) ?_)))
theorem closed_ctr (w : World) (ls : Addr) (ns : Nat) (s0 s1 s2 s3 kind : Int) (u0 u1 u2 u3 t : Tok) (news : List (Addr × Obj)) (hls : (ls, W.listOf (List.toArray [.int s0 u0, .int s1 u1, .int s2 u2, .int s3 u3]) ns) ∈ news) (hr : ∀ v ∈ [s0, s1, s2, s3], 0 ≤ v ∧ v < 16) :
    Ctr w 219 [.ref ls, .int kind t] [] news 40 (fun r n => ∃ b its nb, r = .ref b ∧ (b, W.listOf its.toArray nb) ∈ n ∧ RowsAre n its (closedF [s0, s1, s2, s3] s0 kind) ∧ (closedF [s0, s1, s2, s3] s0 kind).Nodup ∧ ∀ p ∈ news, p ∈ n) := by
  unfold Ctr PP
  k_fill
  intro mean mg mb dp un gd cn cs a ccd cl outer A₀ base h₀ L m s Q E B F X N T hk hdp hu hret
  have hi : IntsAre [.int s0 u0, .int s1 u1, .int s2 u2, .int s3 u3] [s0, s1, s2, s3] := .cons _ _ (.cons _ _ (.cons _ _ (.cons _ _ .nil)))
  refine wpAny_call ?_
  k_dflt cell_enter
  k_steps
  k_dflt (refine' Ctr.use (init_ctr w news) ?k1 ?k2 ?k3 ?k4 ?k5 ?kK ?kd ?ku ?_; (case k1 => k_asm); (case k2 => k_asm); (case k3 => k_asm); (case k4 => k_asm); (case k5 => k_asm); (case kK => first | exact rfl | assumption); (case kd => ktr_room); (case ku => ktr_units))
  rintro r9 n9 h9 tk9 F9 N9 ⟨x, dx, l, rfl, hT, hsub⟩
  (try dsimp only); (try k_fold)
  k_steps
  rename Fr _ _ _ _ => FF
  rename News _ _ _ _ => NN
  have hol := (NN _ (hsub _ hls).1).1
  refine ⟨ls, _, W.listOf _ ns, _, n9, ClJ w x dx l news [(Str.ofString "table", .ref x), (Str.ofString "sets", .ref ls), (Str.ofString "kind", .int kind t)] (fun i => ([s0, s1, s2, s3].take i).foldl ins []), rfl, trivial, rfl, hol, rfl, ⟨ns, rfl⟩, Heap.lt_size hol, FF, NN, ?_, .inr ?_, ?_, ?_⟩
  · exact ⟨⟨_, _, hT⟩, fun p hp => (hsub p hp).1, by simp only [List.forall_mem_cons]; exact ⟨by with_unfolding_all rfl, by with_unfolding_all rfl, by with_unfolding_all rfl, fun _ h => absurd h List.not_mem_nil⟩⟩
  · rintro i m nx ⟨_, hs, _⟩
    exact hs _ hls
  · rintro i y m₁ nx h tk own hy ⟨⟨its, n, hTi⟩, hs, hm⟩ hoff hoc F₁ N₁
    have F₂ := fr_st _ F₁ hm
    obtain ⟨v, tv, rfl, hv⟩ := ints_at hi hy
    have ⟨hv0, hv16⟩ := hr v (List.mem_of_getElem? hv)
    have hTl := hTi.mono (news' := nx ++ own) fun p hp => List.mem_append_left _ hp
    have hx := hTl.hx
    have ⟨hsh, tok, hdx⟩ := hTl.hd
    clear F₁ FF NN
    refine wpAny_assign_Name ?_
    k_steps
    refine cl_turn (by assumption) (by assumption) hoff hoc hTi (by assumption) (by assumption) hs (fun p hp => (hsub p hp).2) fun nx' e1 e2 => ⟨?_, e2, ?_⟩
    · dsimp only
      rw [List.take_add_one, hv, Option.toList_some, List.foldl_append]
      exact e1
    · simp only [List.forall_mem_cons]; exact ⟨by with_unfolding_all rfl, by with_unfolding_all rfl, by with_unfolding_all rfl, fun _ h => absurd h List.not_mem_nil⟩
  · rintro m₁ nx h tk ⟨⟨its, n, hTi⟩, hs, hm⟩ F₁ N₁
    have F₂ := fr_st _ F₁ hm
    have hx := hTi.hx
    have ⟨hsh, tok, hdx⟩ := hTi.hd
    clear F₁ FF NN
    k_steps
    rename Fr _ _ _ _ => FF
    rename News _ _ _ _ => NN
    refine ⟨ClW w x dx l news s0 s1 s2 s3 kind [(Str.ofString "table", .ref x), (Str.ofString "sets", .ref ls), (Str.ofString "kind", .int kind t)], 16, _, _, FF, NN, ?_, ?_⟩
    · refine ⟨0, _, _, rfl, by omega, ⟨its, n, hTi⟩, hs, by with_unfolding_all rfl, ?_⟩
      simp only [List.forall_mem_cons]; exact ⟨by with_unfolding_all rfl, by with_unfolding_all rfl, by with_unfolding_all rfl, fun _ h => absurd h List.not_mem_nil⟩
    clear FF NN F₂ hm hx hdx hTi hs its n hsh tok
    rintro μ m₁ nx h tk F₁ N₁ ⟨p, vs, tp, hrun, hpm, ⟨its, n, hTi⟩, hs, hpl, hm⟩
    have F₂ := fr_st ((Str.ofString "place", .int (p : Int) tp) :: _) F₁ (List.forall_mem_cons.mpr ⟨hpl, hm⟩)
    have hx := hTi.hx
    have ⟨hsh, tok, hdx⟩ := hTi.hd
    clear F₁
    k_steps
    · rename StrsAre _ (List.map num vs) => hys
      rename (_, LCg.lst _) ∈ _ => hb9
      rename ∀ q, q ∈ nx → q ∈ _ => hk9
      rename Tab w _ x dx l its n vs => hT9
      rename (p : Int) < (vs.length : Int) => hpl1
      rename (p : Int) < 16 => hp16
      have hpn : p < vs.length := by omega
      have hvp : vs[p]? = some (vs.getD p 0) := by simp [hpn]
      obtain ⟨hv0, hv16⟩ := hTi.hr.range _ (List.mem_of_getElem? hvp)
      obtain ⟨ty, hyp⟩ := strs_at (i := p) (y := num (vs.getD p 0)) hys (by rw [List.getElem?_map, hvp]; rfl)
      dsimp only
      refine item_list (x := .str (num (vs.getD p 0)) ty) (News.isList (by assumption) hb9) (by omega) (by omega) (by simpa using hyp) ?_
      generalize hvd : vs.getD p 0 = v0 at hv0 hv16 ⊢
      k_steps
      rename Fr _ _ _ _ => FF
      rename News _ _ _ _ => NN
      have hol := (NN _ (hk9 _ (hs _ hls))).1
      refine ⟨ls, _, W.listOf _ ns, _, _, fun i m nx => ∃ tt, ClJ w x dx l news [(Str.ofString "taken", .int v0 tt), (Str.ofString "place", .int (p : Int) tp), (Str.ofString "table", .ref x), (Str.ofString "sets", .ref ls), (Str.ofString "kind", .int kind t)] (fun i => ([s0, s1, s2, s3].take i).foldl (fun vs one => ins vs (op s0 kind v0 one)) vs) i m nx, rfl, trivial, rfl, hol, rfl, ⟨ns, rfl⟩, Heap.lt_size hol, FF, NN, ?_, .inr ?_, ?_, ?_⟩
      · exact ⟨_, ⟨_, _, hT9⟩, fun q hq => hk9 q (hs q hq), by simp only [List.forall_mem_cons]; exact ⟨by with_unfolding_all rfl, by with_unfolding_all rfl, by with_unfolding_all rfl, by with_unfolding_all rfl, by with_unfolding_all rfl, fun _ h => absurd h List.not_mem_nil⟩⟩
      · rintro i m nx ⟨_, _, hs, _⟩
        exact hs _ hls
      · rintro i y m₂ nx2 h2 tk2 own hy ⟨tt, ⟨its2, n2, hT2⟩, hs2, hm2⟩ hoff hoc F3 N3
        have F4 := fr_st _ F3 hm2
        obtain ⟨v, tv, rfl, hv⟩ := ints_at hi hy
        have ⟨hvr0, hvr16⟩ := hr v (List.mem_of_getElem? hv)
        have ⟨hs00, hs016⟩ := hr s0 (.head _)
        have ⟨⟨a1, a2⟩, ⟨b1, b2⟩, _⟩ := bits_lt hv0 hv16 hvr0 hvr16
        have ⟨_, _, ⟨c1, c2⟩⟩ := bits_lt hv0 hv16 hs00 hs016
        have ⟨_, _, ⟨d1, d2⟩⟩ := bits_lt c1 c2 hvr0 hvr16
        have d3 : 0 ≤ Builtin.bitXor (Builtin.bitXor v0 ([s0, s1, s2, s3].getD (Int.toNat 0) 0)) v := d1
        have d4 : Builtin.bitXor (Builtin.bitXor v0 ([s0, s1, s2, s3].getD (Int.toNat 0) 0)) v < 16 := d2
        have hTl := hT2.mono (news' := nx2 ++ own) fun p hp => List.mem_append_left _ hp
        have hx2 := hTl.hx
        have ⟨hsh2, tok2, hdx2⟩ := hTl.hd
        have hls2 := List.mem_append_left own (hs2 _ hls)
        clear F3 FF NN hx hdx hT9 hb9 hys hk9 hTi
        refine wpAny_assign_Name ?_
        k_steps
        · refine cl_turn (by assumption) (by assumption) hoff hoc hT2 (by assumption) (by assumption) hs2 (fun q hq => (hsub q hq).2) fun nx' e1 e2 => ⟨tt, ?_, e2, ?_⟩
          · have eop : op s0 kind v0 v = Builtin.bitAnd v0 v := by unfold op; rw [if_pos (by assumption)]
            dsimp only
            rw [List.take_add_one, hv, Option.toList_some, List.foldl_append]
            show ∃ its n, Tab w nx' x dx l its n (ins _ (op s0 kind v0 v))
            rw [eop]
            exact e1
          · simp only [List.forall_mem_cons]; exact ⟨by with_unfolding_all rfl, by with_unfolding_all rfl, by with_unfolding_all rfl, by with_unfolding_all rfl, by with_unfolding_all rfl, fun _ h => absurd h List.not_mem_nil⟩
        · refine cl_turn (by assumption) (by assumption) hoff hoc hT2 (by assumption) (by assumption) hs2 (fun q hq => (hsub q hq).2) fun nx' e1 e2 => ⟨tt, ?_, e2, ?_⟩
          · have eop : op s0 kind v0 v = Builtin.bitOr v0 v := by unfold op; rw [if_neg (by omega), if_pos (by assumption)]
            dsimp only
            rw [List.take_add_one, hv, Option.toList_some, List.foldl_append]
            show ∃ its n, Tab w nx' x dx l its n (ins _ (op s0 kind v0 v))
            rw [eop]
            exact e1
          · simp only [List.forall_mem_cons]; exact ⟨by with_unfolding_all rfl, by with_unfolding_all rfl, by with_unfolding_all rfl, by with_unfolding_all rfl, by with_unfolding_all rfl, fun _ h => absurd h List.not_mem_nil⟩
        · refine cl_turn (by assumption) (by assumption) hoff hoc hT2 (by assumption) (by assumption) hs2 (fun q hq => (hsub q hq).2) fun nx' e1 e2 => ⟨tt, ?_, e2, ?_⟩
          · have eop : op s0 kind v0 v = Builtin.bitXor (Builtin.bitXor v0 s0) v := by unfold op; rw [if_neg (by omega), if_neg (by omega)]
            dsimp only
            rw [List.take_add_one, hv, Option.toList_some, List.foldl_append]
            show ∃ its n, Tab w nx' x dx l its n (ins _ (op s0 kind v0 v))
            rw [eop]
            exact e1
          · simp only [List.forall_mem_cons]; exact ⟨by with_unfolding_all rfl, by with_unfolding_all rfl, by with_unfolding_all rfl, by with_unfolding_all rfl, by with_unfolding_all rfl, fun _ h => absurd h List.not_mem_nil⟩
      · rintro m₂ nx2 h2 tk2 ⟨tt, ⟨its2, n2, hT2⟩, hs2, hm2⟩ F3 N3
        have F4 := fr_st _ F3 hm2
        obtain ⟨μ, rfl⟩ : ∃ k, μ = k + 1 := ⟨μ - 1, by omega⟩
        rw [runC, if_pos ⟨hpn, by omega⟩, hvd] at hrun
        clear F3 FF NN
        k_steps
        refine (show WhileStep2 _ _ _ _ _ _ _ _ from ⟨_, _, _, nx2, μ, rfl, by assumption, by assumption, by omega, p + 1, _, _, hrun, by omega, ⟨its2, n2, hT2⟩, hs2, by with_unfolding_all rfl, ?_⟩)
        simp only [List.forall_mem_cons]; exact ⟨by with_unfolding_all rfl, by with_unfolding_all rfl, by with_unfolding_all rfl, fun _ h => absurd h List.not_mem_nil⟩
    · have e := run_out (ss := [s0, s1, s2, s3]) (s0 := s0) (kind := kind) (μ := μ) (p := p) (vs := vs) (fun h => by omega)
      rw [e] at hrun
      subst hrun
      rename (_, W.listOf its.toArray _) ∈ _ => hb9
      rename ∀ q, q ∈ nx → q ∈ _ => hk9
      exact hret _ _ _ _ (by k_asm) (by k_asm) ⟨_, its, _, rfl, hb9, hTi.hr.mono fun _ _ _ _ _ h => hk9 _ h, hTi.hn, fun q hq => hk9 q (hs q hq)⟩
    · have e := run_out (ss := [s0, s1, s2, s3]) (s0 := s0) (kind := kind) (μ := μ) (p := p) (vs := vs) (fun h => by omega)
      rw [e] at hrun
      subst hrun
      rename (_, W.listOf its.toArray _) ∈ _ => hb9
      rename ∀ q, q ∈ nx → q ∈ _ => hk9
      exact hret _ _ _ _ (by k_asm) (by k_asm) ⟨_, its, _, rfl, hb9, hTi.hr.mono fun _ _ _ _ _ h => hk9 _ h, hTi.hn, fun q hq => hk9 q (hs q hq)⟩
end
end Mine
end
section
open PySem PySem.W PyProof.Rows
namespace Mine
local macro_rules | `(tactic| walk_at "flush") => `(tactic| skip)
theorem flushMCompT {prog : Program} {w : World} {A : Around} {Q : Flow → Shared → Prop} {E : Value → Shared → Prop} {s : Shared} {env : Env} (h : wpAny (model prog w) A (execs [] env) Q E s) : wpAny (model prog w) A (execs [] env) Q E s := by
  w_top off
  first | (walk1; fail) | exact h
end Mine
end
section
open PySem PySem.W PyProof.Rows PySem.Spec PySem.Calls PyProof.Rows.LCg PyProof.Rows.LCp
namespace Mine
set_option maxRecDepth 100000
set_option maxHeartbeats 4000000
/-- a tested comprehension's source, under a name that the walk does not open -/
def SrcT := @LCt.CompSrcT
theorem as_T {prog : Program} {w : World} {A : Around} {E : Value → Shared → Prop} {s : Shared} {h₀ : Heap} {L : Addr} {m : Str → Option Value} {env : Env} {ct elt : Expr} {x : Str} {scope : Scope} {cl : List (Str × Addr)} {Fin : Shared → List Value → List (Addr × Obj) → Prop} {c : Sem Value}
    (h : wpAny (model prog w) A c (SrcT prog w A h₀ L m env ct elt x scope cl Fin) E s) : wpAny (model prog w) A c (LCt.CompSrcT prog w A h₀ L m env ct elt x scope cl Fin) E s := h
section
variable {prog : Program} {w : World} {A : Around} {h₀ : Heap} {L : Addr} {m : Str → Option Value} {env : Env} {ct elt : Expr} {x : Str} {scope : Scope} {cl : List (Str × Addr)} {s : Shared} {S : List (Addr × Obj) → Prop} {P : Nat → Value → Prop} {Fin : List Value → List (Addr × Obj) → Prop}
theorem restT_ind {n : Nat} (Inv : Nat → List Value → List (Addr × Obj) → Prop)
    (step : ∀ i ys news, i < n → Inv i ys news → ∀ v I oI C oC D m₂ h tk (E' : Value → Shared → Prop), P i v → NsObj oC m₂ → m₂ x = some v → Fr h₀ L h m → News h₀ L h ((I, oI) :: (C, oC) :: (D, lst ys) :: news) → Off3 I C D news → ((@Ne Nat I C) ∧ (@Ne Nat I D) ∧ (@Ne Nat C D)) →
      wpAny (model prog w) A (isTrue ct (compEnvC scope cl C env) (eval ct (compEnvC scope cl C env))) (fun ok s' => if ok = true then
        wpAny (model prog w) A (eval elt (compEnvC scope cl C env)) (CompEnd h₀ L m { s with heap := h, toks := tk } I oI C oC D (lst ys) S (fun y news' => Inv (i + 1) (ys ++ [y]) news')) E' s'
        else CompEnd h₀ L m { s with heap := h, toks := tk } I oI C oC D (lst ys) S (fun _ news' => Inv (i + 1) ys news') Value.none s') E' { s with heap := h, toks := tk })
    (fin : ∀ ys news, Inv n ys news → Fin ys news) : ∀ k i ys news, k + i = n → Inv i ys news → LCt.CompRestT prog w A h₀ L m env ct elt x scope cl s S P Fin k i ys news
  | 0, i, ys, news, e, hI => by
    have : i = n := by omega
    subst this
    exact LCt.CompRestT.zero (fin _ _ hI)
  | k + 1, i, ys, news, e, hI => by
    refine LCt.CompRestT.succ fun v I oI C oC D m₂ h tk E' p a b F N off ne => ?_
    refine wpAny_mono (step i ys news (by omega) hI v I oI C oC D m₂ h tk E' p a b F N off ne) (fun b s₂ hq => ?_) fun _ _ x => x
    cases b with
    | true =>
      simp only [if_true] at hq ⊢
      exact wpAny_mono hq (fun y s₃ q => compEnd_mono q fun nw hi => restT_ind Inv step fin k (i + 1) _ nw (by omega) hi) fun _ _ x => x
    | false =>
      simp only [Bool.false_eq_true, if_false] at hq ⊢
      exact compEnd_mono hq fun nw hi => restT_ind Inv step fin k (i + 1) _ nw (by omega) hi
theorem ints_get : ∀ {vs : List Value} {ns : List Int} {i : Nat} {y : Value}, IntsAre vs ns → vs[i]? = some y → ∃ v t, y = .int v t ∧ ns[i]? = some v
  | _, _, 0, _, .cons v t _, e => by simp at e; exact ⟨v, t, e.symm, rfl⟩
  | _, _, i + 1, _, .cons _ _ h, e => by
    obtain ⟨v, t, h1, h2⟩ := ints_get (i := i) h (by simpa using e)
    exact ⟨v, t, h1, by simpa using h2⟩
theorem intsU {vs : List Value} {ns : List Int} {news : List (Addr × Obj)} (f : Int → Int) (hi : IntsAre vs ns)
    (step : ∀ k t I oI C oC D ys m₂ h tk (E' : Value → Shared → Prop), k ∈ ns → NsObj oC m₂ → m₂ x = some (.int k t) → Fr h₀ L h m → News h₀ L h ((I, oI) :: (C, oC) :: (D, lst ys) :: news) → Off3 I C D news → ((@Ne Nat I C) ∧ (@Ne Nat I D) ∧ (@Ne Nat C D)) →
      wpAny (model prog w) A (eval elt (compEnvC scope cl C env)) (CompEnd h₀ L m { s with heap := h, toks := tk } I oI C oC D (lst ys) S (fun y nw => nw = news ∧ ∃ t, y = .int (f k) t)) E' { s with heap := h, toks := tk })
    (fin : ∀ ys, IntsAre ys (ns.map f) → Fin ys news) : CompRest prog w A h₀ L m env elt x scope cl s S (fun i v => vs.toArray[i]? = some v) Fin vs.toArray.size 0 [] news := by
  have hl := hi.length
  refine rest_ind (n := vs.toArray.size) (fun i ys nw => nw = news ∧ IntsAre ys ((ns.take i).map f)) ?_ ?_ _ 0 [] news rfl ⟨rfl, .nil⟩
  · rintro i ys nw hlt ⟨rfl, hys⟩ v I oI C oC D m₂ h tk E' hv hC hx F N off ne
    obtain ⟨k, t, rfl, hk⟩ := ints_get hi (by simpa using hv)
    refine wpAny_mono (step k t I oI C oC D ys m₂ h tk E' (List.mem_of_getElem? hk) hC hx F N off ne) (fun y s₂ q => compEnd_mono q ?_) fun _ _ x => x
    rintro nw' ⟨rfl, t', rfl⟩
    refine ⟨rfl, ?_⟩
    rw [List.take_add_one, hk, Option.toList_some, List.map_append]
    exact IntsAre.append hys (.cons _ t' .nil)
  · rintro ys nw ⟨rfl, hys⟩
    rw [List.size_toArray, hl, List.take_length] at hys
    exact fin ys hys
theorem intsT {vs : List Value} {ns : List Int} {news : List (Addr × Obj)} (p : Int → Bool) (f : Int → Int) (hi : IntsAre vs ns)
    (step : ∀ k t I oI C oC D ys m₂ h tk (E' : Value → Shared → Prop), k ∈ ns → NsObj oC m₂ → m₂ x = some (.int k t) → Fr h₀ L h m → News h₀ L h ((I, oI) :: (C, oC) :: (D, lst ys) :: news) → Off3 I C D news → ((@Ne Nat I C) ∧ (@Ne Nat I D) ∧ (@Ne Nat C D)) →
      wpAny (model prog w) A (isTrue ct (compEnvC scope cl C env) (eval ct (compEnvC scope cl C env))) (fun ok s' => if ok = true then
        wpAny (model prog w) A (eval elt (compEnvC scope cl C env)) (CompEnd h₀ L m { s with heap := h, toks := tk } I oI C oC D (lst ys) S (fun y nw => nw = news ∧ p k = true ∧ ∃ t, y = .int (f k) t)) E' s'
        else CompEnd h₀ L m { s with heap := h, toks := tk } I oI C oC D (lst ys) S (fun _ nw => nw = news ∧ p k = false) Value.none s') E' { s with heap := h, toks := tk })
    (fin : ∀ ys, IntsAre ys ((ns.filter p).map f) → Fin ys news) : LCt.CompRestT prog w A h₀ L m env ct elt x scope cl s S (fun i v => vs.toArray[i]? = some v) Fin vs.toArray.size 0 [] news := by
  have hl := hi.length
  refine restT_ind (n := vs.toArray.size) (fun i ys nw => nw = news ∧ IntsAre ys (((ns.take i).filter p).map f)) ?_ ?_ _ 0 [] news rfl ⟨rfl, .nil⟩
  · rintro i ys nw hlt ⟨rfl, hys⟩ v I oI C oC D m₂ h tk E' hv hC hx F N off ne
    obtain ⟨k, t, rfl, hk⟩ := ints_get hi (by simpa using hv)
    refine wpAny_mono (step k t I oI C oC D ys m₂ h tk E' (List.mem_of_getElem? hk) hC hx F N off ne) (fun b s₂ hq => ?_) fun _ _ x => x
    cases b with
    | true =>
      simp only [if_true] at hq ⊢
      refine wpAny_mono hq (fun y s₃ q => compEnd_mono q ?_) fun _ _ x => x
      rintro nw' ⟨rfl, hp, t', rfl⟩
      refine ⟨rfl, ?_⟩
      rw [List.take_add_one, hk, Option.toList_some, List.filter_append, List.map_append, List.filter_cons_of_pos hp]
      exact IntsAre.append hys (.cons _ t' .nil)
    | false =>
      simp only [Bool.false_eq_true, if_false] at hq ⊢
      refine compEnd_mono hq ?_
      rintro nw' ⟨rfl, hp⟩
      refine ⟨rfl, ?_⟩
      rw [List.take_add_one, hk, Option.toList_some, List.filter_append, List.map_append, List.filter_cons_of_neg (by rw [hp]; exact Bool.false_ne_true)]
      simpa using hys
  · rintro ys nw ⟨rfl, hys⟩
    rw [List.size_toArray, hl, List.take_length] at hys
    exact fin ys hys
end
end Mine
end
section
open PySem PySem.W PyProof.Rows
namespace Mine
local macro_rules | `(tactic| walk_at "flush") => `(tactic| skip)
theorem flushMTolF {prog : Program} {w : World} {A : Around} {Q : Flow → Shared → Prop} {E : Value → Shared → Prop} {s : Shared} {env : Env} (h : wpAny (model prog w) A (execs [] env) Q E s) : wpAny (model prog w) A (execs [] env) Q E s := by
  w_top off
  first | (walk1; fail) | exact h
end Mine
end
section
open PySem PySem.W PyProof.Rows
namespace Mine
/-- parity of the bits -/
def oddT : List Int := [0, 1, 1, 0, 1, 0, 0, 1, 1, 0, 0, 1, 0, 1, 1, 0]
def oddF (v : Int) : Int := oddT.getD v.toNat 0
def seenT (ss : List Int) (k : Int) : List Int := ss.map fun one => oddF (Builtin.bitAnd k one)
def keepP (kind k one : Int) : Bool := decide (Builtin.bitAnd k (Builtin.bitXor one (15 * kind)) = k)
def havingT (ss : List Int) (kind k : Int) : List Int := (ss.filter (keepP kind k)).map fun one => Builtin.bitXor one (15 * kind)
def commonT (hs : List Int) : Int := hs.foldl Builtin.bitAnd (if hs = [] then 16 else 15)
def passP (kind k c one : Int) : Bool := (!keepP kind k one) || decide (Builtin.bitAnd c (Builtin.bitXor one (15 * kind)) = c)
/-- one turn of the oracle -/
def turnT (ss : List Int) (kind : Int) (left : List Int) (k : Int) : List Int :=
  if kind = 2 then
    (if ∀ v ∈ seenT ss k, v = (seenT ss k).getD 0 0 then left.filter fun one => decide (oddF (Builtin.bitAnd k one) = (seenT ss k).getD 0 0) else left)
  else left.filter (passP kind k (commonT (havingT ss kind k)))
/-- what _law_told tells after n turns -/
def toldN (ss : List Int) (kind : Int) (n : Nat) : List Int := (rangeKs 0 n).foldl (turnT ss kind) (rangeKs 0 16)
theorem toldN_succ (ss : List Int) (kind : Int) (n : Nat) : toldN ss kind (n + 1) = turnT ss kind (toldN ss kind n) (0 + (n : Int)) := by
  unfold toldN
  have e : rangeKs 0 (n + 1) = rangeKs 0 n ++ [0 + (n : Int)] := by
    unfold rangeKs
    rw [List.range_succ, List.map_append]
    rfl
  rw [e, List.foldl_append]
  rfl
theorem turnT_sub (ss : List Int) (kind : Int) (left : List Int) (k : Int) : (turnT ss kind left k).Sublist left := by
  unfold turnT
  split
  · split
    · exact List.filter_sublist
    · exact List.Sublist.refl _
  · exact List.filter_sublist
theorem toldN_sub (ss : List Int) (kind : Int) : ∀ n, (toldN ss kind n).Sublist (rangeKs 0 16)
  | 0 => List.Sublist.refl _
  | n + 1 => by rw [toldN_succ]; exact (turnT_sub _ _ _ _).trans (toldN_sub ss kind n)
end Mine
end
section
open PySem PySem.W PyProof.Rows
namespace Mine
local macro_rules | `(tactic| walk_at "flush") => `(tactic| skip)
theorem flushMTolA {prog : Program} {w : World} {A : Around} {Q : Flow → Shared → Prop} {E : Value → Shared → Prop} {s : Shared} {env : Env} (h : wpAny (model prog w) A (execs [] env) Q E s) : wpAny (model prog w) A (execs [] env) Q E s := by
  w_top off
  first | (walk1; fail) | exact h
end Mine
end
section
open PySem PySem.W PyProof.Rows
namespace Mine
set_option maxRecDepth 100000
set_option maxHeartbeats 8000000
/-- away from the five cells -/
def CO (L' : Addr) (a : Addr) : Prop := a ≠ L' + 1 ∧ a ≠ L' + 1 + 1 ∧ a ≠ L' + 1 + 1 + 1 ∧ a ≠ L' + 1 + 1 + 1 + 1 ∧ a ≠ L' + 1 + 1 + 1 + 1 + 1
/-- the oracle's loop word -/
def ToJ (L' ls : Addr) (news : List (Addr × Obj)) (kind : Int) (F : Nat → List Int) (i : Nat) (m : Str → Option Value) (nx : List (Addr × Obj)) : Prop :=
  ∃ (o1 o2 o3 o4 o5 : Obj) (lo : Addr) (ov : List Value) (on : Nat) (b : Addr) (its : List Value) (nb : Nat) (t : Tok) (x3 x4 x5 : Option Value) (rest : List (Addr × Obj)),
    nx = (L' + 1 + 1 + 1 + 1 + 1, o5) :: (L' + 1 + 1 + 1 + 1, o4) :: (L' + 1 + 1 + 1, o3) :: (L' + 1 + 1, o2) :: (L' + 1, o1) :: rest ∧
    o5.data = .cell x5 ∧ o4.data = .cell x4 ∧ o3.data = .cell x3 ∧ o2.data = .cell (some (.ref lo)) ∧ o1.data = .cell (some (.int kind t)) ∧
    (lo, W.listOf ov.toArray on) ∈ rest ∧ IntsAre ov oddT ∧ (b, W.listOf its.toArray nb) ∈ rest ∧ IntsAre its (F i) ∧ (∀ p ∈ news, p ∈ rest) ∧ (∀ p ∈ rest, CO L' p.1) ∧
    m (Str.ofString "left") = some (.ref b) ∧ m (Str.ofString "sets") = some (.ref ls)
theorem news_ord {g h : Heap} {L : Addr} {a b c1 c2 c3 c4 c5 : Addr × Obj} {news : List (Addr × Obj)} (N : News g L h (a :: b :: c1 :: c2 :: c3 :: c4 :: c5 :: news)) : News g L h (c1 :: c2 :: c3 :: c4 :: c5 :: a :: b :: news) := by
  intro p hp
  refine N p ?_
  have hp : p ∈ [c1, c2, c3, c4, c5] ++ (a :: b :: news) := hp
  show p ∈ a :: b :: ([c1, c2, c3, c4, c5] ++ news)
  rcases List.mem_append.mp hp with h | h
  · exact .tail _ (.tail _ (List.mem_append_left _ h))
  · rcases List.mem_cons.mp h with rfl | h
    · exact .head _
    · rcases List.mem_cons.mp h with rfl | h
      · exact .tail _ (.head _)
      · exact .tail _ (.tail _ (List.mem_append_right _ h))
theorem co_own {L' : Addr} {o1 o2 o3 o4 o5 : Obj} {rest own : List (Addr × Obj)} (hco : ∀ p ∈ rest, CO L' p.1) (hoff : OwnOff own (((L' + 1 + 1 + 1 + 1 + 1, o5) :: (L' + 1 + 1 + 1 + 1, o4) :: (L' + 1 + 1 + 1, o3) :: (L' + 1 + 1, o2) :: (L' + 1, o1) :: rest).map (·.1))) : ∀ p ∈ rest ++ own, CO L' p.1 := by
  intro p hp
  rcases List.mem_append.mp hp with h | h
  · exact hco p h
  · have q := hoff p h
    exact ⟨q _ (.tail _ (.tail _ (.tail _ (.tail _ (.head _))))), q _ (.tail _ (.tail _ (.tail _ (.head _)))), q _ (.tail _ (.tail _ (.head _))), q _ (.tail _ (.head _)), q _ (.head _)⟩
theorem up5 {p c1 c2 c3 c4 c5 : Addr × Obj} {rest own : List (Addr × Obj)} (h : p ∈ rest) : p ∈ c5 :: c4 :: c3 :: c2 :: c1 :: (rest ++ own) :=
  .tail _ (.tail _ (.tail _ (.tail _ (.tail _ (List.mem_append_left _ h)))))
theorem all_eq {l : List Int} {M : Int} (lo : ∀ a, a ∈ l → M ≤ a) (hi : ∀ a, a ∈ l → a ≤ M) (h0 : 0 < l.length) : ∀ v ∈ l, v = l.getD 0 0 := by
  intro v hv
  have e : l.getD 0 0 ∈ l := by
    cases l with
    | nil => cases h0
    | cons a r => exact .head _
  have := lo _ hv; have := hi _ hv; have := lo _ e; have := hi _ e
  omega
theorem co_off {L' D : Addr} {o1 o2 o3 o4 o5 : Obj} {pre r : List (Addr × Obj)} (h : ∀ p ∈ pre ++ ((L' + 1 + 1 + 1 + 1 + 1, o5) :: (L' + 1 + 1 + 1 + 1, o4) :: (L' + 1 + 1 + 1, o3) :: (L' + 1 + 1, o2) :: (L' + 1, o1) :: r), p.1 ≠ D) : CO L' D :=
  ⟨fun e => h _ (List.mem_append_right _ (.tail _ (.tail _ (.tail _ (.tail _ (.head _)))))) e.symm, fun e => h _ (List.mem_append_right _ (.tail _ (.tail _ (.tail _ (.head _))))) e.symm, fun e => h _ (List.mem_append_right _ (.tail _ (.tail _ (.head _)))) e.symm, fun e => h _ (List.mem_append_right _ (.tail _ (.head _))) e.symm, fun e => h _ (List.mem_append_right _ (.head _)) e.symm⟩
theorem up5' {p c1 c2 c3 c4 c5 : Addr × Obj} {r : List (Addr × Obj)} (h : p ∈ r) : p ∈ c5 :: c4 :: c3 :: c2 :: c1 :: r := .tail _ (.tail _ (.tail _ (.tail _ (.tail _ h))))
/-- the inner loop's word: the cell of `common` -/
def CoJ (L' ls b D : Addr) (oD : Obj) (fix : List (Addr × Obj)) (hs : List Int) (c0 : Int) (i : Nat) (m : Str → Option Value) (nx : List (Addr × Obj)) : Prop :=
  ∃ (o5 : Obj) (tt : Tok), nx = (D, oD) :: (L' + 1 + 1 + 1 + 1 + 1, o5) :: fix ∧ o5.data = .cell (some (.int ((hs.take i).foldl Builtin.bitAnd c0) tt)) ∧ m (Str.ofString "having") = some (.ref D) ∧ m (Str.ofString "left") = some (.ref b) ∧ m (Str.ofString "sets") = some (.ref ls)
theorem up6r {p a b c d e f : Addr × Obj} {r r' : List (Addr × Obj)} (h : p ∈ a :: b :: c :: d :: e :: f :: r) (hr : ∀ q ∈ r, q ∈ r') : p ∈ a :: b :: c :: d :: e :: f :: r' := by
  have h : p ∈ [a, b, c, d, e, f] ++ r := h
  show p ∈ [a, b, c, d, e, f] ++ r'
  rcases List.mem_append.mp h with h | h
  · exact List.mem_append_left _ h
  · exact List.mem_append_right _ (hr p h)
theorem co_own2 {L' D : Addr} {oD o1 o2 o3 o4 o5 : Obj} {rest own own2 : List (Addr × Obj)} (hco : ∀ p ∈ rest ++ own, CO L' p.1) (hoff : OwnOff own2 (((D, oD) :: (L' + 1 + 1 + 1 + 1 + 1, o5) :: (L' + 1 + 1 + 1 + 1, o4) :: (L' + 1 + 1 + 1, o3) :: (L' + 1 + 1, o2) :: (L' + 1, o1) :: (rest ++ own)).map (·.1))) : ∀ p ∈ rest ++ (own ++ own2), CO L' p.1 := by
  intro p hp
  rw [← List.append_assoc] at hp
  rcases List.mem_append.mp hp with h | h
  · exact hco p h
  · have q := hoff p h
    exact ⟨q _ (.tail _ (.tail _ (.tail _ (.tail _ (.tail _ (.head _)))))), q _ (.tail _ (.tail _ (.tail _ (.tail _ (.head _))))), q _ (.tail _ (.tail _ (.tail _ (.head _)))), q _ (.tail _ (.tail _ (.head _))), q _ (.tail _ (.head _))⟩
theorem fold_snoc {hs : List Int} {j : Nat} {v c0 : Int} {f : Int → Int → Int} (hv : hs[j]? = some v) : f ((hs.take j).foldl f c0) v = (hs.take (j + 1)).foldl f c0 := by
  rw [List.take_add_one, hv, Option.toList_some, List.foldl_append]
  rfl
theorem own_up {a b c d e f : Addr × Obj} {rest own own2 : List (Addr × Obj)} : ∀ p ∈ own2, p ∈ a :: b :: c :: d :: e :: f :: (rest ++ (own ++ own2)) := fun _ hp => .tail _ (up5' (List.mem_append_right _ (List.mem_append_right _ hp)))
theorem rest_up {rest own own2 : List (Addr × Obj)} : ∀ p ∈ rest ++ own, p ∈ rest ++ (own ++ own2) := fun p hp => by
  rw [← List.append_assoc]; exact List.mem_append_left _ hp
theorem off1_mem {D : Addr} : ∀ {l : List (Addr × Obj)}, LCg.Off1 D l → ∀ p ∈ l, p.1 ≠ D
  | [], _, _, hp => absurd hp List.not_mem_nil
  | _ :: _, h, p, hp => by
    rcases List.mem_cons.mp hp with rfl | hp
    · exact h.1
    · exact off1_mem h.2 p hp
theorem to_turn {g h' : Heap} {L L' ls : Addr} {news own rest all : List (Addr × Obj)} (extra : List (Addr × Obj)) {kind : Int} {G : Nat → List Int} {i : Nat} {m' : Str → Option Value} {o1 o2 o3 o4 o5 : Obj} {lo : Addr} {ov : List Value} {on : Nat} {b : Addr} {its : List Value} {nb : Nat} {t : Tok} {x3 x4 x5 : Option Value} {s₁ : Shared} {tk : Nat} {Q : Flow → Shared → Prop}
    (F : Fr g L h' m') (N : News g L h' all) (hc : ∀ p ∈ [(L' + 1 + 1 + 1 + 1 + 1, o5), (L' + 1 + 1 + 1 + 1, o4), (L' + 1 + 1 + 1, o3), (L' + 1 + 1, o2), (L' + 1, o1)], p ∈ all)
    (hx : ∀ p ∈ extra, p ∈ all) (hr : ∀ p ∈ rest ++ own, p ∈ all) (hxo : ∀ p ∈ extra, CO L' p.1 ∧ ∀ q ∈ rest ++ own, q.1 ≠ p.1) (hall : ∀ p ∈ rest ++ own, CO L' p.1) (hoff : ∀ p ∈ own, ∀ q ∈ rest, p.1 ≠ q.1)
    (e5 : o5.data = .cell x5) (e4 : o4.data = .cell x4) (e3 : o3.data = .cell x3) (e2 : o2.data = .cell (some (.ref lo))) (e1 : o1.data = .cell (some (.int kind t)))
    (hlo : (lo, W.listOf ov.toArray on) ∈ rest) (hov : IntsAre ov oddT) (hb : (b, W.listOf its.toArray nb) ∈ extra ++ rest) (hits : IntsAre its (G (i + 1))) (hsub : ∀ p ∈ news, p ∈ rest)
    (hml : m' (Str.ofString "left") = some (.ref b)) (hms : m' (Str.ofString "sets") = some (.ref ls)) : TurnPost g L (ToJ L' ls news kind G (i + 1)) own s₁ Q .next { s₁ with heap := h', toks := tk } := by
  refine TurnEnd.intro ((L' + 1 + 1 + 1 + 1 + 1, o5) :: (L' + 1 + 1 + 1 + 1, o4) :: (L' + 1 + 1 + 1, o3) :: (L' + 1 + 1, o2) :: (L' + 1, o1) :: (extra ++ rest)) F N ?_ (fun p hp => hr p (List.mem_append_right _ hp)) ?_ ⟨o1, o2, o3, o4, o5, lo, ov, on, b, its, nb, t, x3, x4, x5, _, rfl, e5, e4, e3, e2, e1, List.mem_append_right _ hlo, hov, hb, hits, fun p hp => List.mem_append_right _ (hsub p hp), ?_, hml, hms⟩
  · intro p hp
    have hp : p ∈ [(L' + 1 + 1 + 1 + 1 + 1, o5), (L' + 1 + 1 + 1 + 1, o4), (L' + 1 + 1 + 1, o3), (L' + 1 + 1, o2), (L' + 1, o1)] ++ (extra ++ rest) := hp
    rcases List.mem_append.mp hp with h | h
    · exact hc p h
    · rcases List.mem_append.mp h with h | h
      · exact hx p h
      · exact hr p (List.mem_append_left _ h)
  · intro p hp b hb
    obtain ⟨qa, qb, qc, qd, qe⟩ := hall p (List.mem_append_right _ hp)
    obtain ⟨q, hq, rfl⟩ := List.mem_map.mp hb
    have hq : q ∈ [(L' + 1 + 1 + 1 + 1 + 1, o5), (L' + 1 + 1 + 1 + 1, o4), (L' + 1 + 1 + 1, o3), (L' + 1 + 1, o2), (L' + 1, o1)] ++ (extra ++ rest) := hq
    rcases List.mem_append.mp hq with h | h
    · simp only [List.mem_cons, List.not_mem_nil, or_false] at h
      rcases h with rfl | rfl | rfl | rfl | rfl
      · exact qe
      · exact qd
      · exact qc
      · exact qb
      · exact qa
    · rcases List.mem_append.mp h with h | h
      · exact (hxo q h).2 p (List.mem_append_right _ hp)
      · exact hoff p hp q h
  · intro p hp
    rcases List.mem_append.mp hp with h | h
    · exact (hxo p h).1
    · exact hall p (List.mem_append_left _ h)
theorem own_rest {own rest : List (Addr × Obj)} {c1 c2 c3 c4 c5 : Addr × Obj} (hoff : OwnOff own ((c5 :: c4 :: c3 :: c2 :: c1 :: rest).map (·.1))) : ∀ p ∈ own, ∀ q ∈ rest, p.1 ≠ q.1 := fun p hp q hq =>
  hoff p hp _ (List.mem_map.mpr ⟨q, .tail _ (.tail _ (.tail _ (.tail _ (.tail _ hq)))), rfl⟩)
end Mine
end
section
open PySem PySem.W PyProof.Rows
namespace Mine
local macro_rules | `(tactic| walk_at "flush") => `(tactic| skip)
theorem flushMTold {prog : Program} {w : World} {A : Around} {Q : Flow → Shared → Prop} {E : Value → Shared → Prop} {s : Shared} {env : Env} (h : wpAny (model prog w) A (execs [] env) Q E s) : wpAny (model prog w) A (execs [] env) Q E s := by
  w_top off
  first | (walk1; fail) | exact h
end Mine
end
section
open PySem PySem.W PyProof.Rows
namespace Mine
set_option maxRecDepth 100000
set_option maxHeartbeats 8000000
section
local macro_rules | `(tactic| walk_at "exec For Name Call cons nil") => `(tactic| (k_here; k_dflt (refine for_range (by k_asm) ?_)))
local macro_rules | `(tactic| walk_at "call type:list") => `(tactic| (k_here; (with_reducible show wpAny _ _ (call (Value.type _) [Value.ref _]) _ _ _); (rename IsRange _ _ _ _ _ _ _ _ => rgX); (with_unfolding_all refine' kll_range (n := 16) ?k0 ?k1 ?k2 ?k3 ?k4 ?k5 ?k6 ?_; (case k0 => rfl); (case k1 => k_asm); (case k2 => k_asm); (case k3 => exact rgX); (case k4 => decide); (case k5 => rfl); (case k6 => decide); k_whole); intro D' vs' c' h' tk' F' N' l1 hI'; (try k_lt l1); (try k_sweep)))
local macro_rules | `(tactic| k_all) => `(tactic| (rename ∀ p, p ∈ _ → _ < _ => hq; intro p hp; refine neN ?_; have hq2 := ltN (hq p hp); omega))
local macro_rules | `(tactic| k_all) => `(tactic| (rename ∀ p, p ∈ _ → CO _ _ => hq; intro p hp; (obtain ⟨qa, qb, qc, qd, qe⟩ := hq p hp); first | exact qa | exact qb | exact qc | exact qd | exact qe))
local macro_rules | `(tactic| k_all) => `(tactic| ((refine List.forall_mem_cons.mpr ⟨by k_ne, ?_⟩); k_all))
local macro_rules | `(tactic| walk_at "eval ListComp") => `(tactic| (k_here; k_dflt (refine LCg.ListComp_U (F₀ := by k_asm) (by with_unfolding_all rfl) (by decide) (by rfl) (by decide) (by rfl) (as_U ?_))))
local macro_rules | `(tactic| walk_at "exec Assign cons ListComp") => `(tactic| (k_here; refine wpAny_Assign_Name ?_))
local macro_rules | `(tactic| walk_at "exec Assign cons ListComp") => `(tactic| (k_here; lct_look; k_dflt (refine LCt.Assign_ListComp_T (F₀ := by k_asm) (by rfl) (by with_unfolding_all rfl) (by with_unfolding_all rfl) (by decide) (by rfl) (by decide) (by rfl) (by rfl) (by rfl) (as_T ?_))))
local macro_rules | `(tactic| walk_at "exec For Name Name cons nil") => `(tactic| (k_here; k_dflt (refine for_led (by k_asm) ?_)))
theorem told_ctr (w : World) (ls : Addr) (ns : Nat) (s0 s1 s2 s3 kind : Int) (u0 u1 u2 u3 t : Tok) (news : List (Addr × Obj)) (hls : (ls, W.listOf (List.toArray [.int s0 u0, .int s1 u1, .int s2 u2, .int s3 u3]) ns) ∈ news) (hr : ∀ v ∈ [s0, s1, s2, s3], 0 ≤ v ∧ v < 16) (hk0 : 0 ≤ kind) (hk2 : kind < 3) :
    Ctr w 224 [.ref ls, .int kind t] [] news 40 (fun r n => ∃ b its nb, r = .ref b ∧ (b, W.listOf its.toArray nb) ∈ n ∧ IntsAre its (toldN [s0, s1, s2, s3] kind 16) ∧ ∀ p ∈ news, p ∈ n) := by
  unfold Ctr PP
  k_fill
  intro mean mg mb dp un gd cn cs a ccd cl outer A₀ base h₀ L m s Q E B F X N T hk hdp hu hret
  have hi : IntsAre [.int s0 u0, .int s1 u1, .int s2 u2, .int s3 u3] [s0, s1, s2, s3] := .cons _ _ (.cons _ _ (.cons _ _ (.cons _ _ .nil)))
  refine wpAny_call ?_
  k_dflt (refine' code_defC ?k1 ?k2 ?k3 ?k4 ?k5 ?kA ?kF ?kK ?k6 ?k7 ?k8 ?k9 ?kB ?kD ?_ ?c2 ?c3 ?c4; (case kA | kF => rfl); (case kK => assumption); (case k1 | k2 | k3 | k4 | k5 => k_asm); (case k6 | k7 => k_is); (case k8 => ktr_room); (case k9 => exact BindsTo.of_eq rfl); (case kD => decide +kernel); (case kB | c2 | c3 | c4 => rfl); k_whole)
  intro g L2 h2 tk2 cells2 FG2 F2 N2 Y2 B2 X2 T2 l2
  k_cells Y2
  rename_i p5 p4 p3 p2 p1 d5 d4 d3 d2 d1
  (try simp only [List.cons_append, List.nil_append] at N2); (try dsimp only); (try k_fold)
  k_steps
  rename Fr _ _ _ _ => FF
  rename News _ _ _ _ => NN
  rename ∀ p, p ∈ news → _ < _ => hlt
  rename IntsAre _ (rangeKs 0 16) => hleft
  rename IsRange _ _ _ _ _ _ _ _ => rgX
  have hlt2 := fun p hp => ltN (hlt p hp)
  replace NN := news_ord NN
  refine ⟨_, 0, 16, _, _, _, 16, _, _, ToJ L2 ls news kind (toldN [s0, s1, s2, s3] kind), rfl, rfl, rgX, by decide, rfl, FF, NN, ?_, ?_, ?_⟩
  · rename _ = Data.cell (some (Value.ref _)) => d2'
    refine ⟨_, _, _, _, _, _, _, _, _, _, _, t, _, _, _, _, rfl, d5, d4, d3, d2', ?_, .tail _ (.head _), ?_, .head _, hleft, fun p hp => .tail _ (.tail _ hp), ?_, by with_unfolding_all rfl, by with_unfolding_all rfl⟩
    · exact d1.trans (by with_unfolding_all rfl)
    · unfold oddT
      repeat (first | exact .nil | refine .cons _ _ ?_)
    · rintro p hp
      rcases List.mem_cons.mp hp with rfl | hp
      · exact ⟨by k_ne, by k_ne, by k_ne, by k_ne, by k_ne⟩
      · rcases List.mem_cons.mp hp with rfl | hp
        · exact ⟨by k_ne, by k_ne, by k_ne, by k_ne, by k_ne⟩
        · have := hlt2 p hp
          exact ⟨by k_ne, by k_ne, by k_ne, by k_ne, by k_ne⟩
  · rintro i v m₁ nx h tk own hi16 ⟨tv, rfl⟩ ⟨o1, o2, o3, o4, o5, lo, ov, on, b, its, nb, t, x3, x4, x5, rest, rfl, e5, e4, e3, e2, e1, hlo, hov, hb, hits, hsub, hco, hml, hms⟩ hoff hoc F₁ N₁
    have F₂ := fr_st ((Str.ofString "left", .ref b) :: (Str.ofString "sets", .ref ls) :: []) F₁ (by simp only [List.forall_mem_cons]; exact ⟨hml, hms, fun _ h => absurd h List.not_mem_nil⟩)
    have hall := co_own hco hoff
    simp only [List.cons_append] at N₁
    clear F₁ FF NN rgX
    refine wpAny_assign_Name ?_
    k_steps
    (try clear N₁ F₂)
    clear d1 d2 d3 d4 d5 p1 p2 p3 p4 p5
    · rename Fr _ _ _ _ => F3
      rename News _ _ _ _ => N3
      refine LCg.CompSrc.ledger (its := List.toArray [.int s0 u0, .int s1 u1, .int s2 u2, .int s3 u3]) (k := ns) rfl F3 N3 (up5 (hsub _ hls)) (by rw [sizeLine_eq]; exact Nat.le_of_ble_eq_true rfl) fun g4 => ?_
      refine intsU (fun one => oddF (Builtin.bitAnd (0 + (i : Int)) one)) hi ?_ ?_
      · intro k t I oI C oC D ys m4 h4 tk4 E4 hk hC hx F4 N4 off ne
        k_steps
        obtain ⟨⟨b1, b2⟩, _⟩ := bits_lt (u := 0 + (i : Int)) (v := k) (by omega) (by omega) (hr k hk).1 (hr k hk).2
        generalize Builtin.bitAnd (0 + (i : Int)) k = j at b1 b2 ⊢
        refine item_anyK (News.isList (by assumption) (.tail _ (.tail _ (.tail _ (up5 hlo))))) hov b1 b2 (by omega) fun t9 => ?_
        k_steps
        exact LCg.CompEnd.intro (by assumption) (by assumption) _ (fun _ h => h) off (.inr ⟨_, up5 (hsub _ hls), rfl, ns, rfl⟩) ⟨rfl, t9, rfl⟩
      · intro ys hys D h5 tk5 F5 N5 off
        clear F3 N3
        have hoff3 := off1_mem off
        simp only [LCg.Off1] at off
        k_steps
        · rename Fr _ _ _ _ => F6
          rename News _ _ _ _ => N6
          have hlen := hits.length
          have hlt3 := (toldN_sub [s0, s1, s2, s3] kind i).length_le
          rw [rangeKs_length] at hlt3
          refine LCt.CompSrcT.ledger (its := its.toArray) (k := nb) rfl F6 N6 (.tail _ (up5 hb)) (by rw [sizeLine_eq, List.size_toArray]; omega) fun g6 => ?_
          refine intsT (fun one => decide (oddF (Builtin.bitAnd (0 + (i : Int)) one) = (seenT [s0, s1, s2, s3] (0 + (i : Int))).getD 0 0)) (fun one => one) hits ?_ ?_
          · intro k t I oI C oC D6 ys6 m4 h4 tk4 E4 hk hC hx F4 N4 off4 ne
            have ⟨hk0, hk16⟩ := mem_rangeKs ((toldN_sub [s0, s1, s2, s3] kind i).subset hk)
            k_steps
            obtain ⟨⟨b1, b2⟩, _⟩ := bits_lt (u := 0 + (i : Int)) (v := k) (by omega) (by omega) (by omega) (by omega)
            generalize Builtin.bitAnd (0 + (i : Int)) k = j at b1 b2 ⊢
            refine item_anyK (News.isList N4 (.tail _ (.tail _ (.tail _ (.tail _ (up5 hlo)))))) hov b1 b2 (by omega) fun t9 => ?_
            k_steps
            · exact LCg.CompEnd.intro (by assumption) (by assumption) _ (fun _ h => h) off4 (.inr ⟨_, .tail _ (up5 hb), rfl, nb, rfl⟩) ⟨rfl, decide_eq_true (by rename _ = _ => ha; exact ha), t, rfl⟩
            · exact LCg.CompEnd.intro (by assumption) (by assumption) _ (fun _ h => h) off4 (.inr ⟨_, .tail _ (up5 hb), rfl, nb, rfl⟩) ⟨rfl, decide_eq_false (by rename _ ≠ _ => ha; exact ha)⟩
          · intro ys7 hys7 D7 h7 tk7 F7 N7 off7
            clear F6 N6
            have hoff7 := off1_mem off7
            k_steps
            refine to_turn [(D7, LCg.lst ys7)] (by assumption) (by assumption) (fun p hp => .tail _ (.tail _ (List.mem_append_left (rest ++ own) hp))) (fun p hp => by rw [List.mem_singleton.mp hp]; exact .head _) (fun p hp => .tail _ (.tail _ (up5' hp))) (fun p hp => by rw [List.mem_singleton.mp hp]; exact ⟨co_off (pre := [(D, LCg.lst ys)]) hoff7, fun q hq => hoff7 q (.tail _ (up5' hq))⟩) hall (own_rest hoff) e5 (by assumption) (by assumption) e2 e1 hlo hov (.head _) ?_ hsub (by with_unfolding_all rfl) (by with_unfolding_all rfl)
            rename kind = 2 => hkd
            rename ∀ a, a ∈ _ → _ ≤ a => lo1
            rename ∀ a, a ∈ _ → a ≤ _ => hi1
            rename (_ : Int) = _ => hM
            rw [← hM] at hi1
            rw [toldN_succ, turnT, if_pos hkd, if_pos (show ∀ v ∈ seenT [s0, s1, s2, s3] (0 + (i : Int)), v = (seenT [s0, s1, s2, s3] (0 + (i : Int))).getD 0 0 from all_eq lo1 hi1 (show 0 < (seenT [s0, s1, s2, s3] (0 + (i : Int))).length by unfold seenT; simp))]
            simpa only [List.map_id'] using hys7
        · rename Fr _ _ _ _ => F6
          rename News _ _ _ _ => N6
          refine to_turn [] F6 N6 (fun p hp => .tail _ (List.mem_append_left (rest ++ own) hp)) (fun p hp => absurd hp List.not_mem_nil) (fun p hp => .tail _ (up5' hp)) (fun p hp => absurd hp List.not_mem_nil) hall (own_rest hoff) e5 (by assumption) (by assumption) e2 e1 hlo hov hb ?_ hsub (by with_unfolding_all rfl) (by with_unfolding_all rfl)
          rename_i M1 _ _ ha1 hb1 _ M2 _ _ ha2 hb2 hne
          rename kind = 2 => hkd
          rw [toldN_succ, turnT, if_pos hkd, if_neg (fun hA : ∀ v ∈ seenT [s0, s1, s2, s3] (0 + (i : Int)), v = (seenT [s0, s1, s2, s3] (0 + (i : Int))).getD 0 0 => hne ((hA _ ha1).trans (hA _ ha2).symm))]
          exact hits
    · rename Fr _ _ _ _ => F3
      rename News _ _ _ _ => N3
      refine LCt.CompSrcT.ledger (its := List.toArray [.int s0 u0, .int s1 u1, .int s2 u2, .int s3 u3]) (k := ns) rfl F3 N3 (up5 (hsub _ hls)) (by rw [sizeLine_eq]; exact Nat.le_of_ble_eq_true rfl) fun g4 => ?_
      refine intsT (keepP kind (0 + (i : Int))) (fun one => Builtin.bitXor one (15 * kind)) hi ?_ ?_
      · intro k t I oI C oC D ys m4 h4 tk4 E4 hk hC hx F4 N4 off ne
        k_steps
        · exact LCg.CompEnd.intro (by assumption) (by assumption) _ (fun _ h => h) off (.inr ⟨_, up5 (hsub _ hls), rfl, ns, rfl⟩) ⟨rfl, decide_eq_true (by rename _ = _ => ha; exact ha), _, rfl⟩
        · exact LCg.CompEnd.intro (by assumption) (by assumption) _ (fun _ h => h) off (.inr ⟨_, up5 (hsub _ hls), rfl, ns, rfl⟩) ⟨rfl, decide_eq_false (by rename _ ≠ _ => ha; exact ha)⟩
      · intro ys hys D h5 tk5 F5 N5 off
        clear F3 N3
        have hoff3 := off1_mem off
        simp only [LCg.Off1] at off
        change IntsAre ys (havingT [s0, s1, s2, s3] kind (0 + (i : Int))) at hys
        generalize hhs : havingT [s0, s1, s2, s3] kind (0 + (i : Int)) = hs at hys
        k_steps
        all_goals
          rename Fr _ _ _ _ => F6
          rename News _ _ _ _ => N6
          rename decide (hs = []) = _ => hnil
          rename _ = Data.cell (some (Value.int _ _)) => d5
          replace N6 : News _ _ _ _ := fun p hp => N6 p (.tail _ hp)
          first
            | rw [show (16 : Int) = (if hs = [] then (16 : Int) else 15) from (if_pos (of_decide_eq_true hnil)).symm] at d5
            | rw [show (15 : Int) = (if hs = [] then (16 : Int) else 15) from (if_neg (of_decide_eq_false hnil)).symm] at d5
          generalize hc0 : (if hs = [] then (16 : Int) else 15) = c0 at d5
          have hoD := (N6 _ (.head _)).1
          refine ⟨D, ys, LCg.lst ys, _, _, CoJ L2 ls b D (LCg.lst ys) _ hs c0, rfl, trivial, rfl, hoD, rfl, ⟨_, rfl⟩, Heap.lt_size hoD, F6, N6, ⟨_, _, rfl, d5, by with_unfolding_all rfl, by with_unfolding_all rfl, by with_unfolding_all rfl⟩, .inr ?_, ?_, ?_⟩
          · rintro j m nx ⟨_, _, rfl, _⟩
            exact .head _
          · rintro j y m₂ nx2 h2 tk2 own2 hy ⟨o5', tt, rfl, e5', hmh, hml2, hms2⟩ hoff2 hoc2 F7 N7
            obtain ⟨v, tv2, rfl, hv⟩ := ints_get hys hy
            have F8 := fr_st ((Str.ofString "having", .ref D) :: (Str.ofString "left", .ref b) :: (Str.ofString "sets", .ref ls) :: []) F7 (by simp only [List.forall_mem_cons]; exact ⟨hmh, hml2, hms2, fun _ h => absurd h List.not_mem_nil⟩)
            simp only [List.cons_append, List.append_assoc] at N7
            have hall2 := co_own2 hall hoff2
            clear F7 F6 N6
            refine wpAny_assign_Name ?_
            k_steps
            rename _ = Data.cell (some (Value.int (Builtin.bitAnd _ _) _)) => d6
            rw [fold_snoc (f := Builtin.bitAnd) (c0 := c0) hv] at d6
            refine TurnEnd.intro _ (by assumption) (by assumption) ?_ own_up ?_ ⟨_, _, rfl, d6, by with_unfolding_all rfl, by with_unfolding_all rfl, by with_unfolding_all rfl⟩
            · exact fun p hp => up6r hp rest_up
            · exact hoff2
          · rintro m₂ nx2 h2 tk2 ⟨o5', tt, rfl, e5', hmh, hml2, hms2⟩ F7 N7
            rw [hys.length, List.take_length] at e5'
            have F8 := fr_st ((Str.ofString "having", .ref D) :: (Str.ofString "left", .ref b) :: (Str.ofString "sets", .ref ls) :: []) F7 (by simp only [List.forall_mem_cons]; exact ⟨hmh, hml2, hms2, fun _ h => absurd h List.not_mem_nil⟩)
            generalize hcc : hs.foldl Builtin.bitAnd c0 = c at e5'
            clear F7 F6 N6
            k_steps
            rename Fr _ _ _ _ => F6
            rename News _ _ _ _ => N6
            have hlen := hits.length
            have hlt3 := (toldN_sub [s0, s1, s2, s3] kind i).length_le
            rw [rangeKs_length] at hlt3
            refine LCt.CompSrcT.ledger (its := its.toArray) (k := nb) rfl F6 N6 (.tail _ (up5 hb)) (by rw [sizeLine_eq, List.size_toArray]; omega) fun g6 => ?_
            refine intsT (passP kind (0 + (i : Int)) c) (fun one => one) hits ?_ ?_
            · intro k t I oI C oC D6 ys6 m4 h4 tk4 E4 hk hC hx F4 N4 off4 ne
              k_steps
              · exact LCg.CompEnd.intro (by assumption) (by assumption) _ (fun _ h => h) off4 (.inr ⟨_, .tail _ (up5 hb), rfl, nb, rfl⟩) ⟨rfl, by rename _ ≠ _ => ha; rw [passP, keepP, decide_eq_false ha]; rfl, _, rfl⟩
              · exact LCg.CompEnd.intro (by assumption) (by assumption) _ (fun _ h => h) off4 (.inr ⟨_, .tail _ (up5 hb), rfl, nb, rfl⟩) ⟨rfl, by rename (_ : Int) = _ => ha; rw [passP, decide_eq_true ha, Bool.or_true], _, rfl⟩
              · exact LCg.CompEnd.intro (by assumption) (by assumption) _ (fun _ h => h) off4 (.inr ⟨_, .tail _ (up5 hb), rfl, nb, rfl⟩) ⟨rfl, by rename (_ : Int) ≠ _ => ha2; rename (_ : Int) = _ => ha; rw [passP, keepP, decide_eq_true ha, decide_eq_false ha2]; rfl⟩
            · intro ys7 hys7 D7 h7 tk7 F9 N9 off7
              clear F6 N6
              have hoff7 := off1_mem off7
              k_steps
              refine to_turn [(D7, LCg.lst ys7)] (by assumption) (by assumption) (fun p hp => .tail _ (.tail _ (List.mem_append_left (rest ++ own) hp))) (fun p hp => by rw [List.mem_singleton.mp hp]; exact .head _) (fun p hp => .tail _ (.tail _ (up5' hp))) (fun p hp => by rw [List.mem_singleton.mp hp]; exact ⟨co_off (pre := [(D, LCg.lst ys)]) hoff7, fun q hq => hoff7 q (.tail _ (up5' hq))⟩) hall (own_rest hoff) e5' e4 (by assumption) e2 e1 hlo hov (.head _) ?_ hsub (by with_unfolding_all rfl) (by with_unfolding_all rfl)
              rename kind ≠ 2 => hkd
              rw [toldN_succ, turnT, if_neg hkd, hhs, commonT, hc0, hcc]
              simpa only [List.map_id'] using hys7
  · rintro m₁ nx h tk ⟨o1, o2, o3, o4, o5, lo, ov, on, b, its, nb, t, x3, x4, x5, rest, rfl, e5, e4, e3, e2, e1, hlo, hov, hb, hits, hsub, hco, hml, hms⟩ F₁ N₁
    have F₂ := fr_st ((Str.ofString "left", .ref b) :: []) F₁ (by simp only [List.forall_mem_cons]; exact ⟨hml, fun _ h => absurd h List.not_mem_nil⟩)
    clear F₁ FF NN rgX
    k_steps
    exact hret _ _ _ _ (by k_asm) (by k_asm) ⟨b, its, nb, rfl, up5' hb, hits, fun p hp => up5' (hsub p hp)⟩
end
end Mine
end
section
open PySem PySem.W PyProof.Rows
namespace Mine
local macro_rules | `(tactic| walk_at "flush") => `(tactic| skip)
theorem flushMCompC {prog : Program} {w : World} {A : Around} {Q : Flow → Shared → Prop} {E : Value → Shared → Prop} {s : Shared} {env : Env} (h : wpAny (model prog w) A (execs [] env) Q E s) : wpAny (model prog w) A (execs [] env) Q E s := by
  w_top off
  first | (walk1; fail) | exact h
end Mine
end
section
open PySem PySem.W PyProof.Rows PySem.Spec PySem.Calls PyProof.Rows.LCg PyProof.Rows.LCp
namespace Mine
set_option maxRecDepth 100000
set_option maxHeartbeats 4000000
section
variable {M : Model} {A : Around} {E : Value → Shared → Prop} {s : Shared}
/-- the frame of a comprehension that owns cells -/
theorem newEnv_cells {scope : Scope} {globals : Addr} {closure : List (Str × Addr)} {qual : Str} {func : Option Addr} {code : Value} {outer : Env} {builtins : Addr} {Q : Env → Shared → Prop}
    (hQ : Q { scope := scope, locals := s.heap.objs.size, globals := globals, cells := cellsFrom (s.heap.objs.size + 1) scope.names closure, qual := qual, func := func, code := outer.code, frame := outer.frame, builtins := outer.builtins }
      { s with heap := pushCells (s.heap.push { cls := .type "dict", data := .dict #[] }) scope.names }) :
    wpAny M A (newFunctionEnv scope globals closure [] qual func code (some outer) builtins) Q E s := by
  have grown : (s.heap.push { cls := .type "dict", data := .dict #[] }).objs.size = s.heap.objs.size + 1 := Heap.size_push ..
  simp only [newFunctionEnv, Option.isSome_some, if_true, List.forIn_nil]
  refine wpAny_bind (wpAny_alloc (wpAny_bind (wpAny_layCells _ ?lay _ _ _ _ ?rest)))
  case lay =>
    intro n k cs
    by_cases h : (k == NameKind.cell) = true <;> simp [h]
  case rest =>
    simp only [grown]
    exact wpAny_bind (wpAny_pure (wpAny_pure hQ))
end
section
variable {prog : Program} {w : World} {A : Around} {E : Value → Shared → Prop} {s : Shared} {h₀ : Heap} {L : Addr} {m : Str → Option Value} {env : Env}
theorem lookup_relabel_cell {env : Env} : ∀ {names : List (Str × NameKind)} {x : Str}, names.lookup x = some .cell →
    (names.map fun (n, k) => if (k == NameKind.free && env.scope.kind == .function && env.kindOf n == some .cell) then (n, NameKind.cell) else (n, k)).lookup x = some .cell
  | [], _, h => by simp at h
  | (n, k) :: r, x, h => by
    rw [List.map_cons]
    by_cases hx : (x == n) = true
    · rw [List.lookup_cons, hx] at h
      cases h
      simp [List.lookup_cons, hx]
    · have hx : (x == n) = false := by simpa using hx
      rw [List.lookup_cons, hx] at h
      have ih := lookup_relabel_cell (env := env) h
      dsimp only
      split
      · rw [List.lookup_cons, hx]; exact ih
      · rw [List.lookup_cons, hx]; exact ih
/-- what a comprehension with its target in a cell asks of its source -/
def SrcC (prog : Program) (w : World) (A : Around) (h₀ : Heap) (L : Addr) (m : Str → Option Value) (env : Env) (elt : Expr) (x : Str) (scope : Scope) (cl : List (Str × Addr)) (Fin : Shared → List Value → List (Addr × Obj) → Prop) (xv : Value) (s : Shared) : Prop :=
  ∃ (ax : Addr) (its : Array Value) (k : Nat) (news : List (Addr × Obj)) (Inv : Nat → List Value → Prop),
    xv = .ref ax ∧ A.handled = none ∧ Fr h₀ L s.heap m ∧ News h₀ L s.heap news ∧ (ax, ({ cls := .type "list", data := .seq its k } : Obj)) ∈ news ∧ its.size ≤ sizeLine ∧ Inv 0 [] ∧
    (∀ i v ys I oI K oK C oC D h tk (E' : Value → Shared → Prop), its[i]? = some v → Inv i ys → oK.data = .cell (some v) → Fr h₀ L h m → News h₀ L h ((I, oI) :: (K, oK) :: (C, oC) :: (D, lst ys) :: news) →
      ((@Ne Nat I K) ∧ (@Ne Nat I C) ∧ (@Ne Nat I D) ∧ (@Ne Nat K C) ∧ (@Ne Nat K D) ∧ (@Ne Nat C D)) →
      wpAny (model prog w) A (eval elt (compEnvC scope ((x, K) :: cl) C env)) (fun y s' => ∃ h' tk', s' = { s with heap := h', toks := tk' } ∧ Fr h₀ L h' m ∧ News h₀ L h' ((I, oI) :: (K, oK) :: (C, oC) :: (D, lst ys) :: news) ∧ Inv (i + 1) (ys ++ [y])) E' { s with heap := h, toks := tk }) ∧
    (∀ ys, Inv its.size ys → Fin s ys news)
theorem blockC {elt iter : Expr} {x : Str} {px : Pos} {scope : Scope} {cl : List (Str × Addr)} {pos : Pos} {ax : Addr} {its : Array Value} {k : Nat} {news : List (Addr × Obj)} {Inv : Nat → List Value → Prop} {RR : Value → Addr → Result → Shared → Prop}
    (hkind : scope.kind = .function) (hx : scope.names.lookup x = some .cell) (hcf : ∀ n, cellsFrom n scope.names cl = (x, n) :: cl) (hpc : ∀ h, pushCells h scope.names = h.push { cls := .type "cell", data := .cell none })
    (hh : A.handled = none) (F : Fr h₀ L s.heap m) (N : News h₀ L s.heap news) (hm : (ax, ({ cls := .type "list", data := .seq its k } : Obj)) ∈ news) (hsz : its.size ≤ sizeLine) (h0 : Inv 0 [])
    (step : ∀ i v ys I oI K oK C oC D h tk (E' : Value → Shared → Prop), its[i]? = some v → Inv i ys → oK.data = .cell (some v) → Fr h₀ L h m → News h₀ L h ((I, oI) :: (K, oK) :: (C, oC) :: (D, lst ys) :: news) →
      ((@Ne Nat I K) ∧ (@Ne Nat I C) ∧ (@Ne Nat I D) ∧ (@Ne Nat K C) ∧ (@Ne Nat K D) ∧ (@Ne Nat C D)) →
      wpAny (model prog w) A (eval elt (compEnvC scope ((x, K) :: cl) C env)) (fun y s' => ∃ h' tk', s' = { s with heap := h', toks := tk' } ∧ Fr h₀ L h' m ∧ News h₀ L h' ((I, oI) :: (K, oK) :: (C, oC) :: (D, lst ys) :: news) ∧ Inv (i + 1) (ys ++ [y])) E' { s with heap := h, toks := tk })
    (hRR : ∀ D C h tk ys, Fr h₀ L h m → News h₀ L h ((D, lst ys) :: news) → (∀ p ∈ news, p.1 ≠ D) → h.Ns C (fun _ => none) → h₀.get? C = none → C ≠ L → C ≠ D → (∀ p ∈ news, p.1 ≠ C) → Inv its.size ys → RR (.ref D) C (.ok .next) { s with heap := h, toks := tk }) :
    wpAny (model prog w) A (pyIter (.ref ax)) (fun it s₂ => wpAny (model prog w) A (newList []) (fun acc s₃ => wpAny (model prog w) A (newFunctionEnv scope env.globals cl [] env.qual none .none (some env)) (fun cenv s₄ =>
      codeAny (model prog w) A (.compStart (.ListComp elt [⟨.Name x px, iter, [], 0⟩] scope pos) 0 it acc { cenv with scope := relabel scope env }) (RR acc cenv.locals) s₄) E s₃) E s₂) E s := by
  have hl : s.heap.IsList ax its := ⟨_, (N _ hm).1, rfl, _, rfl⟩
  have hax : ax < s.heap.objs.size := Heap.lt_size (N _ hm).1
  refine wpAny_pyIter_list hl ?_
  refine wpAny_newObj_type ?_
  refine newEnv_cells ?_
  dsimp only
  rw [hcf, hpc]
  have W := Walks.list (prog := prog) (w := w) hh s.heap.objs.size ax (Nat.ne_of_lt hax) its
  generalize hH : (((s.heap.push { cls := .type "list_iterator", data := .fields #[.ref ax, .int 0 0] }).push { cls := .type "list", data := .seq ([] : List Value).toArray }).push { cls := .type "dict", data := .dict #[] }).push { cls := .type "cell", data := .cell none } = H
  simp only [Heap.size_push]
  generalize hS : s.heap.objs.size = S at W hax ⊢
  have gI : H.get? S = some { cls := .type "list_iterator", data := .fields #[.ref ax, .int 0 0] } := by
    rw [← hH, ← hS]; exact Heap.get?_push_of_some _ (Heap.get?_push_of_some _ (Heap.get?_push_of_some _ (Heap.get?_push_size _ rfl)))
  have gD : H.get? (S + 1) = some (lst []) := by
    have e : S + 1 = (s.heap.push { cls := .type "list_iterator", data := .fields #[.ref ax, .int 0 0] }).objs.size := by rw [Heap.size_push, hS]
    rw [← hH, e]; exact Heap.get?_push_of_some _ (Heap.get?_push_of_some _ (Heap.get?_push_size _ rfl))
  have gC : H.get? (S + 1 + 1) = some { cls := .type "dict", data := .dict #[] } := by
    have e : S + 1 + 1 = ((s.heap.push { cls := .type "list_iterator", data := .fields #[.ref ax, .int 0 0] }).push { cls := .type "list", data := .seq ([] : List Value).toArray }).objs.size := by rw [Heap.size_push, Heap.size_push, hS]
    rw [← hH, e]; exact Heap.get?_push_of_some _ (Heap.get?_push_size _ rfl)
  have gK : H.get? (S + 1 + 1 + 1) = some { cls := .type "cell", data := .cell none } := by
    have e : S + 1 + 1 + 1 = (((s.heap.push { cls := .type "list_iterator", data := .fields #[.ref ax, .int 0 0] }).push { cls := .type "list", data := .seq ([] : List Value).toArray }).push { cls := .type "dict", data := .dict #[] }).objs.size := by rw [Heap.size_push, Heap.size_push, Heap.size_push, hS]
    rw [← hH, e]; exact Heap.get?_push_size _ rfl
  have old : ∀ b o, s.heap.get? b = some o → H.get? b = some o := fun b o e => by
    rw [← hH]; exact Heap.get?_push_of_some _ (Heap.get?_push_of_some _ (Heap.get?_push_of_some _ (Heap.get?_push_of_some _ e)))
  have fresh₀ : ∀ a, S ≤ a → h₀.get? a = none := fun a ha => by
    cases e : h₀.get? a with
    | none => rfl
    | some o => exact absurd (Heap.lt_size (F.keep a o e)) (Nat.not_lt.mpr (hS ▸ ha))
  have hLS : L < S := hS ▸ F.ns.lt
  have hnS : ∀ p ∈ news, p.1 < S := fun p hp => hS ▸ Heap.lt_size (N p hp).1
  have d0 := ltN hLS
  have d1 : ∀ p ∈ news, ∀ j, S ≤ j → p.1 ≠ j := fun p hp j hj => by have := ltN (hnS p hp); exact neN (by intro e; rw [e] at this; exact absurd (Nat.lt_of_lt_of_le this hj) (Nat.lt_irrefl _))
  clear hH
  have hN0 : News h₀ L H ((S + 1 + 1 + 1, { cls := .type "cell", data := .cell none }) :: (S + 1 + 1, { cls := .type "dict", data := .dict #[] }) :: (S + 1, lst []) :: news) := by
    intro p hp
    rcases List.mem_cons.mp hp with rfl | hp
    · exact ⟨gK, neN (by dsimp only; omega), fresh₀ _ (by dsimp only; omega)⟩
    · rcases List.mem_cons.mp hp with rfl | hp
      · exact ⟨gC, neN (by dsimp only; omega), fresh₀ _ (by dsimp only; omega)⟩
      · rcases List.mem_cons.mp hp with rfl | hp
        · exact ⟨gD, neN (by dsimp only; omega), fresh₀ _ (by dsimp only; omega)⟩
        · exact ⟨old _ _ (N p hp).1, (N p hp).2⟩
  have loop : codeAny (model prog w) A (.compLoop (.ListComp elt [⟨.Name x px, iter, [], 0⟩] scope pos) 0 (.ref S) (.ref (S + 1)) (compEnvC scope ((x, S + 1 + 1 + 1) :: cl) (S + 1 + 1) env)) (RR (.ref (S + 1)) (S + 1 + 1)) { s with heap := H } := by
    refine codeAny_compLoop_tests
      (fun j s' => ∃ h' tk i ys oK vK, s' = { s with heap := h', toks := tk } ∧ i ≤ its.size ∧ j = its.size + 1 - i ∧ ys.length = i ∧ (h'.IsListIter S ax i ∧ h'.IsList ax its) ∧ Fr h₀ L h' m ∧
        News h₀ L h' ((S + 1 + 1 + 1, oK) :: (S + 1 + 1, { cls := .type "dict", data := .dict #[] }) :: (S + 1, lst ys) :: news) ∧ oK.data = .cell vK ∧ Inv i ys) ?_ (its.size + 1)
      ⟨H, s.toks, 0, [], _, none, rfl, Nat.zero_le _, rfl, rfl, ⟨⟨_, gI, rfl, rfl⟩, hl.at fun o e => old _ _ e⟩, F.keeps old, hN0, rfl, h0⟩
    rintro j s' ⟨h', tk, i, ys, oK, vK, rfl, hi, rfl, hyl, hst', F', N', hK, hI⟩
    have offI : ∀ p ∈ ((S + 1 + 1 + 1, oK) :: (S + 1 + 1, ({ cls := .type "dict", data := .dict #[] } : Obj)) :: (S + 1, lst ys) :: news), p.1 ≠ S := by
      intro p hp
      rcases List.mem_cons.mp hp with rfl | hp
      · exact neN (by dsimp only; omega)
      · rcases List.mem_cons.mp hp with rfl | hp
        · exact neN (by dsimp only; omega)
        · rcases List.mem_cons.mp hp with rfl | hp
          · exact neN (by dsimp only; omega)
          · exact d1 p hp S (Nat.le_refl _)
    by_cases hlt : i < its.size
    · refine W.item i _ _ _ hlt hst' fun v h₂ tk₂ hPv hst₂ hk₂ => ?_
      have F₂ := fr_but F' hk₂ (neN (by omega)) (fresh₀ S (Nat.le_refl _))
      have N₂ := news_but N' hk₂ offI
      refine wpAny_assign_Name (wpAny_storeName_cell (c := S + 1 + 1 + 1) (v₀ := vK) hkind (lookup_relabel_cell hx) (by simp [compEnvC]) ⟨oK, (N₂ _ (.head _)).1, hK⟩ fun h₃ hc₃ hs₃ => ?_)
      refine wpAny_tests_nil ?_
      simp only [if_true]
      obtain ⟨oK', hK₃, hd₃⟩ := hc₃
      obtain ⟨oI, heI, _⟩ := hst₂.1
      have F₃ := F₂.change hs₃ (neN (by omega)) (fresh₀ _ (by omega))
      have N₃ : News h₀ L h₃ ((S, oI) :: (S + 1 + 1 + 1, oK') :: (S + 1 + 1, { cls := .type "dict", data := .dict #[] }) :: (S + 1, lst ys) :: news) := by
        intro p hp
        rcases List.mem_cons.mp hp with rfl | hp
        · exact ⟨hs₃.extBut _ _ (neN (by dsimp only; omega)) heI, neN (by dsimp only; omega), fresh₀ _ (Nat.le_refl _)⟩
        · rcases List.mem_cons.mp hp with rfl | hp
          · exact ⟨hK₃, neN (by dsimp only; omega), fresh₀ _ (by dsimp only; omega)⟩
          · have z := N₂ p (.tail _ hp)
            refine ⟨hs₃.extBut _ _ ?_ z.1, z.2⟩
            rcases List.mem_cons.mp hp with rfl | hp
            · exact neN (by dsimp only; omega)
            · rcases List.mem_cons.mp hp with rfl | hp
              · exact neN (by dsimp only; omega)
              · exact d1 p hp _ (by omega)
      refine wpAny_mono (step i v ys S oI (S + 1 + 1 + 1) oK' (S + 1 + 1) _ (S + 1) h₃ _ _ hPv hI hd₃ F₃ N₃ ⟨by omega, by omega, by omega, by omega, by omega, by omega⟩) (fun y s₄ h₄ => ?_) fun _ _ e => e
      obtain ⟨h₄, tk₄, rfl, F₄, N₄, hI₄⟩ := h₄
      have hst₄ : h₄.IsListIter S ax (i + 1) ∧ h₄.IsList ax its := by
        refine ⟨hst₂.1.at fun o e => ?_, ⟨_, (N₄ _ (.tail _ (.tail _ (.tail _ (.tail _ hm))))).1, rfl, _, rfl⟩⟩
        rw [heI] at e
        cases e
        exact (N₄ _ (.head _)).1
      have zD := (N₄ _ (.tail _ (.tail _ (.tail _ (.head _))))).1
      refine append_at (hsz := by show ys.toArray.size ≤ sizeLine; rw [List.size_toArray, hyl]; exact Nat.le_trans hi hsz) zD fun h₅ hs₅ hD₅ => ?_
      refine ⟨its.size + 1 - (i + 1), by omega, h₅, tk₄, i + 1, ys ++ [y], oK', some v, rfl, hlt, rfl, by rw [List.length_append, List.length_singleton, hyl], ⟨hst₄.1.at fun o e => hs₅.extBut S o (neN (by omega)) e, hst₄.2.at fun o e => hs₅.extBut ax o (neN (by have := ltN hax; omega)) e⟩, F₄.change hs₅ (neN (by omega)) (fresh₀ _ (by omega)), fun p hp => ?_, hd₃, hI₄⟩
      rcases List.mem_cons.mp hp with rfl | hp
      · have z := N₄ _ (.tail _ (.head _))
        exact ⟨hs₅.extBut _ _ (neN (by dsimp only; omega)) z.1, z.2⟩
      · rcases List.mem_cons.mp hp with rfl | hp
        · have z := N₄ _ (.tail _ (.tail _ (.head _)))
          exact ⟨hs₅.extBut _ _ (neN (by dsimp only; omega)) z.1, z.2⟩
        · rcases List.mem_cons.mp hp with rfl | hp
          · exact ⟨hD₅.trans (congrArg some (lst_snoc ys y)), neN (by dsimp only; omega), fresh₀ _ (by dsimp only; omega)⟩
          · have z := N₄ _ (.tail _ (.tail _ (.tail _ (.tail _ hp))))
            exact ⟨hs₅.extBut _ _ (d1 p hp _ (by omega)) z.1, z.2⟩
    · obtain rfl : i = its.size := by omega
      refine W.done _ _ _ hst' fun h₂ tk₂ hk₂ => ?_
      have F₂ := fr_but F' hk₂ (neN (by omega)) (fresh₀ S (Nat.le_refl _))
      have N₂ := news_but N' hk₂ offI
      exact hRR _ _ h₂ tk₂ ys F₂ (fun p hp => N₂ p (.tail _ (.tail _ hp))) (fun p hp => d1 p hp _ (by omega)) ⟨_, #[], 0, (N₂ _ (.tail _ (.head _))).1, rfl, fun _ he => by simp at he, fun _ => rfl⟩ (fresh₀ _ (by omega)) (neN (by omega)) (neN (by omega)) (fun p hp => d1 p hp _ (by omega)) hI
  exact codeAny_compStart_list loop (W.self 0 _ _ _ ⟨⟨_, gI, rfl, rfl⟩, hl.at fun o e => old _ _ e⟩ loop)
theorem off1_of {D : Addr} : ∀ {l : List (Addr × Obj)}, (∀ p ∈ l, p.1 ≠ D) → Off1 D l
  | [], _ => trivial
  | p :: _, h => ⟨h p (.head _), off1_of fun q hq => h q (.tail _ hq)⟩
/-- a comprehension's frame C is let go: what stands beside it stands on -/
theorem let_go {C : Addr} {h h' : Heap} {nw : List (Addr × Obj)} (same : Heap.SameBut C h h') (F : Fr h₀ L h m) (N : News h₀ L h nw) (hL : C ≠ L) (h0 : h₀.get? C = none) (off : ∀ p ∈ nw, p.1 ≠ C) : Fr h₀ L h' m ∧ News h₀ L h' nw :=
  ⟨kas_fr F same hL h0, kas_news N same off⟩
theorem off_cons {C D : Addr} {o : Obj} {nw : List (Addr × Obj)} (h : C ≠ D) (off : ∀ p ∈ nw, p.1 ≠ C) : ∀ p ∈ (D, o) :: nw, p.1 ≠ C := List.forall_mem_cons.mpr ⟨h.symm, off⟩
/-- `y = [..]`: the block runs, and y is stored in it -/
theorem assign_comp {elt iter : Expr} {x y : Str} {px py : Pos} {scope : Scope} {cl : List (Str × Addr)} {pos spos : Pos} {Q : Flow → Shared → Prop}
    (hsw : swapsWith (.ListComp elt [⟨.Name x px, iter, [], 0⟩] scope pos) (some (.Name y py)) spos.line env = pure true) (hclos : closureFor scope env = pure cl) (hkind : scope.kind = .function)
    (hnames : ∀ z ∈ scope.names, z.2 = .local → scope.names.lookup z.1 = some .local) (hs : ∀ x, foldedSetIterable iter env x = pure x)
    (h : wpAny (model prog w) A (eval iter env) (fun xv s₁ => wpAny (model prog w) A (pyIter xv) (fun it s₂ => wpAny (model prog w) A (newList []) (fun acc s₃ =>
      wpAny (model prog w) A (newFunctionEnv scope env.globals cl [] env.qual none .none (some env)) (fun ce s₄ =>
        codeAny (model prog w) A (.compStart (.ListComp elt [⟨.Name x px, iter, [], 0⟩] scope pos) 0 it acc { ce with scope := relabel scope env })
          (compPost (model prog w) A E (some (assign (.Name y py) env)) (fun _ s' => Q .next s') acc ce.locals) s₄) E s₃) E s₂) E s₁) E s) :
    wpAny (model prog w) A (exec (.Assign [.Name y py] (.ListComp elt [⟨.Name x px, iter, [], 0⟩] scope pos) spos) env) Q E s := by
  have run := wpAny_comprehension_free (pos := firstIterPos [⟨.Name x px, iter, [], 0⟩] pos) rfl hs hclos hkind hnames h
  rw [exec_Assign_Name_used y py _ spos hsw]
  exact wpAny_bind (wpAny_standAt (wpAny_bind (wpAny_bind (wpAny_mono run (fun _ _ q => wpAny_pure (wpAny_pure q)) fun _ _ e => e))))
/-- the same for a target in a cell, over a list of the ledger -/
theorem assign_cell_comp {elt iter : Expr} {x y : Str} {px py : Pos} {scope : Scope} {cl : List (Str × Addr)} {pos spos : Pos} {Q : Flow → Shared → Prop} (_F₀ : Fr h₀ L s.heap m) (hLe : env.locals = L)
    (hsw : swapsWith (.ListComp elt [⟨.Name x px, iter, [], 0⟩] scope pos) (some (.Name y py)) spos.line env = pure true)
    (hclos : closureFor scope env = pure cl) (hkind : scope.kind = .function)
    (hnames : ∀ z ∈ scope.names, z.2 = .local → scope.names.lookup z.1 = some .local) (hx : scope.names.lookup x = some .cell)
    (hcf : ∀ n, cellsFrom n scope.names cl = (x, n) :: cl) (hpc : ∀ h, pushCells h scope.names = h.push { cls := .type "cell", data := .cell none })
    (hy : env.kindOf y = some .local) (hp : (env.scope.kind == .class || (env.scope.kind == .module && env.locals != env.globals)) = false)
    (h : wpAny (model prog w) A (eval iter env) (SrcC prog w A h₀ L m env elt x scope cl (fun s₂ => FinA h₀ L m s₂ y Q)) E s)
    (hs : ∀ x, foldedSetIterable iter env x = pure x := by intro _; rfl) :
    wpAny (model prog w) A (exec (.Assign [.Name y py] (.ListComp elt [⟨.Name x px, iter, [], 0⟩] scope pos) spos) env) Q E s := by
  subst hLe
  refine assign_comp hsw hclos hkind hnames hs (wpAny_mono h (fun xv s₁ src => ?_) fun _ _ e => e)
  obtain ⟨ax, its, k, news, Inv, rfl, hh, F, N, hm, hsz, h0, step, fin⟩ := src
  refine blockC hkind hx hcf hpc hh F N hm hsz h0 step fun D C h' tk ys F' N' oD ns hC₀ hCL hCD offC hI => ?_
  refine wpAny_assign_Name (wpAny_storeName_local hy F'.ns (fun h₂ ns₂ st => ⟨_, ns.sameBut st hCL, fun h₃ same => ?_⟩) hp)
  have out := let_go same (F'.set ns₂ st) (N'.set st) hCL hC₀ (off_cons hCD offC)
  exact fin ys hI D h₃ _ out.1 out.2 (off1_of oD)
end
end Mine
end
section
open PySem PySem.W PyProof.Rows
namespace Mine
local macro_rules | `(tactic| walk_at "flush") => `(tactic| skip)
theorem flushMCompE {prog : Program} {w : World} {A : Around} {Q : Flow → Shared → Prop} {E : Value → Shared → Prop} {s : Shared} {env : Env} (h : wpAny (model prog w) A (execs [] env) Q E s) : wpAny (model prog w) A (execs [] env) Q E s := by
  w_top off
  first | (walk1; fail) | exact h
end Mine
end
section
open PySem PySem.W PyProof.Rows PySem.Spec PySem.Calls PyProof.Rows.LCg PyProof.Rows.LCp
namespace Mine
set_option maxRecDepth 100000
set_option maxHeartbeats 4000000
theorem mk_os {P : Addr → Obj → Prop} : ∀ {ws : List Addr}, (∀ b ∈ ws, ∃ o, P b o) → ∃ os : List Obj, os.length = ws.length ∧ ∀ p ∈ ws.zip os, P p.1 p.2
  | [], _ => ⟨[], rfl, fun _ h => absurd h List.not_mem_nil⟩
  | b :: ws, h => by
    obtain ⟨o, ho⟩ := h b (.head _)
    obtain ⟨os, hl, hp⟩ := mk_os (ws := ws) fun c hc => h c (.tail _ hc)
    refine ⟨o :: os, by simp [hl], fun p q => ?_⟩
    rw [List.zip_cons_cons] at q
    rcases List.mem_cons.mp q with rfl | q
    · exact ho
    · exact hp p q
theorem zip_has : ∀ {ws : List Addr} {os : List Obj} {b : Addr}, os.length = ws.length → b ∈ ws → ∃ o, (b, o) ∈ ws.zip os
  | [], _, _, _, h => absurd h List.not_mem_nil
  | _ :: _, [], _, e, _ => by simp at e
  | c :: ws, o :: os, b, e, h => by
    rw [List.zip_cons_cons]
    rcases List.mem_cons.mp h with rfl | h
    · exact ⟨o, .head _⟩
    · obtain ⟨o', h'⟩ := zip_has (os := os) (by simpa using e) h
      exact ⟨o', .tail _ h'⟩
theorem zip_fst {ws : List Addr} {os : List Obj} {p : Addr × Obj} (h : p ∈ ws.zip os) : p.1 ∈ ws := (List.of_mem_zip (a := p.1) (b := p.2) h).1
section
variable {prog : Program} {w : World} {A : Around} {E : Value → Shared → Prop} {s : Shared} {h₀ : Heap} {L : Addr} {m : Str → Option Value} {env : Env}
/-- the end of a turn of a comprehension over pairs -/
def EndW (h₀ : Heap) (L : Addr) (m : Str → Option Value) (s : Shared) (ws : List Addr) (os : List Obj) (C : Addr) (oC : Obj) (D : Addr) (ys : List Value) (fpn : List (Addr × Obj)) (Inv : List (Addr × Obj) → Prop) (s' : Shared) : Prop :=
  ∃ h tk news, s' = { s with heap := h, toks := tk } ∧ Fr h₀ L h m ∧ News h₀ L h (ws.zip os ++ (C, oC) :: (D, lst ys) :: news) ∧ (∀ p ∈ fpn, p ∈ news) ∧ (∀ p ∈ news, p.1 ∉ ws ∧ p.1 ≠ C ∧ p.1 ≠ D) ∧ Inv news
theorem turnW {a b : Str} {pa pb tp : Pos} {kk : Nat} {scope : Scope} {cl : List (Str × Addr)} {I C D : Addr} {fp wr ws : List Addr} {n : Nat} {Pt : Nat → Array Value → Prop} {St : Nat → Heap → Prop} {Mid : Nat → Addr → Heap → Prop} {P2 : Nat → Value → Value → Prop}
    {i : Nat} {ys : List Value} {news fpn : List (Addr × Obj)} {h' : Heap} {tk : Nat} {m' : Str → Option Value} {R Kont : Shared → Prop} {E₁ E₂ : Value → Shared → Prop}
    (W : WalksT prog w A I fp wr n Pt St Mid) (hPt : ∀ i vals, Pt i vals → ∃ v₁ v₂, vals = #[v₁, v₂] ∧ P2 i v₁ v₂)
    (hwr : ∀ b ∈ wr, b ∈ ws) (hws : ∀ i h, St i h → ∀ b ∈ ws, ∃ o, h.get? b = some o) (hfp : ∀ b ∈ fp, b ∈ ws ∨ ∃ o, (b, o) ∈ fpn)
    (hkind : scope.kind = .function) (hxa : scope.names.lookup a = some .local) (hxb : scope.names.lookup b = some .local) (hab : ¬ a = b) (hh : A.handled = none)
    (hlt : i < n) (hst : St i h') (F : Fr h₀ L h' m) (hn : h'.Ns C m') (N : News h₀ L h' ((D, lst ys) :: news)) (hfn : ∀ p ∈ fpn, p ∈ news)
    (hwL : ∀ b ∈ ws, b ≠ L ∧ h₀.get? b = none ∧ b ≠ C ∧ b ≠ D) (hCL : C ≠ L) (hC₀ : h₀.get? C = none) (hCD : C ≠ D) (off : ∀ p ∈ news, p.1 ∉ ws ∧ p.1 ≠ C ∧ p.1 ≠ D)
    (K : ∀ h₄ tk₄ v₁ v₂ os oC m₂, P2 i v₁ v₂ → os.length = ws.length → NsObj oC m₂ → m₂ a = some v₁ → m₂ b = some v₂ → Fr h₀ L h₄ m → News h₀ L h₄ (ws.zip os ++ (C, oC) :: (D, lst ys) :: news) →
      (∀ h₅ rest, News h₀ L h₅ (ws.zip os ++ rest) → (∀ p ∈ fpn, p ∈ rest) → St (i + 1) h₅) → Kont { s with heap := h₄, toks := tk₄ }) :
    wpAny (model prog w) A (pyNext (.ref I)) (fun r s₁ => match r with
      | none => R s₁
      | some v => wpAny (model prog w) A (letOwnedTupleGo (.Tuple [.Name a pa, .Name b pb] kk tp) (.ref I) v) (fun _ s₀ => wpAny (model prog w) A (assign (.Tuple [.Name a pa, .Name b pb] kk tp) (compEnvC scope cl C env) v) (fun _ s₂ => Kont s₂) E₁ s₀) E₂ s₁) E { s with heap := h', toks := tk } := by
  refine W.item i _ _ _ hlt hst fun T vals h₂ tk₂ hP _ hT hM hk₂ => ?_
  obtain ⟨v₁, v₂, rfl, hP2⟩ := hPt i vals hP
  refine W.go _ _ _ i T _ _ _ hM fun h₃ hst₃ hk₃ => ?_
  have hT₃ : h₃.IsTuple T #[v₁, v₂] := hT.at fun o e => hk₃ T o (W.apart i T _ hM) e
  have up₃ : ∀ c o, c ∉ ws → h'.get? c = some o → h₃.get? c = some o := fun c o hc e => hk₃ c o (fun q => hc (hwr c q)) (hk₂ c o (fun q => hc (hwr c q)) e)
  have hCw : C ∉ ws := fun q => (hwL C q).2.2.1 rfl
  have hDw : D ∉ ws := fun q => (hwL D q).2.2.2 rfl
  have hLw : L ∉ ws := fun q => (hwL L q).1 rfl
  refine kcp_assign (env := compEnvC scope cl C env) hh hT₃ (lookup_relabel_local hxa) (lookup_relabel_local hxb) (by simp [compEnvC, relabel, hkind]) (hn.at' fun o e => up₃ _ o hCw e) fun h₄ tk₄ hn₄ hs₄ => ?_
  have up : ∀ c o, c ∉ ws → c ≠ C → h'.get? c = some o → h₄.get? c = some o := fun c o h1 h2 e => hs₄ c o h2 (up₃ c o h1 e)
  obtain ⟨os, hl, hos⟩ := mk_os (P := fun b o => h₄.get? b = some o) (ws := ws) fun b hb => by
    obtain ⟨o, ho⟩ := hws _ _ hst₃ b hb
    exact ⟨o, hs₄ b o (hwL b hb).2.2.1 ho⟩
  have hst₄ : St (i + 1) h₄ := by
    refine W.frame _ _ _ hst₃ fun b hb o e => hs₄ b o ?_ e
    rcases hfp b hb with q | ⟨o', q⟩
    · exact (hwL b q).2.2.1
    · exact (off _ (hfn _ q)).2.1
  obtain ⟨oC, heC, hoC⟩ := ns_obj hn₄
  have F₄ : Fr h₀ L h₄ m := ⟨F.ns.at' fun o e => up _ o hLw (Ne.symm hCL) e, fun c o e => up c o (fun q => by rw [(hwL c q).2.1] at e; cases e) (fun q => by rw [q, hC₀] at e; cases e) (F.keep c o e), F.above⟩
  have N₄ : News h₀ L h₄ (ws.zip os ++ (C, oC) :: (D, lst ys) :: news) := fun q hq => by
    rcases List.mem_append.mp hq with hq | hq
    · have hb := hwL _ (zip_fst hq)
      exact ⟨hos q hq, hb.1, hb.2.1⟩
    · rcases List.mem_cons.mp hq with rfl | hq
      · exact ⟨heC, hCL, hC₀⟩
      · have z := N q hq
        rcases List.mem_cons.mp hq with rfl | hq
        · exact ⟨up _ _ hDw (Ne.symm hCD) z.1, z.2⟩
        · exact ⟨up _ _ (off q hq).1 (off q hq).2.1 z.1, z.2⟩
  refine K h₄ tk₄ v₁ v₂ os oC _ hP2 hl hoC (by simp [hab]) (by simp) F₄ N₄ fun h₅ rest N₅ hr => ?_
  refine W.frame _ _ _ hst₄ fun b hb o e => ?_
  rcases hfp b hb with q | ⟨o', q⟩
  · obtain ⟨o', hm⟩ := zip_has hl q
    have e1 := hos _ hm
    have e2 := (N₅ _ (List.mem_append_left _ hm)).1
    rw [e] at e1
    cases e1
    exact e2
  · have e1 := (N₄ _ (List.mem_append_right _ (.tail _ (.tail _ (hfn _ q))))).1
    have e2 := (N₅ _ (List.mem_append_right _ (hr _ q))).1
    rw [e] at e1
    cases e1
    exact e2
theorem blockW {elt iter : Expr} {ct : Option Expr} {a b : Str} {pa pb tp : Pos} {kk : Nat} {scope : Scope} {cl : List (Str × Addr)} {pos : Pos} {I : Addr} {fp wr ws : List Addr} {n : Nat} {Pt : Nat → Array Value → Prop} {St : Nat → Heap → Prop} {Mid : Nat → Addr → Heap → Prop} {P2 : Nat → Value → Value → Prop}
    {news fpn : List (Addr × Obj)} {Inv : Nat → List Value → List (Addr × Obj) → Prop} {RR : Value → Addr → Result → Shared → Prop}
    (W : WalksT prog w A I fp wr n Pt St Mid) (hPt : ∀ i vals, Pt i vals → ∃ v₁ v₂, vals = #[v₁, v₂] ∧ P2 i v₁ v₂)
    (hwr : ∀ b ∈ wr, b ∈ ws) (hws : ∀ i h, St i h → ∀ b ∈ ws, ∃ o, h.get? b = some o) (hfp : ∀ b ∈ fp, b ∈ ws ∨ ∃ o, (b, o) ∈ fpn)
    (hkind : scope.kind = .function) (hcell : ∀ y ∈ scope.names, y.2 ≠ .cell) (hxa : scope.names.lookup a = some .local) (hxb : scope.names.lookup b = some .local) (hab : ¬ a = b) (hh : A.handled = none) (hsz : n ≤ sizeLine)
    (hst : St 0 s.heap) (F : Fr h₀ L s.heap m) (N : News h₀ L s.heap news) (hfn : ∀ p ∈ fpn, p ∈ news) (hwL : ∀ b ∈ ws, b ≠ L ∧ h₀.get? b = none) (off : ∀ p ∈ news, p.1 ∉ ws) (h0 : Inv 0 [] news)
    (step : ∀ i v₁ v₂ ys nw oC C D os m₂ h tk (E' : Value → Shared → Prop), i < n → P2 i v₁ v₂ → Inv i ys nw → (∀ p ∈ fpn, p ∈ nw) → os.length = ws.length → NsObj oC m₂ → m₂ a = some v₁ → m₂ b = some v₂ → Fr h₀ L h m →
      News h₀ L h (ws.zip os ++ (C, oC) :: (D, lst ys) :: nw) → (∀ p ∈ nw, p.1 ∉ ws ∧ p.1 ≠ C ∧ p.1 ≠ D) → (∀ b ∈ ws, b ≠ C ∧ b ≠ D) → C ≠ D →
      match ct with
      | none => wpAny (model prog w) A (eval elt (compEnvC scope cl C env)) (fun y s' => EndW h₀ L m s ws os C oC D ys fpn (Inv (i + 1) (ys ++ [y])) s') E' { s with heap := h, toks := tk }
      | some c => wpAny (model prog w) A (isTrue c (compEnvC scope cl C env) (eval c (compEnvC scope cl C env))) (fun ok s' => if ok = true then
          wpAny (model prog w) A (eval elt (compEnvC scope cl C env)) (fun y s'' => EndW h₀ L m s ws os C oC D ys fpn (Inv (i + 1) (ys ++ [y])) s'') E' s'
          else EndW h₀ L m s ws os C oC D ys fpn (Inv (i + 1) ys) s') E' { s with heap := h, toks := tk })
    (hRR : ∀ D C h tk ys nw m', Fr h₀ L h m → News h₀ L h ((D, lst ys) :: nw) → (∀ p ∈ nw, p.1 ≠ D) → h.Ns C m' → h₀.get? C = none → C ≠ L → C ≠ D → (∀ p ∈ nw, p.1 ≠ C) → Inv n ys nw → RR (.ref D) C (.ok .next) { s with heap := h, toks := tk }) :
    wpAny (model prog w) A (newList []) (fun acc s₃ => wpAny (model prog w) A (newFunctionEnv scope env.globals cl [] env.qual none .none (some env)) (fun cenv s₄ =>
      codeAny (model prog w) A (.compStart (.ListComp elt [⟨.Tuple [.Name a pa, .Name b pb] kk tp, iter, ct.toList, 0⟩] scope pos) 0 (.ref I) acc { cenv with scope := relabel scope env }) (RR acc cenv.locals) s₄) E s₃) E s := by
  have hwS : ∀ b ∈ ws, b < s.heap.objs.size := fun b hb => by obtain ⟨o, e⟩ := hws _ _ hst b hb; exact Heap.lt_size e
  have hfS : ∀ b ∈ fp, b < s.heap.objs.size := fun b hb => by
    rcases hfp b hb with q | ⟨o, q⟩
    · exact hwS b q
    · exact Heap.lt_size (N _ (hfn _ q)).1
  refine wpAny_newObj_type (wpAny_newFunctionEnv hcell (by intro y hy; simp at hy) (fun h₁ hns₁ hsb₁ => ?_) hkind)
  dsimp only at hns₁ hsb₁ ⊢
  have fresh₀ : ∀ a, s.heap.objs.size ≤ a → h₀.get? a = none := fun a ha => by
    cases q : h₀.get? a with
    | none => rfl
    | some o => exact absurd (Heap.lt_size (F.keep a o q)) (Nat.not_lt.mpr ha)
  have eC : (s.heap.push { cls := .type "list", data := .seq ([] : List Value).toArray }).objs.size = s.heap.objs.size + 1 := Heap.size_push ..
  have old : ∀ b o, s.heap.get? b = some o → h₁.get? b = some o := fun b o q => hsb₁.extBut b o (by rw [eC]; exact Nat.ne_of_lt (Nat.lt_succ_of_lt (Heap.lt_size q))) (Heap.get?_push_of_some _ (Heap.get?_push_of_some _ q))
  have hacc : h₁.get? s.heap.objs.size = some (lst []) := hsb₁.extBut _ _ (by rw [eC]; exact Nat.ne_of_lt (Nat.lt_succ_self _)) (Heap.get?_push_of_some _ (Heap.get?_push_size _ rfl))
  rw [eC] at hns₁ ⊢
  clear hsb₁
  have hLS : L < s.heap.objs.size := F.ns.lt
  have hnS : ∀ p ∈ news, p.1 < s.heap.objs.size := fun p hp => Heap.lt_size (N p hp).1
  have hst₁ : St 0 h₁ := W.frame _ _ _ hst fun b _ o e => old b o e
  generalize s.heap.objs.size = S at fresh₀ hacc hns₁ hLS hnS hwS hfS ⊢
  have d0 := ltN hLS
  have hCL : S + 1 ≠ L := neN (by omega)
  have hCD : S + 1 ≠ S := neN (by omega)
  have hDL : S ≠ L := neN (by omega)
  have d1 : ∀ p ∈ news, p.1 ∉ ws ∧ p.1 ≠ S + 1 ∧ p.1 ≠ S := fun p hp => by have := ltN (hnS p hp); exact ⟨off p hp, neN (by omega), neN (by omega)⟩
  have hwC : ∀ b ∈ ws, b ≠ S + 1 ∧ b ≠ S := fun b hb => by have := ltN (hwS b hb); exact ⟨neN (by omega), neN (by omega)⟩
  have hDf : S ∉ fp := fun q => by have := ltN (hfS S q); omega
  have hwA : ∀ b ∈ ws, b ≠ L ∧ h₀.get? b = none ∧ b ≠ S + 1 ∧ b ≠ S := fun b hb => ⟨(hwL b hb).1, (hwL b hb).2, (hwC b hb).1, (hwC b hb).2⟩
  have hN0 : News h₀ L h₁ ((S, lst []) :: news) := by
    intro p hp
    rcases List.mem_cons.mp hp with rfl | hp
    · exact ⟨hacc, hDL, fresh₀ _ (Nat.le_refl _)⟩
    · exact ⟨old _ _ (N p hp).1, (N p hp).2⟩
  have hC₀ : h₀.get? (S + 1) = none := fresh₀ _ (by omega)
  have hD₀ : h₀.get? S = none := fresh₀ _ (Nat.le_refl _)
  have fin : ∀ (i : Nat) (os : List Obj) (oC : Obj) (m₂ : Str → Option Value) (ys ys' : List Value) (nw nw' : List (Addr × Obj)) (h₅ h₆ : Heap) (tk₅ : Nat), i < n → ys'.length ≤ i + 1 → NsObj oC m₂ → Fr h₀ L h₅ m → News h₀ L h₅ (ws.zip os ++ (S + 1, oC) :: (S, lst ys) :: nw') → (∀ p ∈ fpn, p ∈ nw') → (∀ p ∈ nw', p.1 ∉ ws ∧ p.1 ≠ S + 1 ∧ p.1 ≠ S) → Inv (i + 1) ys' nw' →
      (∀ h₅ rest, News h₀ L h₅ (ws.zip os ++ rest) → (∀ p ∈ fpn, p ∈ rest) → St (i + 1) h₅) → Heap.SameBut S h₅ h₆ → h₆.get? S = some (lst ys') →
      ∃ q, q < n + 1 - i ∧ (∃ h' tk i ys m' nw, ({ s with heap := h₆, toks := tk₅ } : Shared) = { s with heap := h', toks := tk } ∧ i ≤ n ∧ q = n + 1 - i ∧ ys.length ≤ i ∧ St i h' ∧ Fr h₀ L h' m ∧ h'.Ns (S + 1) m' ∧ News h₀ L h' ((S, lst ys) :: nw) ∧ (∀ p ∈ fpn, p ∈ nw) ∧ (∀ p ∈ nw, p.1 ∉ ws ∧ p.1 ≠ S + 1 ∧ p.1 ≠ S) ∧ Inv i ys nw) := by
    intro i os oC m₂ ys ys' nw nw' h₅ h₆ tk₅ hlt hl hoC F₅ N₅ hf₅ off₅ hI₅ hst₅ hs₆ hD₆
    have zC := (N₅ (S + 1, oC) (List.mem_append_right _ (.head _))).1
    refine ⟨n + 1 - (i + 1), by omega, h₆, tk₅, i + 1, ys', _, nw', rfl, hlt, rfl, hl, ?_, F₅.change hs₆ hDL hD₀, (hoC.ns zC).sameBut hs₆ hCD, ?_, hf₅, off₅, hI₅⟩
    · exact W.frame _ _ _ (hst₅ h₅ _ N₅ fun p hp => .tail _ (.tail _ (hf₅ p hp))) fun b hb o e => hs₆.extBut b o (fun q => hDf (q ▸ hb)) e
    · intro p hp
      rcases List.mem_cons.mp hp with rfl | hp
      · exact ⟨hD₆, hDL, hD₀⟩
      · have z := N₅ p (List.mem_append_right _ (.tail _ (.tail _ hp)))
        exact ⟨hs₆.extBut _ _ (off₅ p hp).2.2 z.1, z.2⟩
  have loop : codeAny (model prog w) A (.compLoop (.ListComp elt [⟨.Tuple [.Name a pa, .Name b pb] kk tp, iter, ct.toList, 0⟩] scope pos) 0 (.ref I) (.ref S) (compEnvC scope cl (S + 1) env)) (RR (.ref S) (S + 1)) { s with heap := h₁, toks := s.toks + ([] : List (Str × Value)).length } := by
    have init : ∃ h' tk i ys m' nw, ({ s with heap := h₁, toks := s.toks + ([] : List (Str × Value)).length } : Shared) = { s with heap := h', toks := tk } ∧ i ≤ n ∧ n + 1 = n + 1 - i ∧ ys.length ≤ i ∧ St i h' ∧ Fr h₀ L h' m ∧ h'.Ns (S + 1) m' ∧ News h₀ L h' ((S, lst ys) :: nw) ∧ (∀ p ∈ fpn, p ∈ nw) ∧ (∀ p ∈ nw, p.1 ∉ ws ∧ p.1 ≠ S + 1 ∧ p.1 ≠ S) ∧ Inv i ys nw :=
      ⟨h₁, _, 0, [], _, news, rfl, Nat.zero_le _, rfl, Nat.le_refl _, hst₁, F.keeps old, hns₁, hN0, hfn, d1, h0⟩
    have last : ∀ (h' : Heap) (tk : Nat) (ys : List Value) (m' : Str → Option Value) (nw : List (Addr × Obj)) (Qs : Value → Shared → Prop) (E' : Value → Shared → Prop), St n h' → Fr h₀ L h' m → h'.Ns (S + 1) m' → News h₀ L h' ((S, lst ys) :: nw) → (∀ p ∈ nw, p.1 ∉ ws ∧ p.1 ≠ S + 1 ∧ p.1 ≠ S) → Inv n ys nw →
        wpAny (model prog w) A (pyNext (.ref I)) (fun r s₁ => match r with | none => RR (.ref S) (S + 1) (.ok .next) s₁ | some v => Qs v s₁) E' { s with heap := h', toks := tk } := by
      intro h' tk ys m' nw Qs E' hst' F' hn' N' off' hI
      refine W.done _ _ _ hst' fun h₂ tk₂ hk₂ => ?_
      have up : ∀ b o, b ∉ ws → h'.get? b = some o → h₂.get? b = some o := fun b o hb e => hk₂ b o (fun q => hb (hwr b q)) e
      have hSw : S ∉ ws := fun q => (hwC S q).2 rfl
      have hCw : S + 1 ∉ ws := fun q => (hwC _ q).1 rfl
      have F₂ : Fr h₀ L h₂ m := ⟨F'.ns.at' fun o e => up _ o (fun q => (hwL L q).1 rfl) e, fun c o e => up c o (fun q => by rw [(hwL c q).2] at e; cases e) (F'.keep c o e), F'.above⟩
      refine hRR _ _ h₂ tk₂ ys nw m' F₂ (fun p hp => ?_) (fun p hp => (off' p hp).2.2) (hn'.at' fun o e => up _ o hCw e) hC₀ hCL hCD (fun p hp => (off' p hp).2.1) hI
      have z := N' p hp
      refine ⟨up _ _ ?_ z.1, z.2⟩
      rcases List.mem_cons.mp hp with rfl | hp
      · exact hSw
      · exact (off' p hp).1
    cases ct with
    | some c =>
      refine kct_loop (fun j s' => ∃ h' tk i ys m' nw, s' = { s with heap := h', toks := tk } ∧ i ≤ n ∧ j = n + 1 - i ∧ ys.length ≤ i ∧ St i h' ∧ Fr h₀ L h' m ∧ h'.Ns (S + 1) m' ∧ News h₀ L h' ((S, lst ys) :: nw) ∧ (∀ p ∈ fpn, p ∈ nw) ∧ (∀ p ∈ nw, p.1 ∉ ws ∧ p.1 ≠ S + 1 ∧ p.1 ≠ S) ∧ Inv i ys nw) ?_ (n + 1) init
      rintro j s' ⟨h', tk, i, ys, m', nw, rfl, hi, rfl, hyl, hst', F', hn', N', hf', off', hI⟩
      by_cases hlt : i < n
      · refine turnW W hPt hwr hws hfp hkind hxa hxb hab hh hlt hst' F' hn' N' hf' hwA hCL hC₀ hCD off' fun h₄ tk₄ v₁ v₂ os oC m₂ hP2 hl hoC ha hb F₄ N₄ hst₄ => ?_
        refine wpAny_mono (step i v₁ v₂ ys nw oC (S + 1) S os m₂ h₄ tk₄ _ hlt hP2 hI hf' hl hoC ha hb F₄ N₄ off' hwC hCD) (fun ok s₅ h₅ => ?_) fun _ _ e => e
        cases ok with
        | false =>
          simp only [Bool.false_eq_true, if_false] at h₅ ⊢
          obtain ⟨h₅, tk₅, nw₅, rfl, F₅, N₅, hf₅, off₅, hI₅⟩ := h₅
          exact fin i os oC m₂ ys ys nw nw₅ h₅ h₅ tk₅ hlt (by omega) hoC F₅ N₅ hf₅ off₅ hI₅ hst₄ (Heap.SameBut.refl _ _) (N₅ _ (List.mem_append_right _ (.tail _ (.head _)))).1
        | true =>
          simp only [if_true] at h₅ ⊢
          refine wpAny_mono h₅ (fun y s₆ h₆ => ?_) fun _ _ e => e
          obtain ⟨h₅, tk₅, nw₅, rfl, F₅, N₅, hf₅, off₅, hI₅⟩ := h₆
          refine append_at (hsz := by show ys.toArray.size ≤ sizeLine; rw [List.size_toArray]; exact Nat.le_trans hyl (Nat.le_trans hi hsz)) (N₅ _ (List.mem_append_right _ (.tail _ (.head _)))).1 fun h₆ hs₆ hD₆ => ?_
          exact fin i os oC m₂ ys (ys ++ [y]) nw nw₅ h₅ h₆ tk₅ hlt (by rw [List.length_append, List.length_singleton]; omega) hoC F₅ N₅ hf₅ off₅ hI₅ hst₄ hs₆ (hD₆.trans (congrArg some (lst_snoc ys y)))
      · obtain rfl : i = n := by omega
        exact last h' tk ys m' nw _ _ hst' F' hn' N' off' hI
    | none =>
      refine kcp_loop (fun j s' => ∃ h' tk i ys m' nw, s' = { s with heap := h', toks := tk } ∧ i ≤ n ∧ j = n + 1 - i ∧ ys.length ≤ i ∧ St i h' ∧ Fr h₀ L h' m ∧ h'.Ns (S + 1) m' ∧ News h₀ L h' ((S, lst ys) :: nw) ∧ (∀ p ∈ fpn, p ∈ nw) ∧ (∀ p ∈ nw, p.1 ∉ ws ∧ p.1 ≠ S + 1 ∧ p.1 ≠ S) ∧ Inv i ys nw) ?_ (n + 1) init
      rintro j s' ⟨h', tk, i, ys, m', nw, rfl, hi, rfl, hyl, hst', F', hn', N', hf', off', hI⟩
      by_cases hlt : i < n
      · refine turnW W hPt hwr hws hfp hkind hxa hxb hab hh hlt hst' F' hn' N' hf' hwA hCL hC₀ hCD off' fun h₄ tk₄ v₁ v₂ os oC m₂ hP2 hl hoC ha hb F₄ N₄ hst₄ => ?_
        refine wpAny_mono (step i v₁ v₂ ys nw oC (S + 1) S os m₂ h₄ tk₄ _ hlt hP2 hI hf' hl hoC ha hb F₄ N₄ off' hwC hCD) (fun y s₆ h₆ => ?_) fun _ _ e => e
        obtain ⟨h₅, tk₅, nw₅, rfl, F₅, N₅, hf₅, off₅, hI₅⟩ := h₆
        refine append_at (hsz := by show ys.toArray.size ≤ sizeLine; rw [List.size_toArray]; exact Nat.le_trans hyl (Nat.le_trans hi hsz)) (N₅ _ (List.mem_append_right _ (.tail _ (.head _)))).1 fun h₆ hs₆ hD₆ => ?_
        exact fin i os oC m₂ ys (ys ++ [y]) nw nw₅ h₅ h₆ tk₅ hlt (by rw [List.length_append, List.length_singleton]; omega) hoC F₅ N₅ hf₅ off₅ hI₅ hst₄ hs₆ (hD₆.trans (congrArg some (lst_snoc ys y)))
      · obtain rfl : i = n := by omega
        exact last h' tk ys m' nw _ _ hst' F' hn' N' off' hI
  exact codeAny_compStart_list loop (W.self 0 _ _ _ hst₁ loop)
end
end Mine
end
section
open PySem PySem.W PyProof.Rows
namespace Mine
local macro_rules | `(tactic| walk_at "flush") => `(tactic| skip)
theorem flushMCompF {prog : Program} {w : World} {A : Around} {Q : Flow → Shared → Prop} {E : Value → Shared → Prop} {s : Shared} {env : Env} (h : wpAny (model prog w) A (execs [] env) Q E s) : wpAny (model prog w) A (execs [] env) Q E s := by
  w_top off
  first | (walk1; fail) | exact h
end Mine
end
section
open PySem PySem.W PyProof.Rows PySem.Spec PySem.Calls PyProof.Rows.LCg PyProof.Rows.LCp
namespace Mine
set_option maxRecDepth 100000
set_option maxHeartbeats 4000000
theorem os1 {os : List Obj} {n : Nat} (h : os.length = n + 1) : ∃ o r, os = o :: r ∧ r.length = n := by
  cases os with
  | nil => simp at h
  | cons o r => exact ⟨o, r, rfl, by simpa using h⟩
theorem os0 {os : List Obj} (h : os.length = 0) : os = [] := List.eq_nil_of_length_eq_zero h
theorem os2 {os : List Obj} (h : os.length = 2) : ∃ a b, os = [a, b] := by
  obtain ⟨a, r1, e1, h1⟩ := os1 h
  obtain ⟨b, r2, e2, h2⟩ := os1 h1
  rw [e1, e2, os0 h2]
  exact ⟨a, b, rfl⟩
theorem os5 {os : List Obj} (h : os.length = 5) : ∃ a b c d e, os = [a, b, c, d, e] := by
  obtain ⟨a, r1, e1, h1⟩ := os1 h
  obtain ⟨b, r2, e2, h2⟩ := os1 h1
  obtain ⟨c, r3, e3, h3⟩ := os1 h2
  obtain ⟨d, r4, e4, h4⟩ := os1 h3
  obtain ⟨e, r5, e5, h5⟩ := os1 h4
  rw [e1, e2, e3, e4, e5, os0 h5]
  exact ⟨a, b, c, d, e, rfl⟩
section
variable {prog : Program} {w : World} {A : Around} {E : Value → Shared → Prop} {s : Shared} {h₀ : Heap} {L : Addr} {m : Str → Option Value} {env : Env}
/-- a turn of a comprehension over pairs, its ledger written -/
def TurnW (prog : Program) (w : World) (A : Around) (h₀ : Heap) (L : Addr) (m : Str → Option Value) (env : Env) (ct : Option Expr) (elt : Expr) (scope : Scope) (cl : List (Str × Addr)) (ws : List Addr) (os : List Obj) (C : Addr) (oC : Obj) (D : Addr) (ys : List Value) (fpn : List (Addr × Obj))
    (Inv : List Value → List (Addr × Obj) → Prop) (E' : Value → Shared → Prop) (s : Shared) : Prop :=
  match ct with
  | none => wpAny (model prog w) A (eval elt (compEnvC scope cl C env)) (fun y s' => EndW h₀ L m s ws os C oC D ys fpn (Inv (ys ++ [y])) s') E' s
  | some c => wpAny (model prog w) A (isTrue c (compEnvC scope cl C env) (eval c (compEnvC scope cl C env))) (fun ok s' => if ok = true then
      wpAny (model prog w) A (eval elt (compEnvC scope cl C env)) (fun y s'' => EndW h₀ L m s ws os C oC D ys fpn (Inv (ys ++ [y])) s'') E' s'
      else EndW h₀ L m s ws os C oC D ys fpn (Inv ys) s') E' s
theorem EndW.intro {ws : List Addr} {os : List Obj} {C : Addr} {oC : Obj} {D : Addr} {ys : List Value} {fpn : List (Addr × Obj)} {Inv : List (Addr × Obj) → Prop} {h : Heap} {tk : Nat} {all : List (Addr × Obj)} (nw : List (Addr × Obj))
    (F : Fr h₀ L h m) (N : News h₀ L h all) (sub : ∀ p ∈ ws.zip os ++ (C, oC) :: (D, lst ys) :: nw, p ∈ all) (hf : ∀ p ∈ fpn, p ∈ nw) (off : ∀ p ∈ nw, p.1 ∉ ws ∧ p.1 ≠ C ∧ p.1 ≠ D) (hI : Inv nw) :
    EndW h₀ L m s ws os C oC D ys fpn Inv { s with heap := h, toks := tk } := ⟨h, tk, nw, rfl, F, fun p hp => N p (sub p hp), hf, off, hI⟩
/-- what a comprehension over pairs asks of its source -/
def SrcW (prog : Program) (w : World) (A : Around) (h₀ : Heap) (L : Addr) (m : Str → Option Value) (env : Env) (ct : Option Expr) (elt : Expr) (a b : Str) (scope : Scope) (cl : List (Str × Addr)) (Fin : Shared → List Value → List (Addr × Obj) → Prop) (xv : Value) (s₁ : Shared) : Prop :=
  ∃ (I : Addr) (fp wr ws : List Addr) (n : Nat) (Pt : Nat → Array Value → Prop) (St : Nat → Heap → Prop) (Mid : Nat → Addr → Heap → Prop) (P2 : Nat → Value → Value → Prop) (news fpn : List (Addr × Obj)) (Inv : Nat → List Value → List (Addr × Obj) → Prop),
    xv = .ref I ∧ WalksT prog w A I fp wr n Pt St Mid ∧ (∀ i vals, Pt i vals → ∃ v₁ v₂, vals = #[v₁, v₂] ∧ P2 i v₁ v₂) ∧ (∀ b ∈ wr, b ∈ ws) ∧ (∀ i h, St i h → ∀ b ∈ ws, ∃ o, h.get? b = some o) ∧ (∀ b ∈ fp, b ∈ ws ∨ ∃ o, (b, o) ∈ fpn) ∧
    A.handled = none ∧ n ≤ sizeLine ∧ St 0 s₁.heap ∧ Fr h₀ L s₁.heap m ∧ News h₀ L s₁.heap news ∧ (∀ p ∈ fpn, p ∈ news) ∧ (∀ b ∈ ws, b ≠ L ∧ h₀.get? b = none) ∧ (∀ p ∈ news, p.1 ∉ ws) ∧ Inv 0 [] news ∧
    (∀ i v₁ v₂ ys nw oC C D os m₂ h tk (E' : Value → Shared → Prop), i < n → P2 i v₁ v₂ → Inv i ys nw → (∀ p ∈ fpn, p ∈ nw) → os.length = ws.length → NsObj oC m₂ → m₂ a = some v₁ → m₂ b = some v₂ → Fr h₀ L h m →
      News h₀ L h (ws.zip os ++ (C, oC) :: (D, lst ys) :: nw) → (∀ p ∈ nw, p.1 ∉ ws ∧ p.1 ≠ C ∧ p.1 ≠ D) → (∀ b ∈ ws, b ≠ C ∧ b ≠ D) → C ≠ D →
      TurnW prog w A h₀ L m env ct elt scope cl ws os C oC D ys fpn (Inv (i + 1)) E' { s₁ with heap := h, toks := tk }) ∧
    (∀ ys nw, Inv n ys nw → Fin s₁ ys nw)
theorem comp_pairs {ct : Option Expr} {elt iter : Expr} {a b : Str} {pa pb tp : Pos} {kk : Nat} {scope : Scope} {cl : List (Str × Addr)} {pos : Pos} {Q : Value → Shared → Prop} (_F₀ : Fr h₀ L s.heap m)
    (hclos : closureFor scope env = pure cl) (hcell : ∀ y ∈ scope.names, y.2 ≠ .cell) (hkind : scope.kind = .function)
    (hnames : ∀ y ∈ scope.names, y.2 = .local → scope.names.lookup y.1 = some .local) (hxa : scope.names.lookup a = some .local) (hxb : scope.names.lookup b = some .local) (hab : ¬ a = b)
    (h : wpAny (model prog w) A (eval iter env) (SrcW prog w A h₀ L m env ct elt a b scope cl (fun s₂ => FinE h₀ L m s₂ Q)) E s)
    (hs : ∀ x, foldedSetIterable iter env x = pure x := by intro _; rfl) :
    wpAny (model prog w) A (eval (.ListComp elt [⟨.Tuple [.Name a pa, .Name b pb] kk tp, iter, ct.toList, 0⟩] scope pos) env) Q E s := by
  rw [eval_ListComp]
  refine wpAny_comprehension_free (use := none) rfl hs hclos hkind hnames (wpAny_mono h (fun xv s₁ src => ?_) fun _ _ e => e)
  obtain ⟨I, fp, wr, ws, n, Pt, St, Mid, P2, news, fpn, Inv, rfl, W, hPt, hwr, hws, hfp, hh, hsz, hst, F, N, hfn, hwL, off, h0, step, fin⟩ := src
  refine W.self 0 _ _ _ hst (blockW W hPt hwr hws hfp hkind hcell hxa hxb hab hh hsz hst F N hfn hwL off h0 ?_ ?_)
  · cases ct <;> exact step
  · intro D C h tk ys nw m' F' N' oD ns hC₀ hCL hCD offC hI
    refine ⟨m', ns, fun h₃ same => ?_⟩
    have out := let_go same F' N' hCL hC₀ (off_cons hCD offC)
    exact fin ys nw hI D h₃ tk out.1 out.2 (off1_of oD)
theorem call_enum_W {ct : Option Expr} {elt : Expr} {a b : Str} {scope : Scope} {cl : List (Str × Addr)} {Fin : Shared → List Value → List (Addr × Obj) → Prop} {l : Addr} {its : Array Value} {k : Nat} {news : List (Addr × Obj)} {Inv : Nat → List Value → List (Addr × Obj) → Prop}
    (hh : A.handled = none) (F : Fr h₀ L s.heap m) (N : News h₀ L s.heap news) (hm : (l, ({ cls := .type "list", data := .seq its k } : Obj)) ∈ news) (hsz : its.size ≤ sizeLine) (h0 : Inv 0 [] news)
    (step : ∀ i v t ys nw e it C D oe oi oC m₂ h tk (E' : Value → Shared → Prop), its[i]? = some v → Inv i ys nw → (l, ({ cls := .type "list", data := .seq its k } : Obj)) ∈ nw → NsObj oC m₂ → m₂ a = some (.int (i : Int) t) → m₂ b = some v → Fr h₀ L h m →
      News h₀ L h ((e, oe) :: (it, oi) :: (C, oC) :: (D, lst ys) :: nw) → (∀ p ∈ nw, p.1 ∉ [e, it] ∧ p.1 ≠ C ∧ p.1 ≠ D) → (∀ b ∈ [e, it], b ≠ C ∧ b ≠ D) → C ≠ D →
      TurnW prog w A h₀ L m env ct elt scope cl [e, it] [oe, oi] C oC D ys [(l, ({ cls := .type "list", data := .seq its k } : Obj))] (Inv (i + 1)) E' { s with heap := h, toks := tk })
    (fin : ∀ g ys nw, Inv its.size ys nw → Fin { s with heap := g } ys nw) :
    wpAny (model prog w) A (call (.type "enumerate") [.ref l]) (SrcW prog w A h₀ L m env ct elt a b scope cl Fin) E s := by
  have hl : s.heap.IsList l its := ⟨_, (N _ hm).1, rfl, _, rfl⟩
  have hlS : l < s.heap.objs.size := Heap.lt_size (N _ hm).1
  have hLS : L < s.heap.objs.size := F.ns.lt
  have hnS : ∀ p ∈ news, p.1 < s.heap.objs.size := fun p hp => Heap.lt_size (N p hp).1
  have fresh₀ : ∀ a, s.heap.objs.size ≤ a → h₀.get? a = none := fun a ha => by
    cases q : h₀.get? a with
    | none => rfl
    | some o => exact absurd (Heap.lt_size (F.keep a o q)) (Nat.not_lt.mpr ha)
  refine call_enumerate_list hl fun h' hE hI _ hk => ?_
  have F' := F.keeps hk
  have N' := N.grown hk
  have hl' : h'.IsList l its := ⟨_, (N' _ hm).1, rfl, _, rfl⟩
  generalize s.heap.objs.size = S at hlS hLS hnS fresh₀ hE hI ⊢
  have d1 := ltN hlS
  have d2 := ltN hLS
  have hst : (∃ old, IsEnum h' (S + 1) S ((0 : Nat) : Int) old) ∧ h'.IsListIter S l 0 ∧ h'.IsList l its := ⟨⟨_, hE⟩, hI, hl'⟩
  refine ⟨S + 1, _, _, [S + 1, S], its.size, _, _, _, fun i v₁ v₂ => ∃ t, v₁ = .int (i : Int) t ∧ its[i]? = some v₂, news, [(l, ({ cls := .type "list", data := .seq its k } : Obj))], Inv, rfl,
    WalksT.enumerate hh (S + 1) S l (neN (by omega)) (neN (by omega)) (neN (by omega)) its, ?_, fun b hb => hb, ?_, ?_, hh, hsz, hst, F', N', ?_, ?_, ?_, h0, ?_, fun ys nw hI => fin h' ys nw hI⟩
  · rintro i vals ⟨t, x, hx, rfl⟩
    exact ⟨_, _, rfl, t, rfl, hx⟩
  · rintro i h ⟨⟨old, he⟩, ⟨oi, hoi, _⟩, _⟩ b hb
    have hb : b ∈ [S + 1, S] := hb
    rcases List.mem_cons.mp hb with rfl | hb
    · exact ⟨_, he⟩
    · rw [List.mem_singleton.mp hb]; exact ⟨_, hoi⟩
  · intro b hb
    rcases List.mem_cons.mp hb with rfl | hb
    · exact .inl (.head _)
    · rcases List.mem_cons.mp hb with rfl | hb
      · exact .inl (.tail _ (.head _))
      · rw [List.mem_singleton.mp hb]; exact .inr ⟨_, .head _⟩
  · intro p hp
    rw [List.mem_singleton.mp hp]; exact hm
  · intro b hb
    rcases List.mem_cons.mp hb with rfl | hb
    · exact ⟨neN (by omega), fresh₀ _ (by omega)⟩
    · rw [List.mem_singleton.mp hb]; exact ⟨neN (by omega), fresh₀ _ (Nat.le_refl _)⟩
  · intro p hp hb
    have := ltN (hnS p hp)
    rcases List.mem_cons.mp hb with e | hb
    · rw [e] at this; omega
    · rw [List.mem_singleton.mp hb] at this; omega
  · rintro i v₁ v₂ ys nw oC C D os m₂ h tk E' hlt ⟨t, rfl, hv⟩ hI hfn hl hC ha hb F₁ N₁ off hw hCD
    obtain ⟨oe, oi, rfl⟩ := os2 hl
    exact step i v₂ t ys nw (S + 1) S C D oe oi oC m₂ h tk E' hv hI (hfn _ (.head _)) hC ha hb F₁ N₁ off hw hCD
theorem call_zip_W {ct : Option Expr} {elt : Expr} {a b : Str} {scope : Scope} {cl : List (Str × Addr)} {Fin : Shared → List Value → List (Addr × Obj) → Prop} {l1 l2 : Addr} {xs ys₀ : Array Value} {k1 k2 : Nat} {news : List (Addr × Obj)} {Inv : Nat → List Value → List (Addr × Obj) → Prop}
    (hh : A.handled = none) (F : Fr h₀ L s.heap m) (N : News h₀ L s.heap news) (hm1 : (l1, ({ cls := .type "list", data := .seq xs k1 } : Obj)) ∈ news) (hm2 : (l2, ({ cls := .type "list", data := .seq ys₀ k2 } : Obj)) ∈ news) (hsz : xs.size ≤ sizeLine) (h0 : Inv 0 [] news)
    (step : ∀ i u v ys nw z TI TO i1 i2 C D oz oTI oTO o1 o2 oC m₂ h tk (E' : Value → Shared → Prop), xs[i]? = some u → ys₀[i]? = some v → Inv i ys nw → (l1, ({ cls := .type "list", data := .seq xs k1 } : Obj)) ∈ nw → (l2, ({ cls := .type "list", data := .seq ys₀ k2 } : Obj)) ∈ nw →
      NsObj oC m₂ → m₂ a = some u → m₂ b = some v → Fr h₀ L h m →
      News h₀ L h ((z, oz) :: (TI, oTI) :: (TO, oTO) :: (i1, o1) :: (i2, o2) :: (C, oC) :: (D, lst ys) :: nw) → (∀ p ∈ nw, p.1 ∉ [z, TI, TO, i1, i2] ∧ p.1 ≠ C ∧ p.1 ≠ D) → (∀ b ∈ [z, TI, TO, i1, i2], b ≠ C ∧ b ≠ D) → C ≠ D →
      TurnW prog w A h₀ L m env ct elt scope cl [z, TI, TO, i1, i2] [oz, oTI, oTO, o1, o2] C oC D ys [(l1, ({ cls := .type "list", data := .seq xs k1 } : Obj)), (l2, ({ cls := .type "list", data := .seq ys₀ k2 } : Obj))] (Inv (i + 1)) E' { s with heap := h, toks := tk })
    (fin : ∀ g ys nw, Inv (min xs.size ys₀.size) ys nw → Fin { s with heap := g } ys nw) :
    wpAny (model prog w) A (call (.type "zip") [.ref l1, .ref l2]) (SrcW prog w A h₀ L m env ct elt a b scope cl Fin) E s := by
  have hl1 : s.heap.IsList l1 xs := ⟨_, (N _ hm1).1, rfl, _, rfl⟩
  have hl2 : s.heap.IsList l2 ys₀ := ⟨_, (N _ hm2).1, rfl, _, rfl⟩
  have hS1 : l1 < s.heap.objs.size := Heap.lt_size (N _ hm1).1
  have hS2 : l2 < s.heap.objs.size := Heap.lt_size (N _ hm2).1
  have hLS : L < s.heap.objs.size := F.ns.lt
  have hnS : ∀ p ∈ news, p.1 < s.heap.objs.size := fun p hp => Heap.lt_size (N p hp).1
  have fresh₀ : ∀ a, s.heap.objs.size ≤ a → h₀.get? a = none := fun a ha => by
    cases q : h₀.get? a with
    | none => rfl
    | some o => exact absurd (Heap.lt_size (F.keep a o q)) (Nat.not_lt.mpr ha)
  refine call_zip_2 hl1 hl2 fun h' hz hTI hTO hi1 hi2 _ hk => ?_
  have F' := F.keeps hk
  have N' := N.grown hk
  have hl1' : h'.IsList l1 xs := ⟨_, (N' _ hm1).1, rfl, _, rfl⟩
  have hl2' : h'.IsList l2 ys₀ := ⟨_, (N' _ hm2).1, rfl, _, rfl⟩
  generalize s.heap.objs.size = S at hS1 hS2 hLS hnS fresh₀ hz hTI hTO hi1 hi2 ⊢
  have d1 := ltN hS1
  have d2 := ltN hS2
  have d3 := ltN hLS
  have dd : ∀ j, S ≤ j → l1 ≠ j := fun j hj => neN (by omega)
  have de : ∀ j, S ≤ j → l2 ≠ j := fun j hj => neN (by omega)
  have hA : ZipApart (S + 4) (S + 2) (S + 3) S (S + 1) l1 l2 := ⟨neN (by omega), neN (by omega), neN (by omega), neN (by omega), neN (by omega), neN (by omega), neN (by omega), neN (by omega), neN (by omega), neN (by omega), dd _ (by omega), dd _ (by omega), dd _ (by omega), dd _ (by omega), de _ (by omega), de _ (by omega), de _ (by omega), de _ (by omega)⟩
  have hst : IsZip h' (S + 4) (S + 2) (S + 3) .none ∧ IsPair h' (S + 2) (.ref S) (.ref (S + 1)) ∧ (∃ a b, IsPair h' (S + 3) a b) ∧ h'.IsListIter S l1 0 ∧ h'.IsListIter (S + 1) l2 0 ∧ h'.IsList l1 xs ∧ h'.IsList l2 ys₀ := ⟨hz, hTI, ⟨_, _, hTO⟩, hi1, hi2, hl1', hl2'⟩
  have in5 : ∀ {b}, b ∈ [S + 4, S + 2, S + 3, S, S + 1] → b = S + 4 ∨ b = S + 2 ∨ b = S + 3 ∨ b = S ∨ b = S + 1 := fun {b} hb => by simpa using hb
  refine ⟨S + 4, _, _, [S + 4, S + 2, S + 3, S, S + 1], min xs.size ys₀.size, _, _, _, fun i v₁ v₂ => xs[i]? = some v₁ ∧ ys₀[i]? = some v₂, news, [(l1, ({ cls := .type "list", data := .seq xs k1 } : Obj)), (l2, ({ cls := .type "list", data := .seq ys₀ k2 } : Obj))], Inv, rfl,
    WalksT.zip2 hh (S + 4) (S + 2) (S + 3) S (S + 1) l1 l2 hA xs ys₀, ?_, ?_, ?_, ?_, hh, Nat.le_trans (Nat.min_le_left _ _) hsz, hst, F', N', ?_, ?_, ?_, h0, ?_, fun ys nw hI => fin h' ys nw hI⟩
  · rintro i vals ⟨x, y, hx, hy, rfl⟩
    exact ⟨_, _, rfl, hx, hy⟩
  · intro b hb
    have hb : b = S + 4 ∨ b = S + 3 ∨ b = S ∨ b = S + 1 := by simpa using hb
    rcases hb with rfl | rfl | rfl | rfl <;> simp
  · rintro i h ⟨h1, h2, ⟨x, y, h3⟩, ⟨o1, h4, _⟩, ⟨o2, h5, _⟩, _, _⟩ b hb
    rcases in5 hb with rfl | rfl | rfl | rfl | rfl
    · exact ⟨_, h1⟩
    · exact ⟨_, h2⟩
    · exact ⟨_, h3⟩
    · exact ⟨_, h4⟩
    · exact ⟨_, h5⟩
  · intro b hb
    have hb : b = S + 4 ∨ b = S + 2 ∨ b = S + 3 ∨ b = S ∨ b = S + 1 ∨ b = l1 ∨ b = l2 := by simpa using hb
    rcases hb with rfl | rfl | rfl | rfl | rfl | rfl | rfl
    · exact .inl (by simp)
    · exact .inl (by simp)
    · exact .inl (by simp)
    · exact .inl (by simp)
    · exact .inl (by simp)
    · exact .inr ⟨_, .head _⟩
    · exact .inr ⟨_, .tail _ (.head _)⟩
  · intro p hp
    rcases List.mem_cons.mp hp with rfl | hp
    · exact hm1
    · rw [List.mem_singleton.mp hp]; exact hm2
  · intro b hb
    rcases in5 hb with rfl | rfl | rfl | rfl | rfl <;> exact ⟨neN (by omega), fresh₀ _ (by omega)⟩
  · intro p hp hb
    have := ltN (hnS p hp)
    rcases in5 hb with e | e | e | e | e <;> (rw [e] at this; omega)
  · rintro i v₁ v₂ ys nw oC C D os m₂ h tk E' hlt ⟨hu, hv⟩ hI hfn hl hC ha hb F₁ N₁ off hw hCD
    obtain ⟨oz, oTI, oTO, o1, o2, rfl⟩ := os5 hl
    exact step i v₁ v₂ ys nw (S + 4) (S + 2) (S + 3) S (S + 1) C D oz oTI oTO o1 o2 oC m₂ h tk E' hu hv hI (hfn _ (.head _)) (hfn _ (.tail _ (.head _))) hC ha hb F₁ N₁ off hw hCD
end
end Mine
end
section
open PySem PySem.W PyProof.Rows
namespace Mine
local macro_rules | `(tactic| walk_at "flush") => `(tactic| skip)
theorem flushMSortT {prog : Program} {w : World} {A : Around} {Q : Flow → Shared → Prop} {E : Value → Shared → Prop} {s : Shared} {env : Env} (h : wpAny (model prog w) A (execs [] env) Q E s) : wpAny (model prog w) A (execs [] env) Q E s := by
  w_top off
  first | (walk1; fail) | exact h
end Mine
end
section
open PySem PySem.W PyProof.Rows
namespace Mine
set_option maxRecDepth 100000
set_option maxHeartbeats 4000000
/-- what the sort's questions, answered by lt, come to; every question is of numbers below n -/
def TW {α : Type} (lt : Nat → Nat → Bool) (n : Nat) : KasT α → (α → Prop) → Prop
  | .ret a, Q => Q a
  | .ask i j k, Q => i < n ∧ j < n ∧ TW lt n (k (lt i j)) Q
section
variable {α β : Type} {lt : Nat → Nat → Bool} {n : Nat}
theorem TW.mono {Q Q' : α → Prop} (h : ∀ a, Q a → Q' a) : ∀ t : KasT α, TW lt n t Q → TW lt n t Q'
  | .ret a, q => h a q
  | .ask _ _ k, ⟨hi, hj, q⟩ => ⟨hi, hj, TW.mono h (k _) q⟩
theorem TW.bind {f : α → KasT β} {Q : β → Prop} : ∀ t : KasT α, TW lt n t (fun a => TW lt n (f a) Q) → TW lt n (t.bind f) Q
  | .ret _, q => q
  | .ask _ _ k, ⟨hi, hj, q⟩ => ⟨hi, hj, TW.bind (k _) q⟩
theorem TW.ask {i j : Nat} {k : Bool → KasT α} {Q : α → Prop} (hi : i < n) (hj : j < n) (h : TW lt n (k (lt i j)) Q) : TW lt n (.ask i j k) Q := ⟨hi, hj, h⟩
/-- into the walk: where each question is answered by lt -/
theorem TW.wp {cmp : Nat → Nat → (Bool → Shared → Prop) → Shared → Prop} {Q : α → Shared → Prop} {s : Shared} (hc : ∀ i j C, i < n → j < n → C (lt i j) s → cmp i j C s) : ∀ t : KasT α, TW lt n t (fun a => Q a s) → t.kasWp cmp Q s
  | .ret _, q => q
  | .ask i j k, ⟨hi, hj, q⟩ => hc i j _ hi hj (TW.wp hc (k _) q)
end
section
variable {r : Nat → Nat} {n : Nat}
def ltR (r : Nat → Nat) (i j : Nat) : Bool := decide (r i < r j)
/-- a list of places: 0 .. n - 1 in some order -/
def PermA (n : Nat) (p : Array Nat) : Prop := p.toList.Perm (List.range n)
theorem PermA.size {p : Array Nat} (h : PermA n p) : p.size = n := by
  have := List.Perm.length_eq h
  simpa using this
theorem PermA.lt {p : Array Nat} (h : PermA n p) (i : Nat) (hi : i < n) : p.getD i 0 < n := by
  have hs := h.size
  have hi' : i < p.size := by omega
  have e : p.getD i 0 = p[i] := by simp [Array.getD, hi']
  rw [e]
  have hm : p[i] ∈ p.toList := by simp
  have := (List.Perm.mem_iff h).mp hm
  simpa using this
theorem PermA.inj {p : Array Nat} (h : PermA n p) {i j : Nat} (hi : i < n) (hj : j < n) (hij : i ≠ j) : p.getD i 0 ≠ p.getD j 0 := by
  have hs := h.size
  have hi' : i < p.size := by omega
  have hj' : j < p.size := by omega
  have e : p.getD i 0 = p[i] := by simp [Array.getD, hi']
  have e' : p.getD j 0 = p[j] := by simp [Array.getD, hj']
  rw [e, e']
  have hn : p.toList.Nodup := (List.Perm.nodup_iff h).mpr List.nodup_range
  intro q
  have q' : p.toList[i]'(by simpa using hi') = p.toList[j]'(by simpa using hj') := by simpa using q
  rcases Nat.lt_or_gt_of_ne hij with hlt | hlt
  · exact List.pairwise_iff_getElem.mp hn i j (by simpa using hi') (by simpa using hj') hlt q'
  · exact List.pairwise_iff_getElem.mp hn j i (by simpa using hj') (by simpa using hi') hlt q'.symm
theorem getD_get? (p : Array Nat) (i : Nat) : p.getD i 0 = (p[i]?).getD 0 := by
  by_cases h : i < p.size <;> simp [Array.getD, h]
theorem PermA.rev {p : Array Nat} (h : PermA n p) (i j : Nat) : PermA n (kas_rev p i j) :=
  (Array.perm_iff_toList_perm.mp (mirror_perm _ _ _ _)).trans h
theorem PermA.bub {p : Array Nat} (h : PermA n p) (k d : Nat) : PermA n (bubble p k d) :=
  (Array.perm_iff_toList_perm.mp (bubble_perm _ _ _)).trans h
theorem rev_getD {p : Array Nat} {j : Nat} (hj : j ≤ p.size) (k : Nat) (hk : k < j) : (kas_rev p 0 j).getD k 0 = p.getD (j - 1 - k) 0 := by
  rw [getD_get?, getD_get?]
  show ((mirror p 0 j ((j - 0) / 2))[k]?).getD 0 = _
  rw [getElem?_mirror_all hj, if_pos ⟨Nat.zero_le _, hk⟩]
  congr 2
  omega
theorem bub_getD {p : Array Nat} {k d : Nat} (hk : k < p.size) (hd : d ≤ k) (i : Nat) : (bubble p k d).getD i 0 = if i = k - d then p.getD k 0 else if k - d < i ∧ i ≤ k then p.getD (i - 1) 0 else p.getD i 0 := by
  rw [getD_get?, getElem?_bubble hk d hd]
  simp only [getD_get?]
  split
  · rfl
  · split <;> rfl
def Up (r : Nat → Nat) (p : Array Nat) (k : Nat) : Prop := ∀ i j, i < j → j < k → r (p.getD i 0) < r (p.getD j 0)
def Down (r : Nat → Nat) (p : Array Nat) (k : Nat) : Prop := ∀ i j, i < j → j < k → r (p.getD j 0) < r (p.getD i 0)
variable (hr : ∀ i j, i < n → j < n → r i = r j → i = j)
include hr
theorem key_ne {p : Array Nat} (h : PermA n p) {i j : Nat} (hi : i < n) (hj : j < n) (hij : i ≠ j) : r (p.getD i 0) ≠ r (p.getD j 0) :=
  fun e => h.inj hi hj hij (hr _ _ (h.lt i hi) (h.lt j hj) e)
omit hr in
theorem asc_TW {p : Array Nat} (h : PermA n p) : ∀ (f a : Nat), 1 ≤ a → a + f ≤ n → Up r p a → (∀ i j, i < n → j < n → i ≠ j → r (p.getD i 0) ≠ r (p.getD j 0)) →
    TW (ltR r) n (kas_asc p f a) fun m => a ≤ m ∧ m ≤ a + f ∧ Up r p m ∧ (m = a + f ∨ r (p.getD m 0) < r (p.getD (m - 1) 0))
  | 0, a, h1, hn, hu, hk => ⟨Nat.le_refl _, Nat.le_refl _, hu, .inl rfl⟩
  | f + 1, a, h1, hn, hu, hk => by
    refine TW.ask (h.lt _ (by omega)) (h.lt _ (by omega)) ?_
    by_cases hc : r (p.getD a 0) < r (p.getD (a - 1) 0)
    · rw [if_pos (show ltR r (p.getD a 0) (p.getD (a - 1) 0) = true from decide_eq_true hc)]
      exact ⟨Nat.le_refl _, by omega, hu, .inr hc⟩
    · rw [if_neg (show ¬ ltR r (p.getD a 0) (p.getD (a - 1) 0) = true from by rw [ltR, decide_eq_true_eq]; exact hc)]
      have hne := hk a (a - 1) (by omega) (by omega) (by omega)
      refine TW.mono ?_ _ (asc_TW h f (a + 1) (by omega) (by omega) ?_ hk)
      · rintro m ⟨m1, m2, m3, m4⟩
        exact ⟨by omega, by omega, m3, by rcases m4 with e | e; exact .inl (by omega); exact .inr e⟩
      · intro i j hij hj
        by_cases hja : j < a
        · exact hu i j hij hja
        · obtain rfl : j = a := by omega
          by_cases hia : i = j - 1
          · subst hia; omega
          · have := hu i (j - 1) (by omega) (by omega)
            omega
omit hr in
theorem desc_TW {p : Array Nat} (h : PermA n p) (hk : ∀ i j, i < n → j < n → i ≠ j → r (p.getD i 0) ≠ r (p.getD j 0)) : ∀ (f a : Nat), 1 ≤ a → a + f ≤ n → Down r p a →
    TW (ltR r) n (kas_desc f p a 0) fun c => c.1 = p ∧ a ≤ c.2.1 ∧ c.2.1 ≤ a + f ∧ c.2.2 = 0 ∧ Down r p c.2.1
  | 0, a, h1, hn, hd => ⟨rfl, Nat.le_refl _, Nat.le_refl _, rfl, hd⟩
  | f + 1, a, h1, hn, hd => by
    refine TW.ask (h.lt _ (by omega)) (h.lt _ (by omega)) ?_
    have hne := hk a (a - 1) (by omega) (by omega) (by omega)
    by_cases hc : r (p.getD a 0) < r (p.getD (a - 1) 0)
    · rw [if_pos (show ltR r (p.getD a 0) (p.getD (a - 1) 0) = true from decide_eq_true hc), if_neg (by omega)]
      refine TW.mono ?_ _ (desc_TW h hk f (a + 1) (by omega) (by omega) ?_)
      · rintro c ⟨c1, c2, c3, c4, c5⟩
        exact ⟨c1, by omega, by omega, c4, c5⟩
      · intro i j hij hj
        by_cases hja : j < a
        · exact hd i j hij hja
        · obtain rfl : j = a := by omega
          by_cases hia : i = j - 1
          · subst hia; exact hc
          · have := hd i (j - 1) (by omega) (by omega)
            omega
    · rw [if_neg (show ¬ ltR r (p.getD a 0) (p.getD (a - 1) 0) = true from by rw [ltR, decide_eq_true_eq]; exact hc)]
      refine TW.ask (h.lt _ (by omega)) (h.lt _ (by omega)) ?_
      rw [if_pos (show ltR r (p.getD (a - 1) 0) (p.getD a 0) = true from decide_eq_true (by omega))]
      exact ⟨rfl, Nat.le_refl _, by show a ≤ a + (f + 1); omega, rfl, hd⟩
theorem tail_TW {p : Array Nat} (h : PermA n p) {m : Nat} (h1 : 1 ≤ m) (hm : m ≤ n) (hd : Down r p m) : TW (ltR r) n (kas_tail3 m n p) fun c => PermA n c.2 ∧ 1 ≤ c.1 ∧ c.1 ≤ n ∧ Up r c.2 c.1 := by
  unfold kas_tail3
  have hP := h.rev 0 m
  refine TW.bind _ (TW.mono ?_ _ (asc_TW hP (n - m) m h1 (by omega) ?_ fun i j hi hj hij => key_ne hr hP hi hj hij))
  · rintro a ⟨a1, a2, a3, _⟩
    exact ⟨hP, by show 1 ≤ a; omega, by show a ≤ n; omega, a3⟩
  · intro i j hij hj
    have hs := h.size
    rw [rev_getD (by omega) i (by omega), rev_getD (by omega) j hj]
    exact hd _ _ (by omega) (by omega)
theorem descPart_TW {p : Array Nat} (h : PermA n p) {m : Nat} (hm : m + 1 ≤ n) (hd : Down r p (m + 1)) : TW (ltR r) n (kas_descPart m n p) fun c => PermA n c.2 ∧ 1 ≤ c.1 ∧ c.1 ≤ n ∧ Up r c.2 c.1 := by
  unfold kas_descPart
  refine TW.bind _ (TW.mono ?_ _ (desc_TW h (fun i j hi hj hij => key_ne hr h hi hj hij) (n - (m + 1)) (m + 1) (by omega) (by omega) hd))
  rintro ⟨p', a, q⟩ ⟨rfl, a1, a2, rfl, a3⟩
  dsimp only at a1 a2 a3 ⊢
  rw [if_neg (by omega)]
  exact tail_TW hr h (by omega) (by omega) a3
theorem count_TW {p : Array Nat} (h : PermA n p) (h2 : 2 ≤ n) : TW (ltR r) n (kas_count n p) fun c => PermA n c.2 ∧ 1 ≤ c.1 ∧ c.1 ≤ n ∧ Up r c.2 c.1 := by
  unfold kas_count
  refine TW.bind _ (TW.mono ?_ _ (asc_TW h (n - 1) 1 (Nat.le_refl _) (by omega) (fun i j hij hj => by omega) fun i j hi hj hij => key_ne hr h hi hj hij))
  rintro m ⟨m1, m2, m3, m4⟩
  by_cases e : m = n
  · rw [if_pos (by simpa using e)]
    exact ⟨h, m1, by show m ≤ n; omega, m3⟩
  · rw [if_neg (by simpa using e)]
    by_cases hgt : m > 1
    · rw [if_pos hgt]
      refine TW.ask (h.lt _ (by omega)) (h.lt _ (by omega)) ?_
      rw [if_pos (show ltR r (p.getD 0 0) (p.getD (m - 1) 0) = true from decide_eq_true (m3 0 (m - 1) (by omega) (by omega)))]
      exact ⟨h, m1, by show m ≤ n; omega, m3⟩
    · rw [if_neg hgt]
      obtain rfl : m = 1 := by omega
      refine descPart_TW hr h (by omega) ?_
      intro i j hij hj
      obtain rfl : j = 1 := by omega
      obtain rfl : i = 0 := by omega
      exact m4.resolve_left (by omega)
omit hr in
theorem place_TW {p : Array Nat} (h : PermA n p) (hk : ∀ i j, i < n → j < n → i ≠ j → r (p.getD i 0) ≠ r (p.getD j 0)) {k : Nat} (hkn : k < n) (hu : Up r p k) : ∀ (f a b : Nat), b ≤ k → a ≤ b → b - a ≤ f → (∀ i, i < a → r (p.getD i 0) < r (p.getD k 0)) → (∀ i, b ≤ i → i < k → r (p.getD k 0) < r (p.getD i 0)) →
    TW (ltR r) n (kas_place p k f a b) fun l => l ≤ k ∧ (∀ i, i < l → r (p.getD i 0) < r (p.getD k 0)) ∧ ∀ i, l ≤ i → i < k → r (p.getD k 0) < r (p.getD i 0)
  | 0, a, b, hb, hab, hf, hlo, hhi => by
    obtain rfl : a = b := by omega
    exact ⟨hb, hlo, hhi⟩
  | f + 1, a, b, hb, hab, hf, hlo, hhi => by
    unfold kas_place
    by_cases hge : a ≥ b
    · rw [if_pos hge]
      obtain rfl : a = b := by omega
      exact ⟨hb, hlo, hhi⟩
    · rw [if_neg hge]
      refine TW.ask (h.lt _ hkn) (h.lt _ (by omega)) ?_
      have hne := hk k ((a + b) / 2) hkn (by omega) (by omega)
      by_cases hc : r (p.getD k 0) < r (p.getD ((a + b) / 2) 0)
      · rw [if_pos (show ltR r (p.getD k 0) (p.getD ((a + b) / 2) 0) = true from decide_eq_true hc)]
        refine place_TW h hk hkn hu f a ((a + b) / 2) (by omega) (by omega) (by omega) hlo fun i hi hik => ?_
        by_cases hi' : i = (a + b) / 2
        · rw [hi']; exact hc
        · have := hu ((a + b) / 2) i (by omega) hik
          omega
      · rw [if_neg (show ¬ ltR r (p.getD k 0) (p.getD ((a + b) / 2) 0) = true from by rw [ltR, decide_eq_true_eq]; exact hc)]
        refine place_TW h hk hkn hu f ((a + b) / 2 + 1) b hb (by omega) (by omega) (fun i hi => ?_) hhi
        by_cases hi' : i = (a + b) / 2
        · rw [hi']; omega
        · have := hu i ((a + b) / 2) (by omega) (by omega)
          omega
theorem bin_TW : ∀ (f k : Nat) {p : Array Nat}, PermA n p → 1 ≤ k → k + f = n → Up r p k → TW (ltR r) n (kas_bin f p k) fun p' => PermA n p' ∧ Up r p' n
  | 0, k, p, h, h1, hn, hu => by
    obtain rfl : k = n := by omega
    exact ⟨h, hu⟩
  | f + 1, k, p, h, h1, hn, hu => by
    unfold kas_bin
    have hs := h.size
    refine TW.bind _ (TW.mono ?_ _ (place_TW h (fun i j hi hj hij => key_ne hr h hi hj hij) (k := k) (by omega) hu k 0 k (Nat.le_refl _) (Nat.zero_le _) (by omega) (fun i hi => by omega) fun i hi hik => by omega))
    rintro l ⟨hl, hlo, hhi⟩
    refine bin_TW f (k + 1) (h.bub k (k - l)) (by omega) (by omega) ?_
    intro i j hij hj
    rw [bub_getD (by omega) (by omega), bub_getD (by omega) (by omega)]
    rw [show k - (k - l) = l by omega]
    by_cases hi1 : i = l
    · rw [if_pos hi1, if_neg (by omega), if_pos (by omega)]
      exact hhi _ (by omega) (by omega)
    · rw [if_neg hi1]
      by_cases hj1 : j = l
      · rw [if_pos hj1, if_neg (by omega)]
        exact hlo _ (by omega)
      · rw [if_neg hj1]
        by_cases hi2 : l < i ∧ i ≤ k
        · rw [if_pos hi2, if_pos (by omega)]
          exact hu _ _ (by omega) (by omega)
        · rw [if_neg hi2]
          by_cases hj2 : l < j ∧ j ≤ k
          · rw [if_pos hj2]
            exact hu _ _ (by omega) (by omega)
          · rw [if_neg hj2]
            exact hu _ _ (by omega) (by omega)
theorem sort_TW (h2 : 2 ≤ n) : TW (ltR r) n (kas_sort n) fun p => PermA n p ∧ Up r p n := by
  unfold kas_sort
  refine TW.bind _ (TW.mono ?_ _ (count_TW hr (p := List.toArray (List.range n)) (List.Perm.refl _) h2))
  rintro ⟨m, p⟩ ⟨hP, m1, m2, hu⟩
  dsimp only at hP m1 m2 hu ⊢
  by_cases hlt : m < n
  · rw [if_pos hlt]
    rw [show max m 1 = m by omega]
    exact bin_TW hr (n - m) m hP m1 (by omega) hu
  · rw [if_neg hlt]
    obtain rfl : m = n := by omega
    exact ⟨hP, hu⟩
end
end Mine
end
section
open PySem PySem.W PyProof.Rows
namespace Mine
local macro_rules | `(tactic| walk_at "flush") => `(tactic| skip)
theorem flushMRows {prog : Program} {w : World} {A : Around} {Q : Flow → Shared → Prop} {E : Value → Shared → Prop} {s : Shared} {env : Env} (h : wpAny (model prog w) A (execs [] env) Q E s) : wpAny (model prog w) A (execs [] env) Q E s := by
  w_top off
  first | (walk1; fail) | exact h
end Mine
end
section
open PySem PySem.W PyProof.Rows
namespace Mine
set_option maxRecDepth 100000
set_option maxHeartbeats 4000000
/-- the place of a word among the sixteen -/
def rank (v : Int) : Nat := ((List.range 16).filter fun (u : Nat) => decide ((word (u : Int)).cps.toList < (word v).cps.toList)).length
theorem rank_lt0 : ∀ j k : _root_.Fin 16, decide ((word (j.val : Int)).cps.toList < (word (k.val : Int)).cps.toList) = decide (rank (j.val : Int) < rank (k.val : Int)) := by decide +kernel
theorem rank_lt {u v : Int} (hu : 0 ≤ u) (hu' : u < 16) (hv : 0 ≤ v) (hv' : v < 16) : decide ((word u).cps.toList < (word v).cps.toList) = decide (rank u < rank v) := by
  have := rank_lt0 ⟨u.toNat, by omega⟩ ⟨v.toNat, by omega⟩
  simpa only [Int.toNat_of_nonneg hu, Int.toNat_of_nonneg hv] using this
theorem rank_inj0 : ∀ j k : _root_.Fin 16, rank (j.val : Int) = rank (k.val : Int) → (j.val : Int) = (k.val : Int) := by decide +kernel
theorem rank_inj {u v : Int} (hu : 0 ≤ u) (hu' : u < 16) (hv : 0 ≤ v) (hv' : v < 16) (h : rank u = rank v) : u = v := by
  have := rank_inj0 ⟨u.toNat, by omega⟩ ⟨v.toNat, by omega⟩
  simp only [Int.toNat_of_nonneg hu, Int.toNat_of_nonneg hv] at this
  exact this h
theorem word_ne {u v : Int} (hu : 0 ≤ u) (hu' : u < 16) (hv : 0 ≤ v) (hv' : v < 16) (h : u ≠ v) : word u ≠ word v := by
  intro e
  have h1 := rank_lt hu hu' hv hv'
  have h2 := rank_lt hv hv' hu hu'
  rw [e] at h1 h2
  have h3 : decide ((word v).cps.toList < (word v).cps.toList) = false := by simpa using List.lt_irrefl _
  rw [h3] at h1 h2
  have h4 := of_decide_eq_false h1.symm
  have h5 := of_decide_eq_false h2.symm
  exact h (rank_inj hu hu' hv hv' (by omega))
theorem rank_sorted_eq : ∀ {a b : List Int}, a.Pairwise (fun u v => rank u < rank v) → b.Pairwise (fun u v => rank u < rank v) → (∀ x, x ∈ a ↔ x ∈ b) → a = b
  | [], [], _, _, _ => rfl
  | [], y :: b, _, _, h => absurd ((h y).mpr (.head _)) List.not_mem_nil
  | x :: a, [], _, _, h => absurd ((h x).mp (.head _)) List.not_mem_nil
  | x :: a, y :: b, ha, hb, h => by
    obtain ⟨ha1, ha2⟩ := List.pairwise_cons.mp ha
    obtain ⟨hb1, hb2⟩ := List.pairwise_cons.mp hb
    have hxy : x = y := by
      rcases List.mem_cons.mp ((h x).mp (.head _)) with e | hx
      · exact e
      · rcases List.mem_cons.mp ((h y).mpr (.head _)) with e | hy
        · exact e.symm
        · have := hb1 x hx
          have := ha1 y hy
          omega
    subst hxy
    congr 1
    refine rank_sorted_eq ha2 hb2 fun z => ⟨fun hz => ?_, fun hz => ?_⟩
    · rcases List.mem_cons.mp ((h z).mp (.tail _ hz)) with e | hz'
      · subst e; have := ha1 z hz; omega
      · exact hz'
    · rcases List.mem_cons.mp ((h z).mpr (.tail _ hz)) with e | hz'
      · subst e; have := hb1 z hz; omega
      · exact hz'
section
variable {news : List (Addr × Obj)}
theorem RowsAre.pick {its : List Value} {vs : List Int} (R : RowsAre news its vs) : ∀ l : List Nat, (∀ i ∈ l, i < vs.length) → RowsAre news (l.map fun i => its.getD i Value.none) (l.map fun i => vs.getD i 0)
  | [], _ => .nil
  | i :: l, h => by
    have hi := h i (.head _)
    have hi' : i < its.length := by rw [R.length]; exact hi
    obtain ⟨a, v, t, u, n, h1, h2, h3, h4, h5⟩ := R.get (i := i) (List.getElem?_eq_getElem hi')
    rw [List.map_cons, List.map_cons]
    have e1 : its.getD i Value.none = .ref a := by rw [← h1]; simp [hi']
    have e2 : vs.getD i 0 = v := by simp [h2]
    rw [e1, e2]
    exact .cons h3 h4 h5 (R.pick l fun j hj => h j (.tail _ hj))
def rowData (v : Int) : PyData := .tuple [.str (word v), .str (num v)]
theorem reads_rows {h₀ h : Heap} {L : Addr} (N : News h₀ L h news) : ∀ {its : List Value} {vs : List Int}, RowsAre news its vs → ∃ as, ReadsAll h its (vs.map rowData) as
  | _, _, .nil => ⟨_, .nil⟩
  | _, _, .cons hm _ _ r => by
    obtain ⟨as, ih⟩ := reads_rows N r
    exact ⟨_, .cons (reads_tuple_at (N _ hm).1 rfl rfl (.cons (.str _ _) (.cons (.str _ _) .nil))) ih⟩
theorem strOk0 : ∀ k : _root_.Fin 16, PyData.strOk (word (k.val : Int)) = true ∧ PyData.strOk (num (k.val : Int)) = true := by decide +kernel
theorem rows_canLay : ∀ vs : List Int, (∀ v ∈ vs, 0 ≤ v ∧ v < 16) → PyData.canLayAll0 (vs.map rowData) = true
  | [], _ => by simp [PyData.canLayAll0]
  | v :: vs, h => by
    have h0 := fin16 (P := fun v => PyData.strOk (word v) = true ∧ PyData.strOk (num v) = true) strOk0 (h v (.head _)).1 (h v (.head _)).2
    simp [PyData.canLayAll0, rowData, PyData.canLay0, rows_canLay vs fun u hu => h u (.tail _ hu), h0.1, h0.2]
theorem rows_depth : ∀ vs : List Int, PyData.depthAll (vs.map rowData) ≤ 8
  | [] => by simp [PyData.depthAll]
  | v :: vs => by
    have := rows_depth vs
    simp [PyData.depthAll, rowData, PyData.depth]
    omega
theorem rows_shaped (vs : List Int) (hv : ∀ v ∈ vs, 0 ≤ v ∧ v < 16) : SeqAt.shaped (.list (vs.map rowData)) = true := by
  have h1 := rows_canLay vs hv
  have h2 := rows_depth vs
  simp [SeqAt.shaped, PyData.canLay0, PyData.depth, h1]
  omega
end
section
variable {prog : Program} {w : World} {A : Around} {E : Value → Shared → Prop} {s : Shared} {h₀ : Heap} {L : Addr} {m : Str → Option Value} {news : List (Addr × Obj)}
theorem eq_rows {a b : Addr} {xs ys : List Value} {j k : Nat} {vs ws : List Int} {Q : Value → Shared → Prop} (N : News h₀ L s.heap news) (ha : (a, W.listOf xs.toArray j) ∈ news) (hb : (b, W.listOf ys.toArray k) ∈ news)
    (hx : RowsAre news xs vs) (hy : RowsAre news ys ws) (e : vs = ws) (hu : A.units + 64 < cLine) (h : Q (.bool true) s) : wpAny (model prog w) A (compareOp .Eq (.ref a) (.ref b)) Q E s := by
  subst e
  obtain ⟨as, rx⟩ := reads_rows N hx
  obtain ⟨bs, ry⟩ := reads_rows N hy
  refine eq_dataH (reads_list_at (N _ ha).1 rfl rfl rx) (reads_list_at (N _ hb).1 rfl rfl ry) (rows_shaped vs hx.range) (rows_shaped vs hx.range) hu ?_
  rw [SeqAt.eqv_refl _ (SeqAt.canLay_of_shaped (rows_shaped vs hx.range))]
  exact h
theorem row_lt {x y : Addr} {u v : Int} {t1 t2 t3 t4 : Tok} {n k : Nat} {Q : Bool → Shared → Prop} (hx : s.heap.get? x = some (rowObj u t1 t2 n)) (hy : s.heap.get? y = some (rowObj v t3 t4 k)) (hu : 0 ≤ u) (hu' : u < 16) (hv : 0 ≤ v) (hv' : v < 16)
    (h : Q (decide (rank u < rank v)) s) : wpAny (model prog w) A (keyLt' (tuples' true) (.ref x) (.ref y)) Q E s := by
  refine kat_lt hx rfl hy rfl ?_
  show KatLex prog w A true false Q [(.str (word u) t1, .str (word v) t3), (.str (num u) t2, .str (num v) t4)] 0 s
  refine kat_cons (wpAny_eqBool_str ?_)
  by_cases e : u = v
  · subst e
    rw [decide_eq_true rfl]
    refine kat_yes (kat_cons (wpAny_eqBool_str ?_))
    rw [decide_eq_true rfl]
    refine kat_yes (kat_nil ?_)
    rw [decide_eq_false (Nat.lt_irrefl _)] at h
    exact h
  · rw [decide_eq_false (word_ne hu hu' hv hv' e)]
    refine kat_no ?_
    show wpAny _ _ (oneLt' true _ _) _ _ _
    refine oneLt_str ?_
    rw [rank_lt hu hu' hv hv']
    exact h
theorem zip_snd (xs : Array Value) : (xs.zip xs).map (·.2) = xs := by
  apply Array.ext (by simp)
  intro i h1 h2
  simp
/-- a list of fewer than two items is sorted as it stands: no item is looked at -/
theorem sort_few {a : Addr} {vs : List Value} {n : Nat} {P : PySem.Fin → Shared → Prop} (few : vs.length < 2) (at_ : s.heap.get? a = some (seqObj "list" vs.toArray n)) (h : P (.done (.ret .none)) { s with heap := sortedHeap s.heap a vs vs.toArray }) :
    wpAny (model prog w) A (Builtin.«list.sort» ⟨[.ref a], []⟩) P E s := by
  have few' : vs.toArray.size < 2 := few
  have fits : vs.toArray.size ≤ sizeLine := by rw [sizeLine_eq]; exact Nat.le_trans (Nat.le_of_lt few') (by decide)
  obtain ⟨e, bare⟩ : ∃ e, (s.heap.update a (Obj.mapSeq fun _ => #[])).get? a = some (seqObj "list" #[] e) := ⟨_, get?_update_seq at_ _⟩
  have bare' := Heap.get?_push_of_some (seqObj "list" #[] 0) (Heap.get?_push_of_some (seqObj "tuple" vs.toArray 0) bare)
  rw [list_sort_plain]
  refine wpAny_bind (listItems_at at_ rfl (wpAny_bind (listUpdate_at at_ rfl (wpAny_bind (seqEpoch_at bare rfl (wpAny_bind (wpAny_newTuple (wpAny_bind (wpAny_newList (wpAny_holding ?_))))))))))
  dsimp only
  rw [if_pos few', if_pos few']
  refine wpAny_bind (wpAny_pure ?_)
  rw [StateT.run_pure]
  refine wpAny_bind (wpAny_pure (wpAny_bind (seqEpoch_at bare' rfl ?_)))
  rw [show (arrOf (SortSt.mk' general' (vs.toArray.zip vs.toArray) #[] 7 none)).map (·.2) = vs.toArray from zip_snd _]
  refine wpAny_bind (listUpdate_at bare' rfl ?_ (hsz2 := Nat.le_succ_of_le fits))
  simp only [bne_self_eq_false, Bool.false_eq_true, if_false]
  exact wpAny_pure h
theorem sorted_short {l : Addr} {vs : List Value} {Q : Value → Shared → Prop} (hl : s.heap.IsList l vs.toArray) (h2 : vs.length < 2)
    (h : Q (.ref (s.heap.objs.size + 1)) { s with heap := sortedAll s.heap vs vs.toArray }) : wpAny (model prog w) A (call (.builtin "sorted") [.ref l]) Q E s := by
  have fits : vs.length ≤ sizeLine := by rw [sizeLine_eq]; exact Nat.le_trans (Nat.le_of_lt h2) (by decide)
  obtain ⟨H, hH⟩ : ∃ H, (s.heap.push (seqObj "list" #[] 0)).update s.heap.objs.size (Obj.mapSeq (· ++ vs.toArray)) = H := ⟨_, rfl⟩
  have room : H.objs.size = s.heap.objs.size + 1 := by rw [← hH, Heap.size_update, size_push']
  unfold sortedAll at h
  rw [hH, ← room] at h
  refine Calls.call_function_entry kind_sorted plain_sorted entry_sorted (args_sorted1 _) ?_
  unfold Builtin.«sorted»
  refine wpAny_bind (m := checkCount "sorted" 1 1 _) (wpAny_pure (wpAny_bind (collect_list hl ?_ fits)))
  rw [hH]
  refine wpAny_bind (wpAny_newList ?_ fits)
  exact wpAny_bind (wpAny_holding (wpAny_call_entry slot_list_sort ⟨_, Heap.get?_push_size _ rfl, rfl⟩ entry_list_sort (sort_few h2 (Heap.get?_push_size _ rfl) ⟨_, rfl, wpAny_pure ⟨_, rfl, h⟩⟩) (args_list_sort _)))
theorem sorted_rows {l : Addr} {its : List Value} {k : Nat} {vs : List Int} {Q : Value → Shared → Prop} (F : Fr h₀ L s.heap m) (N : News h₀ L s.heap news) (hm : (l, W.listOf its.toArray k) ∈ news) (R : RowsAre news its vs) (hn : vs.Nodup)
    (h : ∀ D e its' vs' h', Fr h₀ L h' m → News h₀ L h' ((D, W.listOf (List.toArray its') e) :: news) → RowsAre news its' vs' → vs'.Perm vs → vs'.Pairwise (fun a b => rank a < rank b) → (∀ q ∈ news, q.1 < D) → Q (.ref D) { s with heap := h' }) :
    wpAny (model prog w) A (call (.builtin "sorted") [.ref l]) Q E s := by
  have hl : s.heap.IsList l its.toArray := ⟨_, (N _ hm).1, rfl, _, rfl⟩
  have hlen := R.length
  have h16 : vs.length ≤ 16 := nodup_len hn R.range
  by_cases h2 : its.length < 2
  · refine sorted_short hl h2 ?_
    obtain ⟨e, he⟩ := sortedAll_at s.heap its its.toArray
    refine h _ e its vs _ (F.kept fun _ _ => sortedAll_old) (N.kept_cons F (fun _ _ => sortedAll_old) (Nat.le_succ _) he) R (List.Perm.refl _) ?_ fun q hq => Nat.lt_succ_of_lt (Heap.lt_size (N q hq).1)
    rw [List.pairwise_iff_getElem]
    intro i j hi hj hij
    omega
  · refine kat_sorted F N hl (by omega) (by omega) fun D e1 h' F' N' l1 => ?_
    have hD : ∀ p ∈ news, p.1 ≠ D := fun p hp => Nat.ne_of_lt (l1 p hp)
    have N'' : News h₀ L h' news := fun p hp => N' p (.tail _ hp)
    have tups : ∀ {is : List Value} {us : List Int}, RowsAre news is us → ∃ fs : List Value, fs.length = us.length ∧ KatTups h' is fs ∧ ∀ v ∈ fs, ∃ x t, v = .str x t := by
      intro is us r
      induction r with
      | nil => exact ⟨[], rfl, KatTups.nil, fun _ h => absurd h List.not_mem_nil⟩
      | cons hm _ _ _ ih =>
        obtain ⟨fs, e1, e2, e3⟩ := ih
        refine ⟨_ :: fs, by simp [e1], KatTups.cons (N'' _ hm).1 rfl rfl rfl e2, fun v hv => ?_⟩
        rcases List.mem_cons.mp hv with rfl | hv
        · exact ⟨_, _, rfl⟩
        · exact e3 v hv
    obtain ⟨fs, hf1, hf2, hf3⟩ := tups R
    refine kat_kind (T := Value.type "str") hf2 (by omega) (fun v hv => by obtain ⟨x, t, rfl⟩ := hf3 v hv; exact Looks.of_pure rfl) rfl ?_
    have hb : (Value.type "str" != Value.type "tuple") = true := by decide
    rw [hb]
    have hr : ∀ i j, i < its.length → j < its.length → rank (vs.getD i 0) = rank (vs.getD j 0) → i = j := by
      intro i j hi hj e
      have hi' : i < vs.length := by omega
      have hj' : j < vs.length := by omega
      have e1 : vs.getD i 0 = vs[i] := by simp [hi']
      have e2 : vs.getD j 0 = vs[j] := by simp [hj']
      rw [e1, e2] at e
      have ri := R.range vs[i] (List.getElem_mem _)
      have rj := R.range vs[j] (List.getElem_mem _)
      have e := rank_inj ri.1 ri.2 rj.1 rj.2 e
      rcases Nat.lt_trichotomy i j with q | q | q
      · exact absurd e (List.pairwise_iff_getElem.mp hn i j hi' hj' q)
      · exact q
      · exact absurd e.symm (List.pairwise_iff_getElem.mp hn j i hj' hi' q)
    refine TW.wp (lt := ltR fun i => rank (vs.getD i 0)) (n := its.length) ?_ _ (TW.mono ?_ _ (sort_TW hr (by omega)))
    · intro i j C hi hj hC
      obtain ⟨a, u, t, t', n, h1, h3, h4, h5, h6⟩ := R.get (i := i) (List.getElem?_eq_getElem hi)
      obtain ⟨b, v, t2, t2', n2, k1, k3, k4, k5, k6⟩ := R.get (i := j) (List.getElem?_eq_getElem hj)
      have e1 : its.getD i Value.none = .ref a := by rw [← h1]; simp [hi]
      have e2 : its.getD j Value.none = .ref b := by rw [← k1]; simp [hj]
      have e3 : vs.getD i 0 = u := by simp [h3]
      have e4 : vs.getD j 0 = v := by simp [k3]
      unfold kas_ask
      rw [e1, e2]
      refine row_lt (N'' _ h4).1 (N'' _ k4).1 h5 h6 k5 k6 ?_
      rw [← e3, ← e4]
      exact hC
    · rintro p ⟨hP, hU⟩
      have hmem : ∀ i ∈ p.toList, i < vs.length := fun i hi => by
        have := (List.Perm.mem_iff hP).mp hi
        rw [List.mem_range] at this
        omega
      refine KasFin.intro F' N' (.head hD) fun h'' c F'' N2 => ?_
      refine h D c _ (p.toList.map fun i => vs.getD i 0) h'' F'' N2 (R.pick p.toList hmem) ?_ ?_ l1
      · have e : (List.range its.length).map (fun i => vs.getD i 0) = vs := by
          rw [hlen]
          apply List.ext_getElem (by simp)
          intro i h1 h2
          simp [h2]
        have := hP.map fun i => vs.getD i 0
        rwa [e] at this
      · rw [List.pairwise_iff_getElem]
        intro i j hi hj hij
        have hs := hP.size
        have hi' : i < p.size := by simpa using hi
        have hj' : j < p.size := by simpa using hj
        have := hU i j hij (by omega)
        have e1 : p.getD i 0 = p[i] := by simp [Array.getD, hi']
        have e2 : p.getD j 0 = p[j] := by simp [Array.getD, hj']
        rw [e1, e2] at this
        simpa using this
end
end Mine
end
section
open PySem PySem.W PyProof.Rows
namespace Mine
local macro_rules | `(tactic| walk_at "flush") => `(tactic| skip)
theorem flushMPlain {prog : Program} {w : World} {A : Around} {Q : Flow → Shared → Prop} {E : Value → Shared → Prop} {s : Shared} {env : Env} (h : wpAny (model prog w) A (execs [] env) Q E s) : wpAny (model prog w) A (execs [] env) Q E s := by
  w_top off
  first | (walk1; fail) | exact h
end Mine
end
section
open PySem PySem.W PyProof.Rows
namespace Mine
set_option maxRecDepth 100000
set_option maxHeartbeats 4000000
def R16 (v : Int) : Prop := 0 ≤ v ∧ v < 16
theorem fin2 {P : Int → Int → Prop} (h : ∀ i j : _root_.Fin 16, P (i.val : Int) (j.val : Int)) {u v : Int} (hu : R16 u) (hv : R16 v) : P u v := by
  have := h ⟨u.toNat, by have := hu.1; have := hu.2; omega⟩ ⟨v.toNat, by have := hv.1; have := hv.2; omega⟩
  simpa only [Int.toNat_of_nonneg hu.1, Int.toNat_of_nonneg hv.1] using this
theorem fin3 {P : Int → Int → Int → Prop} (h : ∀ i j k : _root_.Fin 16, P (i.val : Int) (j.val : Int) (k.val : Int)) {u v x : Int} (hu : R16 u) (hv : R16 v) (hx : R16 x) : P u v x := by
  have := h ⟨u.toNat, by have := hu.1; have := hu.2; omega⟩ ⟨v.toNat, by have := hv.1; have := hv.2; omega⟩ ⟨x.toNat, by have := hx.1; have := hx.2; omega⟩
  simpa only [Int.toNat_of_nonneg hu.1, Int.toNat_of_nonneg hv.1, Int.toNat_of_nonneg hx.1] using this
theorem and16 {u v : Int} (hu : R16 u) (hv : R16 v) : R16 (Builtin.bitAnd u v) := (bits_lt hu.1 hu.2 hv.1 hv.2).1
theorem xor16 {u v : Int} (hu : R16 u) (hv : R16 v) : R16 (Builtin.bitXor u v) := (bits_lt hu.1 hu.2 hv.1 hv.2).2.2
/-! ### what the oracle leaves -/
def turnP (ss : List Int) (kind k x : Int) : Prop :=
  if kind = 2 then ((∀ v ∈ seenT ss k, v = (seenT ss k).getD 0 0) → oddF (Builtin.bitAnd k x) = (seenT ss k).getD 0 0) else passP kind k (commonT (havingT ss kind k)) x = true
theorem mem_turnT {ss : List Int} {kind k x : Int} {left : List Int} : x ∈ turnT ss kind left k ↔ x ∈ left ∧ turnP ss kind k x := by
  unfold turnT turnP
  by_cases h2 : kind = 2
  · rw [if_pos h2, if_pos h2]
    by_cases hA : ∀ v ∈ seenT ss k, v = (seenT ss k).getD 0 0
    · rw [if_pos hA, List.mem_filter, decide_eq_true_eq]
      exact ⟨fun ⟨a, b⟩ => ⟨a, fun _ => b⟩, fun ⟨a, b⟩ => ⟨a, b hA⟩⟩
    · rw [if_neg hA]
      exact ⟨fun a => ⟨a, fun h => absurd h hA⟩, fun ⟨a, _⟩ => a⟩
  · rw [if_neg h2, if_neg h2, List.mem_filter]
theorem mem_toldN {ss : List Int} {kind x : Int} : ∀ n : Nat, x ∈ toldN ss kind n ↔ x ∈ rangeKs 0 16 ∧ ∀ k : Nat, k < n → turnP ss kind (0 + (k : Int)) x
  | 0 => ⟨fun h => ⟨h, fun k hk => by omega⟩, fun h => h.1⟩
  | n + 1 => by
    rw [toldN_succ, mem_turnT, mem_toldN n]
    constructor
    · rintro ⟨⟨a, b⟩, c⟩
      refine ⟨a, fun k hk => ?_⟩
      by_cases e : k = n
      · subst e; exact c
      · exact b k (by omega)
    · rintro ⟨a, b⟩
      exact ⟨⟨a, fun k hk => b k (by omega)⟩, b n (by omega)⟩
theorem mem_range16 {x : Int} : x ∈ rangeKs 0 16 ↔ R16 x := by
  unfold rangeKs R16
  rw [List.mem_map]
  constructor
  · rintro ⟨k, hk, rfl⟩
    rw [List.mem_range] at hk
    omega
  · rintro ⟨h0, h1⟩
    exact ⟨x.toNat, List.mem_range.mpr (by omega), by omega⟩
theorem mem_told {ss : List Int} {kind x : Int} : x ∈ toldN ss kind 16 ↔ R16 x ∧ ∀ k, R16 k → turnP ss kind k x := by
  rw [mem_toldN, mem_range16]
  constructor
  · rintro ⟨a, b⟩
    refine ⟨a, fun k ⟨h0, h1⟩ => ?_⟩
    have := b k.toNat (by omega)
    rwa [show (0 + (k.toNat : Int)) = k by omega] at this
  · rintro ⟨a, b⟩
    exact ⟨a, fun k hk => b _ ⟨by omega, by omega⟩⟩
/-! ### what the table comes to -/
theorem mem_ins {vs : List Int} {v x : Int} : x ∈ ins vs v ↔ x ∈ vs ∨ x = v := by
  unfold ins
  by_cases h : v ∈ vs
  · rw [if_pos h]
    exact ⟨.inl, fun q => q.elim id fun e => e ▸ h⟩
  · rw [if_neg h, List.mem_append, List.mem_singleton]
theorem ins_pre (vs : List Int) (v : Int) : vs <+: ins vs v := by
  unfold ins
  by_cases h : v ∈ vs
  · rw [if_pos h]; exact List.prefix_rfl
  · rw [if_neg h]; exact List.prefix_append _ _
theorem ins_nodup {vs : List Int} {v : Int} (h : vs.Nodup) : (ins vs v).Nodup := by
  unfold ins
  by_cases hv : v ∈ vs
  · rw [if_pos hv]; exact h
  · rw [if_neg hv, List.nodup_append]
    refine ⟨h, by simp, fun a ha b hb => ?_⟩
    rw [List.mem_singleton.mp hb]
    rintro rfl
    exact hv ha
theorem mem_foldins {f : Int → Int} {x : Int} : ∀ (ss vs : List Int), x ∈ ss.foldl (fun vs one => ins vs (f one)) vs ↔ x ∈ vs ∨ ∃ one ∈ ss, x = f one
  | [], vs => by simp
  | s :: ss, vs => by
    rw [List.foldl_cons, mem_foldins ss, mem_ins]
    constructor
    · rintro ((h | h) | ⟨one, h1, h2⟩)
      · exact .inl h
      · exact .inr ⟨s, .head _, h⟩
      · exact .inr ⟨one, .tail _ h1, h2⟩
    · rintro (h | ⟨one, h1, h2⟩)
      · exact .inl (.inl h)
      · rcases List.mem_cons.mp h1 with rfl | h1
        · exact .inl (.inr h2)
        · exact .inr ⟨one, h1, h2⟩
theorem foldins_pre {f : Int → Int} : ∀ (ss vs : List Int), vs <+: ss.foldl (fun vs one => ins vs (f one)) vs
  | [], _ => List.prefix_rfl
  | s :: ss, vs => (ins_pre vs (f s)).trans (foldins_pre ss _)
theorem foldins_nodup {f : Int → Int} : ∀ (ss vs : List Int), vs.Nodup → (ss.foldl (fun vs one => ins vs (f one)) vs).Nodup
  | [], _, h => h
  | s :: ss, _, h => foldins_nodup ss _ (ins_nodup h)
theorem pre_getD {vs ws : List Int} (h : vs <+: ws) {i : Nat} (hi : i < vs.length) : ws.getD i 0 = vs.getD i 0 := by
  obtain ⟨t, rfl⟩ := h
  simp [List.getElem?_append_left hi]
section
variable {ss : List Int} {s0 kind : Int}
theorem run_sound {P : Int → Prop} (hP : ∀ u one, P u → one ∈ ss → P (op s0 kind u one)) : ∀ (f p : Nat) (vs : List Int), (∀ x ∈ vs, P x) → ∀ x ∈ runC ss s0 kind f p vs, P x
  | 0, _, _, h => h
  | f + 1, p, vs, h => by
    unfold runC
    by_cases hc : p < vs.length ∧ p < 16
    · rw [if_pos hc]
      refine run_sound hP f (p + 1) _ fun x hx => ?_
      rcases (mem_foldins (f := op s0 kind (vs.getD p 0)) ss vs).mp hx with hx | ⟨one, h1, rfl⟩
      · exact h x hx
      · refine hP _ one (h _ ?_) h1
        have : vs.getD p 0 = vs[p] := by simp [hc.1]
        rw [this]; exact List.getElem_mem _
    · rw [if_neg hc]; exact h
theorem run_pre : ∀ (f p : Nat) (vs : List Int), vs <+: runC ss s0 kind f p vs
  | 0, _, _ => List.prefix_rfl
  | f + 1, p, vs => by
    unfold runC
    by_cases hc : p < vs.length ∧ p < 16
    · rw [if_pos hc]; exact (foldins_pre (f := op s0 kind (vs.getD p 0)) ss vs).trans (run_pre f (p + 1) _)
    · rw [if_neg hc]; exact List.prefix_rfl
theorem len16 {vs : List Int} (hn : vs.Nodup) (hr : ∀ v ∈ vs, R16 v) : vs.length ≤ 16 := nodup_len hn hr
theorem run_closed (hss : ∀ s ∈ ss, R16 s) (hs0 : R16 s0) : ∀ (f p : Nat) (vs : List Int), 16 ≤ p + f → vs.Nodup → (∀ v ∈ vs, R16 v) → (∀ i, i < p → i < vs.length → ∀ one ∈ ss, op s0 kind (vs.getD i 0) one ∈ vs) →
    ∀ x ∈ runC ss s0 kind f p vs, ∀ one ∈ ss, op s0 kind x one ∈ runC ss s0 kind f p vs
  | f, p, vs, hf, hn, hr, hd => by
    have hlen := len16 hn hr
    have last : (¬ (p < vs.length ∧ p < 16)) → ∀ x ∈ vs, ∀ one ∈ ss, op s0 kind x one ∈ vs := by
      intro hc x hx one h1
      obtain ⟨i, hi, rfl⟩ := List.mem_iff_getElem.mp hx
      have := hd i (by omega) hi one h1
      have e : vs.getD i 0 = vs[i] := by simp [hi]
      rwa [e] at this
    match f with
    | 0 => exact last (by omega)
    | f + 1 =>
      unfold runC
      by_cases hc : p < vs.length ∧ p < 16
      · rw [if_pos hc]
        have hp := foldins_pre (f := op s0 kind (vs.getD p 0)) ss vs
        have hpm : vs.getD p 0 ∈ vs := by
          have : vs.getD p 0 = vs[p] := by simp [hc.1]
          rw [this]; exact List.getElem_mem _
        refine run_closed hss hs0 f (p + 1) _ (by omega) (foldins_nodup ss vs hn) (fun v hv => ?_) fun i hi hil one h1 => ?_
        · rcases (mem_foldins (f := op s0 kind (vs.getD p 0)) ss vs).mp hv with hv | ⟨one, h1, rfl⟩
          · exact hr v hv
          · have h2 := hr _ hpm
            have h3 := hss one h1
            exact op_lt hs0.1 hs0.2 h2.1 h2.2 h3.1 h3.2
        · have hiv : i < vs.length := by omega
          have e : (inner ss s0 kind (vs.getD p 0) vs).getD i 0 = vs.getD i 0 := pre_getD hp hiv
          rw [e]
          by_cases hip : i = p
          · subst hip
            exact (mem_foldins (f := op s0 kind (vs.getD i 0)) ss vs).mpr (.inr ⟨one, h1, rfl⟩)
          · exact hp.subset (hd i (by omega) hiv one h1)
      · rw [if_neg hc]; exact last hc
theorem closed_sound {P : Int → Prop} (h0 : ∀ s ∈ ss, P s) (hP : ∀ u one, P u → one ∈ ss → P (op s0 kind u one)) : ∀ x ∈ closedF ss s0 kind, P x := by
  refine run_sound hP 16 0 _ fun x hx => ?_
  rcases (mem_foldins (f := fun v => v) ss []).mp hx with hx | ⟨one, h1, rfl⟩
  · exact absurd hx List.not_mem_nil
  · exact h0 _ h1
theorem closed_has {s : Int} (h : s ∈ ss) : s ∈ closedF ss s0 kind :=
  (run_pre 16 0 _).subset ((mem_foldins (f := fun v => v) ss []).mpr (.inr ⟨s, h, rfl⟩))
theorem closed_op (hss : ∀ s ∈ ss, R16 s) (hs0 : R16 s0) {x one : Int} (hx : x ∈ closedF ss s0 kind) (h1 : one ∈ ss) : op s0 kind x one ∈ closedF ss s0 kind := by
  refine run_closed hss hs0 16 0 _ (by omega) (foldins_nodup (f := fun v => v) ss [] List.nodup_nil) (fun v hv => ?_) (fun i hi => by omega) x hx one h1
  rcases (mem_foldins (f := fun v => v) ss []).mp hv with hv | ⟨s, h2, rfl⟩
  · exact absurd hv List.not_mem_nil
  · exact hss _ h2
theorem closed_range (hss : ∀ s ∈ ss, R16 s) (hs0 : R16 s0) : ∀ x ∈ closedF ss s0 kind, R16 x :=
  closed_sound hss fun u one hu h1 => op_lt hs0.1 hs0.2 hu.1 hu.2 (hss one h1).1 (hss one h1).2
end
/-! ### and / or -/
abbrev Sub (k a : Int) : Prop := Builtin.bitAnd k a = k
theorem sub_and0 : ∀ k : _root_.Fin 17, ∀ a b : _root_.Fin 16, Sub (k.val : Int) (Builtin.bitAnd (a.val : Int) (b.val : Int)) ↔ Sub (k.val : Int) (a.val : Int) ∧ Sub (k.val : Int) (b.val : Int) := by decide +kernel
theorem sub_and {k a b : Int} (hk : 0 ≤ k) (hk' : k < 17) (ha : R16 a) (hb : R16 b) : Sub k (Builtin.bitAnd a b) ↔ Sub k a ∧ Sub k b := by
  have := sub_and0 ⟨k.toNat, by omega⟩ ⟨a.toNat, by have := ha.1; have := ha.2; omega⟩ ⟨b.toNat, by have := hb.1; have := hb.2; omega⟩
  simpa only [Int.toNat_of_nonneg hk, Int.toNat_of_nonneg ha.1, Int.toNat_of_nonneg hb.1] using this
theorem sub_anti0 : ∀ a b : _root_.Fin 16, Sub (a.val : Int) (b.val : Int) → Sub (b.val : Int) (a.val : Int) → (a.val : Int) = (b.val : Int) := by decide +kernel
theorem sub_anti {a b : Int} (ha : R16 a) (hb : R16 b) (h : Sub a b) (h' : Sub b a) : a = b := fin2 (P := fun a b => Sub a b → Sub b a → a = b) sub_anti0 ha hb h h'
theorem sub_one0 : ∀ a : _root_.Fin 16, Sub (a.val : Int) (a.val : Int) ∧ Sub (a.val : Int) 15 ∧ ¬ Sub 16 (a.val : Int) ∧ Builtin.bitAnd 15 (a.val : Int) = (a.val : Int) := by decide +kernel
theorem sub_one {a : Int} (ha : R16 a) : Sub a a ∧ Sub a 15 ∧ ¬ Sub 16 a ∧ Builtin.bitAnd 15 a = a := fin16 (P := fun a => Sub a a ∧ Sub a 15 ∧ ¬ Sub 16 a ∧ Builtin.bitAnd 15 a = a) sub_one0 ha.1 ha.2
theorem comp_op0 : ∀ u v : _root_.Fin 16, Builtin.bitXor (Builtin.bitAnd (u.val : Int) (v.val : Int)) (15 * 0) = Builtin.bitAnd (Builtin.bitXor (u.val : Int) (15 * 0)) (Builtin.bitXor (v.val : Int) (15 * 0)) ∧
    Builtin.bitXor (Builtin.bitOr (u.val : Int) (v.val : Int)) (15 * 1) = Builtin.bitAnd (Builtin.bitXor (u.val : Int) (15 * 1)) (Builtin.bitXor (v.val : Int) (15 * 1)) ∧
    (Builtin.bitXor (u.val : Int) (15 * 0) = Builtin.bitXor (v.val : Int) (15 * 0) → (u.val : Int) = (v.val : Int)) ∧ (Builtin.bitXor (u.val : Int) (15 * 1) = Builtin.bitXor (v.val : Int) (15 * 1) → (u.val : Int) = (v.val : Int)) := by decide +kernel
section
variable {s0 kind : Int}
theorem comp_op (hk : kind = 0 ∨ kind = 1) {u v : Int} (hu : R16 u) (hv : R16 v) : Builtin.bitXor (op s0 kind u v) (15 * kind) = Builtin.bitAnd (Builtin.bitXor u (15 * kind)) (Builtin.bitXor v (15 * kind)) := by
  rcases hk with rfl | rfl
  · exact (fin2 (P := fun u v => Builtin.bitXor (Builtin.bitAnd u v) (15 * 0) = Builtin.bitAnd (Builtin.bitXor u (15 * 0)) (Builtin.bitXor v (15 * 0))) (fun i j => (comp_op0 i j).1) hu hv)
  · exact (fin2 (P := fun u v => Builtin.bitXor (Builtin.bitOr u v) (15 * 1) = Builtin.bitAnd (Builtin.bitXor u (15 * 1)) (Builtin.bitXor v (15 * 1))) (fun i j => (comp_op0 i j).2.1) hu hv)
theorem comp_inj (hk : kind = 0 ∨ kind = 1) {u v : Int} (hu : R16 u) (hv : R16 v) (h : Builtin.bitXor u (15 * kind) = Builtin.bitXor v (15 * kind)) : u = v := by
  rcases hk with rfl | rfl
  · exact (fin2 (P := fun u v => Builtin.bitXor u (15 * 0) = Builtin.bitXor v (15 * 0) → u = v) (fun i j => (comp_op0 i j).2.2.1) hu hv) h
  · exact (fin2 (P := fun u v => Builtin.bitXor u (15 * 1) = Builtin.bitXor v (15 * 1) → u = v) (fun i j => (comp_op0 i j).2.2.2) hu hv) h
theorem comp16 (hk : kind = 0 ∨ kind = 1) {u : Int} (hu : R16 u) : R16 (Builtin.bitXor u (15 * kind)) := by
  rcases hk with rfl | rfl
  · exact xor16 hu ⟨by decide, by decide⟩
  · exact xor16 hu ⟨by decide, by decide⟩
theorem fold16 : ∀ (hs : List Int) (d : Int), R16 d → (∀ h ∈ hs, R16 h) → R16 (hs.foldl Builtin.bitAnd d)
  | [], _, hd, _ => hd
  | h :: hs, d, hd, hh => fold16 hs _ (and16 hd (hh h (.head _))) fun q hq => hh q (.tail _ hq)
theorem fold_sub : ∀ (hs : List Int) (d : Int), R16 d → (∀ h ∈ hs, R16 h) → Sub (hs.foldl Builtin.bitAnd d) d ∧ ∀ h ∈ hs, Sub (hs.foldl Builtin.bitAnd d) h
  | [], _, hd, _ => ⟨(sub_one hd).1, fun _ h => absurd h List.not_mem_nil⟩
  | h :: hs, d, hd, hh => by
    have hq := fun q hq => hh q (.tail _ hq)
    have h1 := hh h (.head _)
    have hf := fold16 hs _ (and16 hd h1) hq
    obtain ⟨a, b⟩ := fold_sub hs _ (and16 hd h1) hq
    have c := (sub_and hf.1 (by have := hf.2; omega) hd h1).mp a
    refine ⟨c.1, fun q hq' => ?_⟩
    rcases List.mem_cons.mp hq' with rfl | hq'
    · exact c.2
    · exact b q hq'
theorem sub_fold {k : Int} (hk : R16 k) : ∀ (hs : List Int) (d : Int), R16 d → (∀ h ∈ hs, R16 h) → Sub k d → (∀ h ∈ hs, Sub k h) → Sub k (hs.foldl Builtin.bitAnd d)
  | [], _, _, _, a, _ => a
  | h :: hs, d, hd, hh, a, b => by
    have h1 := hh h (.head _)
    exact sub_fold hk hs _ (and16 hd h1) (fun q hq => hh q (.tail _ hq)) ((sub_and hk.1 (by have := hk.2; omega) hd h1).mpr ⟨a, b h (.head _)⟩) fun q hq => b q (.tail _ hq)
theorem pass_iff {k c x : Int} : passP kind k c x = true ↔ (Sub k (Builtin.bitXor x (15 * kind)) → Sub c (Builtin.bitXor x (15 * kind))) := by
  unfold passP keepP Sub
  rw [Bool.or_eq_true, Bool.not_eq_true', decide_eq_false_iff_not, decide_eq_true_eq]
  by_cases h : Builtin.bitAnd k (Builtin.bitXor x (15 * kind)) = k <;> simp [h]
theorem having_mem {ss : List Int} {k h : Int} : h ∈ havingT ss kind k ↔ ∃ one ∈ ss, Sub k (Builtin.bitXor one (15 * kind)) ∧ h = Builtin.bitXor one (15 * kind) := by
  unfold havingT keepP Sub
  rw [List.mem_map]
  constructor
  · rintro ⟨one, h1, rfl⟩
    rw [List.mem_filter, decide_eq_true_eq] at h1
    exact ⟨one, h1.1, h1.2, rfl⟩
  · rintro ⟨one, h1, h2, rfl⟩
    exact ⟨one, by rw [List.mem_filter, decide_eq_true_eq]; exact ⟨h1, h2⟩, rfl⟩
theorem andor {ss : List Int} (hk : kind = 0 ∨ kind = 1) (hss : ∀ s ∈ ss, R16 s) (hs0 : R16 s0) (x : Int) : x ∈ closedF ss s0 kind ↔ x ∈ toldN ss kind 16 := by
  have hne : ¬ kind = 2 := by omega
  have hh : ∀ k, ∀ h ∈ havingT ss kind k, R16 h := fun k h hm => by
    obtain ⟨one, h1, _, rfl⟩ := having_mem.mp hm
    exact comp16 hk (hss one h1)
  have hc : ∀ k, (0 ≤ commonT (havingT ss kind k) ∧ commonT (havingT ss kind k) < 17) ∧ (havingT ss kind k ≠ [] → R16 (commonT (havingT ss kind k)) ∧ commonT (havingT ss kind k) = (havingT ss kind k).foldl Builtin.bitAnd 15) := fun k => by
    unfold commonT
    by_cases e : havingT ss kind k = []
    · rw [if_pos e, e]
      exact ⟨⟨by decide, by decide⟩, fun h => absurd rfl h⟩
    · rw [if_neg e]
      have := fold16 _ 15 ⟨by decide, by decide⟩ (hh k)
      exact ⟨⟨this.1, by have := this.2; omega⟩, fun _ => ⟨this, rfl⟩⟩
  rw [mem_told]
  constructor
  · intro hx
    refine ⟨closed_range hss hs0 x hx, fun k hk16 => ?_⟩
    unfold turnP
    rw [if_neg hne]
    refine closed_sound (P := fun x => R16 x ∧ passP kind k (commonT (havingT ss kind k)) x = true) (fun s hs => ⟨hss s hs, ?_⟩) (fun u one hu h1 => ⟨?_, ?_⟩) x hx |>.2
    · rw [pass_iff]
      intro hsub
      have hm : Builtin.bitXor s (15 * kind) ∈ havingT ss kind k := having_mem.mpr ⟨s, hs, hsub, rfl⟩
      have hnil : havingT ss kind k ≠ [] := List.ne_nil_of_mem hm
      rw [((hc k).2 hnil).2]
      exact (fold_sub _ 15 ⟨by decide, by decide⟩ (hh k)).2 _ hm
    · exact op_lt hs0.1 hs0.2 hu.1.1 hu.1.2 (hss one h1).1 (hss one h1).2
    · have hP1 := pass_iff.mp hu.2
      have hP2 : passP kind k (commonT (havingT ss kind k)) one = true := by
        rw [pass_iff]
        intro hsub
        have hm : Builtin.bitXor one (15 * kind) ∈ havingT ss kind k := having_mem.mpr ⟨one, h1, hsub, rfl⟩
        have hnil : havingT ss kind k ≠ [] := List.ne_nil_of_mem hm
        rw [((hc k).2 hnil).2]
        exact (fold_sub _ 15 ⟨by decide, by decide⟩ (hh k)).2 _ hm
      have hP2 := pass_iff.mp hP2
      rw [pass_iff, comp_op hk hu.1 (hss one h1)]
      have c1 := comp16 hk hu.1
      have c2 := comp16 hk (hss one h1)
      rw [sub_and hk16.1 (by have := hk16.2; omega) c1 c2, sub_and (hc k).1.1 (hc k).1.2 c1 c2]
      exact fun ⟨a, b⟩ => ⟨hP1 a, hP2 b⟩
  · rintro ⟨hx, hall⟩
    have hcx := comp16 hk hx
    have h1 := hall _ hcx
    unfold turnP at h1
    rw [if_neg hne, pass_iff] at h1
    have h2 := h1 (sub_one hcx).1
    generalize hhs : havingT ss kind (Builtin.bitXor x (15 * kind)) = hs at h2
    have hh' : ∀ h ∈ hs, R16 h := hhs ▸ hh _
    have hof : ∀ h ∈ hs, ∃ one ∈ ss, Sub (Builtin.bitXor x (15 * kind)) h ∧ h = Builtin.bitXor one (15 * kind) := fun h hm => by
      rw [← hhs] at hm
      obtain ⟨one, a, b, rfl⟩ := having_mem.mp hm
      exact ⟨one, a, b, rfl⟩
    have key : ∀ (t : List Int) (d : Int), (∃ y ∈ closedF ss s0 kind, Builtin.bitXor y (15 * kind) = d) → (∀ h ∈ t, ∃ one ∈ ss, h = Builtin.bitXor one (15 * kind)) → ∃ y ∈ closedF ss s0 kind, Builtin.bitXor y (15 * kind) = t.foldl Builtin.bitAnd d := by
      intro t
      induction t with
      | nil => intro d hy _; exact hy
      | cons h t ih =>
        rintro d ⟨y, hy, rfl⟩ ht
        obtain ⟨one, ho, rfl⟩ := ht h (.head _)
        rw [List.foldl_cons]
        exact ih _ ⟨_, closed_op hss hs0 hy ho, comp_op hk (closed_range hss hs0 y hy) (hss one ho)⟩ fun q hq => ht q (.tail _ hq)
    cases hs with
    | nil => exact absurd h2 (sub_one hcx).2.2.1
    | cons h t =>
      have e : commonT (h :: t) = t.foldl Builtin.bitAnd h := by
        unfold commonT
        rw [if_neg (by simp), List.foldl_cons, (sub_one (hh' h (.head _))).2.2.2]
      rw [e] at h2
      obtain ⟨one, ho, hso, he⟩ := hof h (.head _)
      obtain ⟨y, hy, hyc⟩ := key t h ⟨one, closed_has ho, he.symm⟩ fun q hq => by
        obtain ⟨one, a, _, b⟩ := hof q (.tail _ hq)
        exact ⟨one, a, b⟩
      have hh1 := hh' h (.head _)
      have hht := fun q hq => hh' q (.tail _ hq)
      have hfR := fold16 t h hh1 hht
      have h3 := sub_fold hcx t h hh1 hht hso fun q hq => (hof q (.tail _ hq)).choose_spec.2.1
      have h4 := sub_anti hfR hcx h2 h3
      have h5 : y = x := comp_inj hk (closed_range hss hs0 y hy) hx (hyc.trans h4)
      exact h5 ▸ hy
end
/-! ### xor -/
def Bf (t x : Int) : Int := oddF (Builtin.bitAnd t x)
theorem Bf01a : ∀ t x : _root_.Fin 16, Bf (t.val : Int) (x.val : Int) = 0 ∨ Bf (t.val : Int) (x.val : Int) = 1 := by decide +kernel
theorem Bf01 {t x : Int} (ht : R16 t) (hx : R16 x) : Bf t x = 0 ∨ Bf t x = 1 := fin2 (P := fun t x => Bf t x = 0 ∨ Bf t x = 1) Bf01a ht hx
theorem Bf_xor0 : ∀ t u v : _root_.Fin 16, Bf (t.val : Int) (Builtin.bitXor (u.val : Int) (v.val : Int)) = (Bf (t.val : Int) (u.val : Int) + Bf (t.val : Int) (v.val : Int)) % 2 ∧ Bf (Builtin.bitXor (u.val : Int) (v.val : Int)) (t.val : Int) = (Bf (u.val : Int) (t.val : Int) + Bf (v.val : Int) (t.val : Int)) % 2 := by decide +kernel
theorem Bf_xor {t u v : Int} (ht : R16 t) (hu : R16 u) (hv : R16 v) : Bf t (Builtin.bitXor u v) = (Bf t u + Bf t v) % 2 := fin3 (P := fun t u v => Bf t (Builtin.bitXor u v) = (Bf t u + Bf t v) % 2) (fun t u v => (Bf_xor0 t u v).1) ht hu hv
theorem Bf_xorL {t u v : Int} (ht : R16 t) (hu : R16 u) (hv : R16 v) : Bf (Builtin.bitXor u v) t = (Bf u t + Bf v t) % 2 := fin3 (P := fun t u v => Bf (Builtin.bitXor u v) t = (Bf u t + Bf v t) % 2) (fun t u v => (Bf_xor0 t u v).2) ht hu hv
theorem Bf_zero0 : ∀ x : _root_.Fin 16, (∀ t : _root_.Fin 16, Bf (t.val : Int) (x.val : Int) = 0) → (x.val : Int) = 0 := by decide +kernel
theorem Bf_zero {x : Int} (hx : R16 x) (h : ∀ t, R16 t → Bf t x = 0) : x = 0 := by
  refine fin16 (P := fun x => (∀ t : _root_.Fin 16, Bf (t.val : Int) x = 0) → x = 0) Bf_zero0 hx.1 hx.2 fun t => h _ ⟨by omega, ?_⟩
  have := t.isLt
  omega
theorem xor_laws0 : ∀ u y d : _root_.Fin 16, Builtin.bitXor (Builtin.bitXor (u.val : Int) (Builtin.bitXor (y.val : Int) (d.val : Int))) (d.val : Int) = Builtin.bitXor (u.val : Int) (y.val : Int) ∧
    Builtin.bitXor (Builtin.bitXor (u.val : Int) (y.val : Int)) (d.val : Int) = Builtin.bitXor (u.val : Int) (Builtin.bitXor (d.val : Int) (y.val : Int)) := by decide +kernel
theorem xor_law1 {u y d : Int} (hu : R16 u) (hy : R16 y) (hd : R16 d) : Builtin.bitXor (Builtin.bitXor u (Builtin.bitXor y d)) d = Builtin.bitXor u y := fin3 (P := fun u y d => Builtin.bitXor (Builtin.bitXor u (Builtin.bitXor y d)) d = Builtin.bitXor u y) (fun u y d => (xor_laws0 u y d).1) hu hy hd
theorem xor_law2 {u y d : Int} (hu : R16 u) (hy : R16 y) (hd : R16 d) : Builtin.bitXor (Builtin.bitXor u y) d = Builtin.bitXor u (Builtin.bitXor d y) := fin3 (P := fun u y d => Builtin.bitXor (Builtin.bitXor u y) d = Builtin.bitXor u (Builtin.bitXor d y)) (fun u y d => (xor_laws0 u y d).2) hu hy hd
theorem xor_self0 : ∀ u v : _root_.Fin 16, Builtin.bitXor (u.val : Int) 0 = (u.val : Int) ∧ Builtin.bitXor (u.val : Int) (Builtin.bitXor (v.val : Int) (u.val : Int)) = (v.val : Int) := by decide +kernel
theorem xor_zero {u : Int} (hu : R16 u) : Builtin.bitXor u 0 = u := fin2 (P := fun u _ => Builtin.bitXor u 0 = u) (fun u v => (xor_self0 u v).1) hu hu
theorem xor_back {u v : Int} (hu : R16 u) (hv : R16 v) : Builtin.bitXor u (Builtin.bitXor v u) = v := fin2 (P := fun u v => Builtin.bitXor u (Builtin.bitXor v u) = v) (fun u v => (xor_self0 u v).2) hu hv
def InSpan : List Int → Int → Prop
  | [], y => y = 0
  | d :: S, y => InSpan S y ∨ InSpan S (Builtin.bitXor y d)
theorem dual : ∀ (S : List Int), (∀ d ∈ S, R16 d) → ∀ y, R16 y → (∀ t, R16 t → (∀ d ∈ S, Bf t d = 0) → Bf t y = 0) → InSpan S y
  | [], _, y, hy, h => Bf_zero hy fun t ht => h t ht fun _ hd => absurd hd List.not_mem_nil
  | d :: S, hS, y, hy, h => by
    have hd := hS d (.head _)
    have hS' := fun q hq => hS q (.tail _ hq)
    have cons : ∀ t, Bf t d = 0 → (∀ q ∈ S, Bf t q = 0) → ∀ q ∈ d :: S, Bf t q = 0 := fun t a b q hq => by
      rcases List.mem_cons.mp hq with rfl | hq
      · exact a
      · exact b q hq
    by_cases hp : ∀ t, R16 t → (∀ q ∈ S, Bf t q = 0) → Bf t d = 0
    · exact .inl (dual S hS' y hy fun t ht hq => h t ht (cons t (hp t ht hq) hq))
    · obtain ⟨t0, hp⟩ := Classical.not_forall.mp hp
      obtain ⟨ht0, hp⟩ := Classical.not_imp.mp hp
      obtain ⟨hq0, hd0⟩ := Classical.not_imp.mp hp
      have hd1 : Bf t0 d = 1 := (Bf01 ht0 hd).resolve_left hd0
      have mix : ∀ t, R16 t → (∀ q ∈ S, Bf t q = 0) → Bf t d = 1 → (Bf t y + Bf t0 y) % 2 = 0 := fun t ht hq h1 => by
        have := h (Builtin.bitXor t t0) (xor16 ht ht0) (cons _ (by rw [Bf_xorL hd ht ht0, h1, hd1]; rfl) fun q hm => by rw [Bf_xorL (hS' q hm) ht ht0, hq q hm, hq0 q hm]; rfl)
        rwa [Bf_xorL hy ht ht0] at this
      rcases Bf01 ht0 hy with e0 | e0
      · refine .inl (dual S hS' y hy fun t ht hq => ?_)
        rcases Bf01 ht hd with ed | ed
        · exact h t ht (cons t ed hq)
        · have := mix t ht hq ed
          rcases Bf01 ht hy with e | e
          · exact e
          · rw [e, e0] at this; exact absurd this (by decide)
      · refine .inr (dual S hS' _ (xor16 hy hd) fun t ht hq => ?_)
        rw [Bf_xor ht hy hd]
        rcases Bf01 ht hd with ed | ed
        · rw [h t ht (cons t ed hq), ed]; rfl
        · have := mix t ht hq ed
          rcases Bf01 ht hy with e | e
          · rw [e, e0] at this; exact absurd this (by decide)
          · rw [e, ed]; rfl
theorem span_in {R : Int → Prop} (hR : ∀ u, R u → R16 u) : ∀ (S : List Int), (∀ d ∈ S, R16 d ∧ ∀ u, R u → R (Builtin.bitXor u d)) → ∀ y, R16 y → InSpan S y → ∀ u, R u → R (Builtin.bitXor u y)
  | [], _, y, _, h, u, hu => by
    have h : y = 0 := h
    rw [h, xor_zero (hR u hu)]; exact hu
  | d :: S, hS, y, hy, h, u, hu => by
    have hd := hS d (.head _)
    have hS' := fun q hq => hS q (.tail _ hq)
    rcases h with h | h
    · exact span_in hR S hS' y hy h u hu
    · have := hd.2 _ (span_in hR S hS' _ (xor16 hy hd.1) h u hu)
      rwa [xor_law1 (hR u hu) hy hd.1] at this
theorem xorlaw {s0 s1 s2 s3 : Int} (hss : ∀ s ∈ [s0, s1, s2, s3], R16 s) (x : Int) : x ∈ closedF [s0, s1, s2, s3] s0 2 ↔ x ∈ toldN [s0, s1, s2, s3] 2 16 := by
  have hs0 := hss s0 (.head _)
  have hall : ∀ t, (∀ v ∈ seenT [s0, s1, s2, s3] t, v = (seenT [s0, s1, s2, s3] t).getD 0 0) ↔ ∀ s ∈ [s0, s1, s2, s3], Bf t s = Bf t s0 := fun t => by
    unfold seenT Bf
    constructor
    · intro h s hs
      exact h _ (List.mem_map.mpr ⟨s, hs, rfl⟩)
    · intro h v hv
      obtain ⟨s, hs, rfl⟩ := List.mem_map.mp hv
      exact h s hs
  have hturn : ∀ t y, turnP [s0, s1, s2, s3] 2 t y ↔ ((∀ s ∈ [s0, s1, s2, s3], Bf t s = Bf t s0) → Bf t y = Bf t s0) := fun t y => by
    unfold turnP
    rw [if_pos rfl, hall t]
    exact Iff.rfl
  rw [mem_told]
  constructor
  · intro hx
    refine ⟨closed_range hss hs0 x hx, fun t ht => (hturn t x).mpr fun hs => ?_⟩
    refine (closed_sound (P := fun x => R16 x ∧ Bf t x = Bf t s0) (fun s h => ⟨hss s h, hs s h⟩) (fun u one hu h1 => ⟨op_lt hs0.1 hs0.2 hu.1.1 hu.1.2 (hss one h1).1 (hss one h1).2, ?_⟩) x hx).2
    have e : op s0 2 u one = Builtin.bitXor (Builtin.bitXor u s0) one := rfl
    rw [e, Bf_xor ht (xor16 hu.1 hs0) (hss one h1), Bf_xor ht hu.1 hs0, hu.2, hs one h1]
    rcases Bf01 ht hs0 with e | e <;> rw [e] <;> rfl
  · rintro ⟨hx, h⟩
    have hstep : ∀ s ∈ [s0, s1, s2, s3], ∀ u, u ∈ closedF [s0, s1, s2, s3] s0 2 → Builtin.bitXor u (Builtin.bitXor s s0) ∈ closedF [s0, s1, s2, s3] s0 2 := fun s hs u hu => by
      have := closed_op hss hs0 hu hs
      have e : op s0 2 u s = Builtin.bitXor (Builtin.bitXor u s0) s := rfl
      rwa [e, xor_law2 (closed_range hss hs0 u hu) hs0 (hss s hs)] at this
    have hin : InSpan [Builtin.bitXor s0 s0, Builtin.bitXor s1 s0, Builtin.bitXor s2 s0, Builtin.bitXor s3 s0] (Builtin.bitXor x s0) := by
      refine dual _ (fun d hd => ?_) _ (xor16 hx hs0) fun t ht hq => ?_
      · have hd : d ∈ [s0, s1, s2, s3].map fun s => Builtin.bitXor s s0 := hd
        obtain ⟨s, hs, rfl⟩ := List.mem_map.mp hd
        exact xor16 (hss s hs) hs0
      · have hs : ∀ s ∈ [s0, s1, s2, s3], Bf t s = Bf t s0 := fun s hs => by
          have hq : ∀ d ∈ [s0, s1, s2, s3].map (fun s => Builtin.bitXor s s0), Bf t d = 0 := hq
          have := hq _ (List.mem_map.mpr ⟨s, hs, rfl⟩)
          rw [Bf_xor ht (hss s hs) hs0] at this
          rcases Bf01 ht (hss s hs) with e | e <;> rcases Bf01 ht hs0 with e' | e' <;> rw [e, e'] at this ⊢ <;> exact absurd this (by decide)
        rw [Bf_xor ht hx hs0, (hturn t x).mp (h t ht) hs]
        rcases Bf01 ht hs0 with e | e <;> rw [e] <;> rfl
    have := span_in (R := fun u => u ∈ closedF [s0, s1, s2, s3] s0 2) (closed_range hss hs0) _ (fun d hd => ?_) _ (xor16 hx hs0) hin s0 (closed_has (.head _))
    · rwa [xor_back hs0 hx] at this
    · have hd : d ∈ [s0, s1, s2, s3].map fun s => Builtin.bitXor s s0 := hd
      obtain ⟨s, hs, rfl⟩ := List.mem_map.mp hd
      exact ⟨xor16 (hss s hs) hs0, hstep s hs⟩
theorem closed_told {s0 s1 s2 s3 kind : Int} (hr : ∀ v ∈ [s0, s1, s2, s3], 0 ≤ v ∧ v < 16) (h0 : 0 ≤ kind) (h3 : kind < 3) (x : Int) : x ∈ closedF [s0, s1, s2, s3] s0 kind ↔ x ∈ toldN [s0, s1, s2, s3] kind 16 := by
  have hk : (kind = 0 ∨ kind = 1) ∨ kind = 2 := by omega
  rcases hk with hk | rfl
  · exact andor hk hr (hr s0 (.head _)) x
  · exact xorlaw hr x
end Mine
end
section
open PySem PySem.W PyProof.Rows
namespace Mine
local macro_rules | `(tactic| walk_at "flush") => `(tactic| skip)
theorem flushMLaw {prog : Program} {w : World} {A : Around} {Q : Flow → Shared → Prop} {E : Value → Shared → Prop} {s : Shared} {env : Env} (h : wpAny (model prog w) A (execs [] env) Q E s) : wpAny (model prog w) A (execs [] env) Q E s := by
  w_top off
  first | (walk1; fail) | exact h
end Mine
end
section
open PySem PySem.W PyProof.Rows
namespace Mine
set_option maxRecDepth 100000
set_option maxHeartbeats 8000000
/-- a call at which the walk stands still -/
def CallStop (P : Prop) : Prop := P
theorem call_stop {P : Prop} (h : CallStop P) : P := h
theorem five (l : List Int) : ∃ a b c d e, l.take 5 ++ [11, 7, 13, 3, 0].drop (l.length : Int).toNat = [a, b, c, d, e] := by
  match l with
  | [] => exact ⟨_, _, _, _, _, rfl⟩
  | [a] => exact ⟨_, _, _, _, _, rfl⟩
  | [a, b] => exact ⟨_, _, _, _, _, rfl⟩
  | [a, b, c] => exact ⟨_, _, _, _, _, rfl⟩
  | [a, b, c, d] => exact ⟨_, _, _, _, _, rfl⟩
  | a :: b :: c :: d :: e :: r =>
    refine ⟨a, b, c, d, e, ?_⟩
    have : ((a :: b :: c :: d :: e :: r).length : Int).toNat = r.length + 5 := by simp only [List.length_cons]; omega
    rw [this, List.drop_eq_nil_of_le (by simp)]
    simp
theorem ints4 {ys : List Value} {a b c d : Int} (h : IntsAre ys [a, b, c, d]) : ∃ t u v x, ys = [.int a t, .int b u, .int c v, .int d x] := by
  match h with
  | .cons _ t (.cons _ u (.cons _ v (.cons _ x .nil))) => exact ⟨t, u, v, x, rfl⟩
theorem four {a b c d v : Value} {i : Nat} (h : (#[a, b, c, d] : Array Value)[i]? = some v) : (i = 0 ∧ v = a) ∨ (i = 1 ∧ v = b) ∨ (i = 2 ∧ v = c) ∨ (i = 3 ∧ v = d) := by
  have hlt : i < 4 := by
    have := (Array.getElem?_eq_some_iff.mp h).1
    simpa using this
  have hi : i = 0 ∨ i = 1 ∨ i = 2 ∨ i = 3 := by omega
  rcases hi with rfl | rfl | rfl | rfl <;> simp at h <;> simp [h]
theorem bn0 : ∀ (k : _root_.Fin 16) (i : _root_.Fin 4), (Builtin.bitAnd ((k.val : Int).fdiv (2 ^ i.val)) 1 ≠ 0 → bitNames (k.val : Int) (i.val + 1) = bitNames (k.val : Int) i.val ++ [Str.ofString (nameAt i.val)]) ∧ (Builtin.bitAnd ((k.val : Int).fdiv (2 ^ i.val)) 1 = 0 → bitNames (k.val : Int) (i.val + 1) = bitNames (k.val : Int) i.val) := by decide +kernel
theorem bn_yes {v : Int} (i : Nat) (h0 : 0 ≤ v) (h1 : v < 16) (hi : i < 4) (h : Builtin.bitAnd (v.fdiv (2 ^ (i : Int).toNat)) 1 ≠ 0) : bitNames v (i + 1) = bitNames v i ++ [Str.ofString (nameAt i)] := by
  have := (bn0 ⟨v.toNat, by omega⟩ ⟨i, hi⟩).1
  simp only [Int.toNat_of_nonneg h0] at this
  exact this h
theorem bn_no {v : Int} (i : Nat) (h0 : 0 ≤ v) (h1 : v < 16) (hi : i < 4) (h : Builtin.bitAnd (v.fdiv (2 ^ (i : Int).toNat)) 1 = 0) : bitNames v (i + 1) = bitNames v i := by
  have := (bn0 ⟨v.toNat, by omega⟩ ⟨i, hi⟩).2
  simp only [Int.toNat_of_nonneg h0] at this
  exact this h
theorem join_len0 : ∀ k : _root_.Fin 16, ((Txt.join (Str.ofString ", ") (bitNames (k.val : Int) 4)).length : Int) < 1000 ∧ ((k.val : Int) = 0 → (Txt.join (Str.ofString ", ") (bitNames (k.val : Int) 4)).length = 0) ∧ ((k.val : Int) ≠ 0 → ((Txt.join (Str.ofString ", ") (bitNames (k.val : Int) 4)).length : Int) ≠ 0) := by decide +kernel
theorem join_len {v : Int} (h0 : 0 ≤ v) (h1 : v < 16) : ((Txt.join (Str.ofString ", ") (bitNames v 4)).length : Int) < 1000 ∧ (v = 0 → (Txt.join (Str.ofString ", ") (bitNames v 4)).length = 0) ∧ (v ≠ 0 → ((Txt.join (Str.ofString ", ") (bitNames v 4)).length : Int) ≠ 0) := by
  have := join_len0 ⟨v.toNat, by omega⟩
  simp only [Int.toNat_of_nonneg h0] at this
  exact this
theorem strs_get : ∀ {vs : List Value} {ns : List Str} {i : Nat} {y : Value}, StrsAre vs ns → vs[i]? = some y → ∃ x t, y = .str x t ∧ ns[i]? = some x
  | _, _, 0, _, .cons v t _, e => by simp at e; exact ⟨v, t, e.symm, rfl⟩
  | _, _, i + 1, _, .cons _ _ h, e => by
    obtain ⟨v, t, h1, h2⟩ := strs_get (i := i) h (by simpa using e)
    exact ⟨v, t, h1, by simpa using h2⟩
theorem mem_rot7 {a b c d e f g t p : Addr × Obj} {nw : List (Addr × Obj)} (h : p ∈ a :: b :: c :: d :: e :: f :: g :: t :: nw) : p ∈ t :: a :: b :: c :: d :: e :: f :: g :: nw := by
  have h : p ∈ [a, b, c, d, e, f, g] ++ (t :: nw) := h
  show p ∈ t :: ([a, b, c, d, e, f, g] ++ nw)
  rcases List.mem_append.mp h with h | h
  · exact .tail _ (List.mem_append_left _ h)
  · rcases List.mem_cons.mp h with rfl | h
    · exact .head _
    · exact .tail _ (List.mem_append_right _ h)
theorem off7 {z TI TO i1 i2 C D T : Addr} {oz oTI oTO o1 o2 oC oD : Obj} {nw : List (Addr × Obj)} (h : ∀ p ∈ (z, oz) :: (TI, oTI) :: (TO, oTO) :: (i1, o1) :: (i2, o2) :: (C, oC) :: (D, oD) :: nw, p.1 < T) : T ∉ [z, TI, TO, i1, i2] ∧ T ≠ C ∧ T ≠ D := by
  have ne : ∀ p ∈ (z, oz) :: (TI, oTI) :: (TO, oTO) :: (i1, o1) :: (i2, o2) :: (C, oC) :: (D, oD) :: nw, T ≠ p.1 := fun p hp => Nat.ne_of_gt (h p hp)
  refine ⟨fun hT => ?_, ne _ (.tail _ (.tail _ (.tail _ (.tail _ (.tail _ (.head _)))))), ne _ (.tail _ (.tail _ (.tail _ (.tail _ (.tail _ (.tail _ (.head _))))))) ⟩
  rcases List.mem_cons.mp hT with e | hT
  · exact ne _ (.head _) e
  · rcases List.mem_cons.mp hT with e | hT
    · exact ne _ (.tail _ (.head _)) e
    · rcases List.mem_cons.mp hT with e | hT
      · exact ne _ (.tail _ (.tail _ (.head _))) e
      · rcases List.mem_cons.mp hT with e | hT
        · exact ne _ (.tail _ (.tail _ (.tail _ (.head _)))) e
        · exact ne _ (.tail _ (.tail _ (.tail _ (.tail _ (.head _))))) (List.mem_singleton.mp hT)
theorem told_nodup (ss : List Int) (kind : Int) (n : Nat) : (toldN ss kind n).Nodup := (toldN_sub ss kind n).nodup (by decide)
theorem news_back2 {g h : Heap} {L : Addr} {news n9 : List (Addr × Obj)} {b : Addr × Obj} (N : News g L h n9) (hb : b ∈ n9) (hsub : ∀ p ∈ news, p ∈ n9) : News g L h (b :: (news ++ n9)) := fun p hp => by
  rcases List.mem_cons.mp hp with rfl | hp
  · exact N _ hb
  · rcases List.mem_append.mp hp with hp | hp
    · exact N p (hsub p hp)
    · exact N p hp
theorem up_tail {p : Addr × Obj} {n : List (Addr × Obj)} {a b c d e f i j k l x : Addr × Obj} (h : p ∈ n) : p ∈ a :: b :: c :: d :: e :: f :: i :: j :: k :: l :: x :: n :=
  List.mem_append_right [a, b, c, d, e, f, i, j, k, l, x] h
theorem news_back {g h : Heap} {L : Addr} {news n9 : List (Addr × Obj)} {b : Addr × Obj} (N : News g L h n9) (hb : b ∈ n9) (hsub : ∀ p ∈ news, p ∈ n9) : News g L h (b :: news) := fun p hp => by
  rcases List.mem_cons.mp hp with rfl | hp
  · exact N _ hb
  · exact N p (hsub p hp)
section
local macro_rules | `(tactic| walk_at "call ref") => `(tactic| (k_here; (with_reducible show wpAny _ _ (call (Value.ref 224) _ _) _ _ _); refine call_stop ?_))
local macro_rules | `(tactic| walk_at "call ref") => `(tactic| (k_here; (with_reducible show wpAny _ _ (call (Value.ref 219) _ _) _ _ _); refine call_stop ?_))
local macro_rules | `(tactic| walk_at "exec Assign cons ListComp") => `(tactic| (k_here; k_dflt (refine LCg.Assign_ListComp_U (F₀ := by k_asm) (by rfl) (by with_unfolding_all rfl) (by with_unfolding_all rfl) (by decide) (by rfl) (by decide) (by rfl) (by rfl) (by rfl) (as_U ?_))))
local macro_rules | `(tactic| walk_at "exec Assign cons ListComp") => `(tactic| (k_here; k_dflt (refine assign_cell_comp (by k_asm) (by rfl) (by with_unfolding_all rfl) (by with_unfolding_all rfl) (by rfl) (by decide) (by rfl) (fun _ => rfl) (fun _ => rfl) (by rfl) (by rfl) ?_)))
local macro_rules | `(tactic| walk_at "call builtin:sorted") => `(tactic| (k_here; refine call_stop ?_))
local macro_rules | `(tactic| walk_at "compareOp Eq ref ref") => `(tactic| (k_here; refine call_stop ?_))
local macro_rules | `(tactic| walk_at "call type:zip") => `(tactic| (k_here; refine call_stop ?_))
local macro_rules | `(tactic| walk_at "eval ListComp") => `(tactic| (k_here; (with_reducible show wpAny _ _ (eval (PySem.Expr.ListComp _ [PySem.Comprehension.mk (PySem.Expr.Tuple _ _ _) _ [] _] _ _) _) _ _ _); k_dflt (refine comp_pairs (ct := none) (by k_asm) (by with_unfolding_all rfl) (by decide) (by rfl) (by decide) (by rfl) (by rfl) (by decide) ?_)))
local macro_rules | `(tactic| walk_at "call type:enumerate") => `(tactic| (k_here; refine call_stop ?_))
local macro_rules | `(tactic| walk_at "eval ListComp") => `(tactic| (k_here; (with_reducible show wpAny _ _ (eval (PySem.Expr.ListComp _ [PySem.Comprehension.mk (PySem.Expr.Tuple _ _ _) _ [_] _] _ _) _) _ _ _); k_dflt (refine comp_pairs (ct := some _) (by k_asm) (by with_unfolding_all rfl) (by decide) (by rfl) (by decide) (by rfl) (by rfl) (by decide) ?_)))
theorem X : PySem.Challenge.rw_wa0040_01.Holds := Mine.hd (by
  w_strict (
    k_go0
    (all_goals try k_fold)
    (iterate 51 (first | walk1 | (dsimp only; walk1)))
    rename IntsAre _ (List.take 5 _) => hI5
    rename Fr _ _ _ _ => F6
    rename News _ _ _ _ => N6
    k_dflt (refine kba_turn (value' := PySem.Expr.Name (PySem.Str.ofString "_") ⟨0, 0, 0, 0⟩) (fun _ => rfl) ?_)
    k_dflt (refine kmk_slice_ints (vs := [.int 11 _, .int 7 _, .int 13 _, .int 3 _, .int 0 _]) (ns := [11, 7, 13, 3, 0]) F6 N6 (News.isList N6 (.head _)) (.int _ _) .none (.cons _ _ (.cons _ _ (.cons _ _ (.cons _ _ (.cons _ _ .nil))))) (kmk_from (.cons _ _ (.cons _ _ (.cons _ _ (.cons _ _ (.cons _ _ .nil))))) (by omega)) rfl ?_ (by with_unfolding_all rfl) (by kmk_pure) (by rw [sizeLine_eq]; exact Nat.le_of_ble_eq_true rfl))
    intro D7 ws7 h7 F7 N7 l7 hI7 _ _
    (try dsimp only)
    k_steps
    rename IntsAre _ (List.take 4 _) => hI4
    rename IntsAre _ (List.take 5 _ ++ _) => hIn
    obtain ⟨n0, n1, n2, n3, n4, e5⟩ := five _
    rw [e5] at hI4 hIn
    rename Fr _ _ _ _ => F8
    rename News _ _ _ _ => N8
    have hz := hI4.length
    refine LCg.CompSrc.ledger rfl F8 N8 (.head _) (by rw [sizeLine_eq, List.size_toArray, hz]; exact Nat.le_of_ble_eq_true rfl) fun g9 => ?_
    refine intsU (fun v => Int.fmod v 16) hI4 ?_ ?_
    · intro k t I oI C oC D ys m4 h4 tk4 E4 hk hC hx F4 N4 off ne
      k_steps
      exact LCg.CompEnd.intro (by assumption) (by assumption) _ (fun _ h => h) off (.inr ⟨_, .head _, rfl, _, rfl⟩) ⟨rfl, _, rfl⟩
    intro ys hys D9 h9 tk9 F9 N9 off9
    obtain ⟨t0, t1, t2, t3, rfl⟩ := ints4 hys
    clear F8 N8
    k_steps
    unfold CallStop
    rename Fr _ _ _ _ => F10
    rename News _ _ _ _ => N10
    have hr16 : ∀ v ∈ [Int.fmod n0 16, Int.fmod n1 16, Int.fmod n2 16, Int.fmod n3 16], 0 ≤ v ∧ v < 16 := by
      have key : ∀ n : Int, 0 ≤ Int.fmod n 16 ∧ Int.fmod n 16 < 16 := fun n => ⟨Int.fmod_nonneg_of_pos n (by decide), Int.fmod_lt_of_pos n (by decide)⟩
      intro v hv
      simp only [List.mem_cons, List.not_mem_nil, or_false] at hv
      rcases hv with rfl | rfl | rfl | rfl <;> exact key _
    have hk0 : 0 ≤ Int.fmod n4 3 := Int.fmod_nonneg_of_pos n4 (by decide)
    have hk3 : Int.fmod n4 3 < 3 := Int.fmod_lt_of_pos n4 (by decide)
    k_dflt (refine Ctr.use (told_ctr _ D9 _ (Int.fmod n0 16) (Int.fmod n1 16) (Int.fmod n2 16) (Int.fmod n3 16) (Int.fmod n4 3) _ _ _ _ _ _ (.head _) hr16 hk0 hk3) (by k_asm) F10 (by k_asm) N10 (by k_asm) rfl ?kd ?ku ?_)
    · decide +kernel
    · decide +kernel
    rintro r9 n9 h11 tk11 F11 N11 ⟨b, its, nb, rfl, hb, hits, hsub⟩
    replace N11 := news_back N11 hb hsub
    clear F10 N10
    k_steps
    have hlen := hits.length
    have hlt3 := (toldN_sub [Int.fmod n0 16, Int.fmod n1 16, Int.fmod n2 16, Int.fmod n3 16] (Int.fmod n4 3) 16).length_le
    rw [rangeKs_length] at hlt3
    rename Fr _ _ _ _ => F12
    rename News _ _ _ _ => N12
    refine ⟨b, its.toArray, nb, _, fun i ys => StrsAre ys (((toldN [Int.fmod n0 16, Int.fmod n1 16, Int.fmod n2 16, Int.fmod n3 16] (Int.fmod n4 3) 16).take i).map word), rfl, rfl, F12, N12, .head _, by rw [sizeLine_eq, List.size_toArray]; omega, .nil, ?_, ?_⟩
    · intro i v ys I oI K oK C oC D h13 tk13 E' hv hys hoK F13 N13 hne
      clear F12 N12
      obtain ⟨one, t8, rfl, hone⟩ := ints_at hits (by simpa using hv)
      k_steps
      unfold CallStop
      have ⟨hone0, hone16⟩ := mem_rangeKs ((toldN_sub [Int.fmod n0 16, Int.fmod n1 16, Int.fmod n2 16, Int.fmod n3 16] (Int.fmod n4 3) 16).subset (List.mem_of_getElem? hone))
      rename Fr _ _ _ _ => F14
      rename News _ _ _ _ => N14
      refine call_enum_W (its := #[_, _, _, _]) (k := 0) (Inv := fun i ys nw => nw = _ ∧ StrsAre ys (bitNames one i)) rfl F14 N14 (by repeat (first | exact .head _ | refine .tail _ ?_)) (by rw [sizeLine_eq]; exact Nat.le_of_ble_eq_true rfl) ⟨rfl, .nil⟩ ?_ ?_
      · rintro j v t6 ys6 nw e it C6 D6 oe oi oC6 m6 h6 tk6 E6 hv6 ⟨rfl, hys6⟩ hl6 hC6 ha6 hb6 F6 N6 off6 hw6 hCD6
        unfold TurnW
        dsimp only
        clear F14 N14
        rcases four hv6 with ⟨rfl, rfl⟩ | ⟨rfl, rfl⟩ | ⟨rfl, rfl⟩ | ⟨rfl, rfl⟩
        · replace ha6 : m6 (Str.ofString "k") = some (.int 0 t6) := ha6
          k_steps
          · exact EndW.intro _ (by assumption) (by assumption) (fun _ h => h) (fun p hp => by rw [List.mem_singleton.mp hp]; exact hl6) off6 ⟨rfl, by rw [bn_yes 0 hone0 hone16 (by decide) (by assumption)]; exact kct_snoc hys6⟩
          · exact EndW.intro _ (by assumption) (by assumption) (fun _ h => h) (fun p hp => by rw [List.mem_singleton.mp hp]; exact hl6) off6 ⟨rfl, by rw [bn_no 0 hone0 hone16 (by decide) (by assumption)]; exact hys6⟩
        · replace ha6 : m6 (Str.ofString "k") = some (.int 1 t6) := ha6
          k_steps
          · exact EndW.intro _ (by assumption) (by assumption) (fun _ h => h) (fun p hp => by rw [List.mem_singleton.mp hp]; exact hl6) off6 ⟨rfl, by rw [bn_yes 1 hone0 hone16 (by decide) (by assumption)]; exact kct_snoc hys6⟩
          · exact EndW.intro _ (by assumption) (by assumption) (fun _ h => h) (fun p hp => by rw [List.mem_singleton.mp hp]; exact hl6) off6 ⟨rfl, by rw [bn_no 1 hone0 hone16 (by decide) (by assumption)]; exact hys6⟩
        · replace ha6 : m6 (Str.ofString "k") = some (.int 2 t6) := ha6
          k_steps
          · exact EndW.intro _ (by assumption) (by assumption) (fun _ h => h) (fun p hp => by rw [List.mem_singleton.mp hp]; exact hl6) off6 ⟨rfl, by rw [bn_yes 2 hone0 hone16 (by decide) (by assumption)]; exact kct_snoc hys6⟩
          · exact EndW.intro _ (by assumption) (by assumption) (fun _ h => h) (fun p hp => by rw [List.mem_singleton.mp hp]; exact hl6) off6 ⟨rfl, by rw [bn_no 2 hone0 hone16 (by decide) (by assumption)]; exact hys6⟩
        · replace ha6 : m6 (Str.ofString "k") = some (.int 3 t6) := ha6
          k_steps
          · exact EndW.intro _ (by assumption) (by assumption) (fun _ h => h) (fun p hp => by rw [List.mem_singleton.mp hp]; exact hl6) off6 ⟨rfl, by rw [bn_yes 3 hone0 hone16 (by decide) (by assumption)]; exact kct_snoc hys6⟩
          · exact EndW.intro _ (by assumption) (by assumption) (fun _ h => h) (fun p hp => by rw [List.mem_singleton.mp hp]; exact hl6) off6 ⟨rfl, by rw [bn_no 3 hone0 hone16 (by decide) (by assumption)]; exact hys6⟩
      · rintro g ys7 nw7 ⟨rfl, hys7⟩ D7' h7' tk7' F7' N7' off7'
        clear F14 N14
        k_steps
        refine join_listW (News.isList N7' (.head _)) (ys := bitNames one 4) hys7 (by decide) (bitNames_weight one) ?_
        intro t9 k9
        k_steps
        have ⟨hj1, hj2, hj3⟩ := join_len hone0 hone16
        refine P.truthy_str (by omega) ?_
        by_cases h00 : one = 0
        · rw [show (((Txt.join (Str.ofString ", ") (bitNames one 4)).length : Int) != 0) = false from by rw [hj2 h00]; rfl]
          k_steps
          · exact F7'
          · exact fun p hp => N7' p (.tail _ hp)
          · rw [List.take_add_one, hone, Option.toList_some, List.map_append, List.map_singleton, show word one = Str.ofString "0x0" from if_pos h00]
            exact kct_snoc hys
        · rw [show (((Txt.join (Str.ofString ", ") (bitNames one 4)).length : Int) != 0) = true from bne_iff_ne.mpr (hj3 h00)]
          k_steps
          · exact F7'
          · exact fun p hp => N7' p (.tail _ hp)
          · rw [List.take_add_one, hone, Option.toList_some, List.map_append, List.map_singleton, show word one = Txt.join (Str.ofString ", ") (bitNames one 4) from if_neg h00]
            exact kct_snoc hys
    · rintro ys hys D3 h3 tk3 F3 N3 off3
      rw [List.size_toArray, hlen, List.take_length] at hys
      clear F12 N12
      k_steps
      unfold CallStop
      rename Fr _ _ _ _ => F15
      rename News _ _ _ _ => N15
      k_dflt (refine Ctr.use (closed_ctr _ D9 _ (Int.fmod n0 16) (Int.fmod n1 16) (Int.fmod n2 16) (Int.fmod n3 16) (Int.fmod n4 3) _ _ _ _ _ _ (by repeat (first | exact .head _ | refine .tail _ ?_)) hr16) (by k_asm) F15 (by k_asm) N15 (by k_asm) rfl ?kd2 ?ku2 ?_)
      · decide +kernel
      · decide +kernel
      rintro r10 n10 h12 tk12 F16 N16 ⟨b2, rows, nb2, rfl, hb2, hrows, hnd, hsub2⟩
      replace N16 := news_back2 N16 hb2 hsub2
      simp only [List.cons_append, List.nil_append] at N16
      clear F15 N15
      k_steps
      unfold CallStop
      rename Fr _ _ _ _ => F17
      rename News _ _ _ _ => N17
      refine sorted_rows F17 N17 (.head _) (hrows.mono fun _ _ _ _ _ h => up_tail h) hnd ?_
      intro D18 e18 its18 vs18 h18 F18 N18 R18 perm18 srt18 l18
      clear F17 N17
      k_steps
      unfold CallStop
      rename Fr _ _ _ _ => F19
      rename News _ _ _ _ => N19
      have hylen := hys.len_eq
      rw [List.length_map] at hylen
      refine call_zip_W (xs := ys.toArray) (ys₀ := its.toArray) (k1 := ys.length) (k2 := nb) (Inv := fun i zs nw => (∀ p ∈ _, p ∈ nw) ∧ RowsAre nw zs ((toldN [Int.fmod n0 16, Int.fmod n1 16, Int.fmod n2 16, Int.fmod n3 16] (Int.fmod n4 3) 16).take i)) rfl F19 N19 (by repeat (first | exact .head _ | refine .tail _ ?_)) (by repeat (first | exact .head _ | refine .tail _ ?_)) (by rw [sizeLine_eq, List.size_toArray]; omega) ⟨fun _ h => h, .nil⟩ ?_ ?_
      · rintro i u v zs nw z TI TO i1 i2 C D oz oTI oTO o1 o2 oC m₂ h tk E' hu hv ⟨hled, hzs⟩ hn1 hn2 hC ha hb F20 N20 off20 hw hCD
        obtain ⟨one, t8, rfl, hone⟩ := ints_at hits (by simpa using hv)
        obtain ⟨x, t9, rfl, hx⟩ := strs_get hys (by simpa using hu)
        rw [List.getElem?_map, hone] at hx
        obtain rfl : word one = x := by simpa using hx
        have ⟨hone0, hone16⟩ := mem_rangeKs ((toldN_sub [Int.fmod n0 16, Int.fmod n1 16, Int.fmod n2 16, Int.fmod n3 16] (Int.fmod n4 3) 16).subset (List.mem_of_getElem? hone))
        unfold TurnW
        dsimp only
        clear F19 N19
        k_steps
        rename Fr _ _ _ _ => F21
        rename News _ _ _ _ => N21
        rename z < _ ∧ _ => lT
        have hlt := kst_ltOf (l := (z, oz) :: (TI, oTI) :: (TO, oTO) :: (i1, o1) :: (i2, o2) :: (C, oC) :: (D, LCg.lst zs) :: nw) lT
        refine EndW.intro ((_, rowObj one _ _ _) :: nw) F21 N21 (fun p hp => mem_rot7 hp) (fun p hp => ?_) (fun p hp => ?_) ⟨fun p hp => .tail _ (hled p hp), ?_⟩
        · rcases List.mem_cons.mp hp with rfl | hp
          · exact .tail _ hn1
          · rw [List.mem_singleton.mp hp]; exact .tail _ hn2
        · rcases List.mem_cons.mp hp with rfl | hp
          · exact off7 hlt
          · exact off20 p hp
        · rw [List.take_add_one, hone, Option.toList_some]
          exact RowsAre.snoc (.head _) hone0 hone16 (hzs.mono fun _ _ _ _ _ h => .tail _ h)
      · rintro g zs nw ⟨hled, hzs⟩ D20 h20 tk20 F20 N20 off20
        clear F19 N19
        rw [List.size_toArray, List.size_toArray, hylen, hlen, Nat.min_self, List.take_length] at hzs
        k_steps
        unfold CallStop
        rename Fr _ _ _ _ => F21
        rename News _ _ _ _ => N21
        refine sorted_rows F21 N21 (.head _) (hzs.mono fun _ _ _ _ _ h => .tail _ h) (told_nodup _ _ _) ?_
        intro D22 e22 its22 vs22 h22 F22 N22 R22 perm22 srt22 l22
        clear F21 N21
        k_steps
        unfold CallStop
        refine eq_rows N22 (.tail _ (.tail _ (hled _ (.head _)))) (.head _) (R18.mono fun _ _ _ _ _ h => .tail _ (.tail _ (hled _ (.tail _ h)))) (R22.mono fun _ _ _ _ _ h => .tail _ h) (rank_sorted_eq srt18 srt22 fun x => (perm18.mem_iff).trans ((closed_told hr16 hk0 hk3 x).trans perm22.mem_iff.symm)) ?hu5 ?_
        · ke_room
        k_steps))
end
end Mine
end
theorem PySem.Challenge.cw_wa0040_01_holds : PySem.Challenge.rw_wa0040_01.Holds :=
  Mine.X
