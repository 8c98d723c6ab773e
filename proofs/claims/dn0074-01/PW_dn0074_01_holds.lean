import PyProof.Rows.All
import Wide.All
import OpenK.AllK
import Wide.FinOn
import PySem.Challenge.RW_dn0074_01
open PySem PySem.W PyProof.Rows
set_option compiler.extract_closed false
set_option Elab.async false
set_option maxRecDepth 100000
set_option maxHeartbeats 8000000
namespace Mine
open PySem PySem.W PySem.Calls PyProof.Rows
open_top hd for PySem.Challenge.rw_dn0074_01
theorem fill : Challenge.rw_dn0074_01.row.prog = Challenge.rw_dn0074_01.row.prog ∧ hd.heap_39 = hd.heap_39 := by
  k_fill
  exact ⟨rfl, rfl⟩

abbrev prg : Program := Challenge.rw_dn0074_01.row.prog
abbrev TR (mg mb : Str → Option Value) (h : Heap) : Prop := TopRead hd.view_39 (looseW hd.view_39 [Str.ofString "_NodeInfo"]) mg mb h

/-- the canonical surroundings: nothing handled, no frames told -/
abbrev AS (d u : Nat) : Around := { handled := none, depth := d, frames := none, guards := none, units := u }

theorem codeAny_AS {M : Model} {A : Around} {c : Code} {R : Result → Shared → Prop} {s : Shared} {d u : Nat}
    (hh : A.handled = none) (hd : A.depth ≤ d) (hu : A.units ≤ u) (h : codeAny M (AS d u) c R s) : codeAny M A c R s :=
  fun Γ p hc hΓ => h Γ p hc ⟨hΓ.1.trans hh, Nat.le_trans hΓ.2.1 hd, (fun _ e => nomatch e), (fun _ e => nomatch e), Nat.le_trans hΓ.2.2.2.2 hu⟩

/-- what a call needs of the text's own part -/
structure Gnd (w : World) (mg mb : Str → Option Value) (h₀ : Heap) : Prop where
  X : (hd.heap_39 w.params).In h₀
  T : TR mg mb h₀

theorem Gnd.keeps {w : World} {mg mb : Str → Option Value} {h h' : Heap} (G : Gnd w mg mb h) (hk : ∀ b o, h.get? b = some o → h'.get? b = some o) : Gnd w mg mb h' :=
  ⟨G.X.keeps hk, G.T.keeps hk⟩

/-- the heap behind a call that may turn the objects of `M` alone -/
def Kept (M : List Addr) (h h' : Heap) : Prop := ∀ b o, b ∉ M → h.get? b = some o → h'.get? b = some o

theorem Kept.refl (M : List Addr) (h : Heap) : Kept M h h := fun _ _ _ e => e
theorem Kept.trans {M : List Addr} {a b c : Heap} (x : Kept M a b) (y : Kept M b c) : Kept M a c := fun d o n e => y d o n (x d o n e)
theorem Kept.mono {M M' : List Addr} {a b : Heap} (x : Kept M a b) (hs : ∀ d ∈ M, d ∈ M') : Kept M' a b := fun d o n e => x d o (fun q => n (hs d q)) e

/-- entering a plain def of the text: its frame stands over the caller's whole heap less the objects that it may turn -/
theorem enter {w : World} {A : Around} {s : Shared} {mg mb : Str → Option Value} {h₀ : Heap} {R : Result → Shared → Prop} {led : List (Addr × Obj)}
    {name qual : Str} {params : Arguments} {body : List Stmt} {scope : Scope} {dV kV doc pm cdv ct oc : Value} {an od : Option Addr} {osl : Array (Option Value)} {f : Addr} {args : Args} {binds : List (Str × Value)}
    (G : Gnd w mg mb h₀) (hk : ∀ b o, h₀.get? b = some o → s.heap.get? b = some o) (hl : ∀ p ∈ led, s.heap.get? p.1 = some p.2 ∧ h₀.get? p.1 = none)
    (ho : (hd.heap_39 w.params).lookup f = some ⟨oc, od, .func (fnOf name qual params body scope dV kV doc pm an cdv ct), osl⟩) (hcd : codeIn (hd.heap_39 w.params) cdv qual = true) (hroom : A.depth < recursionLimit)
    (hbind : BindsTo s (fnOf name qual params body scope dV kV doc pm an cdv ct) args binds) (hloc : ∀ y ∈ binds, scope.names.lookup y.1 = some .local)
    (h : ∀ g h₁, Gnd w mg mb g → Kept (led.map (·.1)) s.heap g → Kept [] s.heap h₁ → Fr g s.heap.objs.size h₁ (fun y => binds.reverse.lookup y) → News g s.heap.objs.size h₁ led →
      wpAny (model prg w) (A.deeper (envOf qual scope s.heap.objs.size f cdv)) (execs body (envOf qual scope s.heap.objs.size f cdv))
        (fun fl s' => R (.ok (.ret (match fl with | .ret v => v | _ => .none))) s')
        (fun _ _ => False)
        { s with heap := h₁, toks := s.toks + binds.length })
    (hco : scope.isCoroutine = false := by rfl) (hgen : scope.isGenerator = false := by rfl) (hkd : scope.kind = .function := by rfl)
    (hcell : ∀ x ∈ scope.names, x.2 ≠ .cell := by decide) : codeAny (model prg w) A (.call (.ref f) args) R s := by
  have X := G.X.keeps hk
  refine codeAny_call_def (fd := fnOf name qual params body scope dV kV doc pm an cdv ct) (body := body) (binds := binds) hroom (X _ _ ho) rfl (G.T.nolimit.keeps hk) (codeRec_of X hcd) rfl hbind hcell hloc (fun h₁ hns hk₁ => ?_) hco hgen hkd
  have nm : ∀ b o, h₀.get? b = some o → b ∉ led.map (·.1) := fun b o e q => by
    obtain ⟨p, hp, rfl⟩ := List.mem_map.mp q
    rw [(hl p hp).2] at e; cases e
  have st : ∀ b o, h₀.get? b = some o → (hideAll s.heap (led.map (·.1))).get? b = some o := fun b o e => hideAll_get _ (hk b o e) (nm b o e)
  refine wpAny_mono (h (hideAll s.heap (led.map (·.1))) h₁ (G.keeps st) (fun b o n e => hideAll_get _ e n) (fun b o _ e => hk₁ b o e) ⟨hns, fun b o e => hk₁ b o (of_hideAll _ e), Nat.le_of_eq (hideAll_size _ _)⟩
    (fun p hp => ⟨hk₁ _ _ (hl p hp).1, Nat.ne_of_lt (Heap.lt_size (hl p hp).1), hideAll_none _ (List.mem_map_of_mem hp)⟩)) (fun _ _ x => x) fun _ _ x => x.elim

/-- the caller's frame and ledger behind such a call -/
theorem Fr.behind {h₀ h h' : Heap} {L : Addr} {m : Str → Option Value} {M : List Addr} (F : Fr h₀ L h m) (hM : ∀ a ∈ M, h₀.get? a = none) (hL : L ∉ M) (k : Kept M h h') : Fr h₀ L h' m := by
  obtain ⟨⟨o, es, ep, ho, r⟩, keep, above⟩ := F
  exact ⟨⟨o, es, ep, k _ _ hL ho, r⟩, fun b o e => k b o (fun q => by rw [hM b q] at e; cases e) (keep b o e), above⟩
theorem all1 {α : Type} {P : α → Prop} {a : α} (h : P a) : ∀ p ∈ [a], P p := List.forall_mem_cons.mpr ⟨h, List.forall_mem_nil _⟩
theorem all2 {α : Type} {P : α → Prop} {a b : α} (h : P a) (h' : P b) : ∀ p ∈ [a, b], P p := List.forall_mem_cons.mpr ⟨h, all1 h'⟩
/-- every object of `h` beside the frame's names, `d`, and what the base holds -/
def restOf (g : Heap) (L d : Addr) (h : Heap) : List (Addr × Obj) :=
  (List.range h.objs.size).filterMap fun a => (h.get? a).bind fun o => if a ≠ L ∧ a ≠ d ∧ (g.get? a).isNone = true then some (a, o) else none

theorem mem_restOf {g : Heap} {L d : Addr} {h : Heap} {p : Addr × Obj} : p ∈ restOf g L d h ↔ h.get? p.1 = some p.2 ∧ p.1 ≠ L ∧ p.1 ≠ d ∧ g.get? p.1 = none := by
  unfold restOf
  rw [List.mem_filterMap]
  constructor
  · rintro ⟨a, _, e⟩
    cases ho : h.get? a with
    | none => rw [ho] at e; cases e
    | some o =>
      rw [ho] at e
      simp only [Option.bind_some] at e
      split at e
      · rename_i hc
        cases e
        exact ⟨ho, hc.1, hc.2.1, by simpa using hc.2.2⟩
      · cases e
  · rintro ⟨h1, h2, h3, h4⟩
    refine ⟨p.1, List.mem_range.mpr (Heap.lt_size h1), ?_⟩
    rw [h1]
    simp only [Option.bind_some]
    rw [if_pos ⟨h2, h3, by rw [h4]; rfl⟩]

theorem upd_raw {g : Heap} {L d : Addr} {h : Heap} {o : Obj} (ho : h.get? d = some o) (hdL : d ≠ L) (hdg : g.get? d = none) : News g L h ((d, o) :: restOf g L d h) := by
  intro p hp
  cases hp with
  | head => exact ⟨ho, hdL, hdg⟩
  | tail _ hp =>
    obtain ⟨h1, h2, h3, h4⟩ := mem_restOf.mp hp
    exact ⟨h1, h2, h4⟩
theorem rest_ne {g : Heap} {L d : Addr} {h : Heap} : ∀ p ∈ restOf g L d h, p.1 ≠ d := fun _ hp => (mem_restOf.mp hp).2.2.1
theorem upd_back {g : Heap} {L d : Addr} {h h' : Heap} {o' : Obj} {m m' : Str → Option Value} (F : Fr g L h m) (F' : Fr g L h' m') (N' : News g L h' ((d, o') :: restOf g L d h)) : h'.get? d = some o' ∧ Kept [L, d] h h' := by
  refine ⟨(N' _ (.head _)).1, fun b o hb e => ?_⟩
  simp only [List.mem_cons, List.not_mem_nil, or_false, not_or] at hb
  cases hg : g.get? b with
  | some og =>
    have := F.keep b og hg
    rw [e] at this
    cases this
    exact F'.keep b _ hg
  | none => exact (N' (b, o) (.tail _ (mem_restOf.mpr ⟨e, hb.1, hb.2, hg⟩))).1
/-- all of `h` beside the names and what the base holds -/
theorem all_raw {g : Heap} {L : Addr} {h : Heap} : News g L h (restOf g L L h) := fun p hp => ⟨(mem_restOf.mp hp).1, (mem_restOf.mp hp).2.1, (mem_restOf.mp hp).2.2.2⟩
theorem all_back {g : Heap} {L : Addr} {h h' : Heap} {m m' : Str → Option Value} {news : List (Addr × Obj)} (F : Fr g L h m) (F' : Fr g L h' m') (N' : News g L h' news) (hs : ∀ p ∈ restOf g L L h, p ∈ news) : Kept [L] h h' := by
  intro b o hb e
  simp only [List.mem_cons, List.not_mem_nil, or_false] at hb
  cases hg : g.get? b with
  | some og =>
    have := F.keep b og hg
    rw [e] at this
    cases this
    exact F'.keep b _ hg
  | none => exact (N' (b, o) (hs _ (mem_restOf.mpr ⟨e, hb, hb, hg⟩))).1

theorem Kept.get {M : List Addr} {h h' : Heap} (k : Kept M h h') {a : Addr} {o : Obj} (e : h.get? a = some o) (n : a ∉ M) : h'.get? a = some o := k a o n e
theorem Kept.one {d : Addr} {h h' : Heap} (hs : Heap.SameBut d h h') : Kept [d] h h' := fun b o hb e => (hs.2 b (by simpa using hb)).trans e
theorem Kept.push (h : Heap) (o : Obj) : Kept [] h (h.push o) := fun _ _ _ e => Heap.get?_push_of_some _ e
theorem not1 {a b : Addr} (h : a ≠ b) : a ∉ [b] := by simpa using h
theorem not2 {a b c : Addr} (h : a ≠ b) (h' : a ≠ c) : a ∉ [b, c] := by simp [h, h']
theorem neObj {h : Heap} {a b : Addr} {o o' : Obj} (e : h.get? a = some o) (e' : h.get? b = some o') (n : o ≠ o') : a ≠ b := by
  rintro rfl
  rw [e] at e'
  exact n (Option.some.inj e')
theorem neCls {h : Heap} {a b : Addr} {o o' : Obj} (e : h.get? a = some o) (e' : h.get? b = some o') (n : o.cls ≠ o'.cls) : a ≠ b := neObj e e' (fun q => n (by rw [q]))

theorem Fr.ne {g : Heap} {L a : Addr} {h : Heap} {m : Str → Option Value} {o : Obj} (_F : Fr g L h m) (hL : a < L) : a ≠ L := Nat.ne_of_lt hL

section
variable {M : Model} {A : Around} {E : Value → Shared → Prop} {s : Shared} {name : Str} {scope : Scope} {L a : Addr} {cd : Value} {g : Heap} {m : Str → Option Value}
theorem stM {x : Str} {v : Value} {news : List (Addr × Obj)} {Q : Unit → Shared → Prop} (F : Fr g L s.heap m) (N : News g L s.heap news)
    (h : ∀ tk' h', Fr g L h' (fun y => if y = x then some v else m y) → News g L h' news → Q () { s with heap := h', toks := tk' })
    (hk : scope.kind = .function := by rfl) (hl : (envOf name scope L a cd).kindOf x = some .local := by rfl) :
    wpAny M A (storeName (envOf name scope L a cd) x v) Q E s := stN F N (fun h' x y => h _ h' x y) hk hl
theorem stR {x : Str} {v : Value} {Q : Unit → Shared → Prop} (F : Fr g L s.heap m)
    (h : ∀ tk' h', Fr g L h' (fun y => if y = x then some v else m y) → Kept [L] s.heap h' → Q () { s with heap := h', toks := tk' })
    (hk : scope.kind = .function := by rfl) (hl : (envOf name scope L a cd).kindOf x = some .local := by rfl) :
    wpAny M A (storeName (envOf name scope L a cd) x v) Q E s :=
  wpAny_storeName_local hl F.ns (fun h' hn hs => h _ h' (F.set hn hs) (Kept.one hs))
    (by show (scope.kind == .class || (scope.kind == .module && L != mainGlobals)) = false; rw [hk]; rfl)
end

section
variable {w : World} {A : Around} {E : Value → Shared → Prop} {s : Shared} {L x dx d : Addr} {g : Heap} {m : Str → Option Value}

/-- a list made anew -/
theorem newListR {vs : List Value} {Q : Value → Shared → Prop} (F : Fr g L s.heap m)
    (h : ∀ h', Fr g L h' m → Kept [] s.heap h' → h'.get? s.heap.objs.size = some (listOf vs.toArray 0) → Q (.ref s.heap.objs.size) { s with heap := h' }) (hsz : vs.length ≤ 1000000 := by simp) :
    wpAny (model prg w) A (newList vs) Q E s :=
  wpAny_newObj_type (h _ (F.push _) (Kept.push _ _) (Heap.get?_push_size _ rfl)) (by show vs.toArray.size ≤ sizeLine; rw [List.size_toArray, sizeLine_eq]; lia)

/-- an empty dict made anew -/
theorem newDictR {env : Env} {pos : Pos} {Q : Value → Shared → Prop} (F : Fr g L s.heap m) (hbig : g.NoLimit)
    (h : ∀ h', Fr g L h' m → Kept [] s.heap h' → (s.heap.objs.size == sysModules) = false → h'.DictOf (intKind prg w) s.heap.objs.size [] → Q (.ref s.heap.objs.size) { s with heap := h' }) :
    wpAny (model prg w) A (eval (.Dict [] [] pos) env) Q E s :=
  wpAny_Dict_empty (h _ (F.push _) (Kept.push _ _) (F.notModules (modules_low hbig)) (Heap.DictOf.new s.heap))

theorem DictOf.kept {h h' : Heap} {d : Addr} {kvs : List (Int × Value)} {M : List Addr} (k : Kept M h h') (hn : d ∉ M) (x : h.DictOf (intKind prg w) d kvs) : h'.DictOf (intKind prg w) d kvs :=
  let ⟨o, es, ep, ho, r⟩ := x; ⟨o, es, ep, k d o hn ho, r⟩

theorem attr_get {C : Addr} {ox : Obj} {es : List DictEntry} {n : Nat} {nm : Str} {v : Value} {expr : Bool} {Q : Value → Shared → Prop} (F : Fr g L s.heap m) (X : (hd.heap_39 w.params).In g) (I : InstAt s.heap x ox C (some (dictOf es n)))
    (hg : plainGet (hd.heap_39 w.params) C nm = true) (hh : hasDictIn (hd.heap_39 w.params) C = true) (ha : findIn (hd.heap_39 w.params) (.ref C) nm = some none) (hl : getL nm es = some (some v)) (hv : handedIn v = true) (h : Q v { s with toks := s.toks + 1 }) :
    wpAny (model prg w) A (getAttr (.ref x) nm expr) Q E s := get_own F X I hg hh ha rfl hl hv h

theorem attr_set {C : Addr} {es es' : List DictEntry} {n n' : Nat} {nm : Str} {v : Value} {Q : Unit → Shared → Prop} (F : Fr g L s.heap m) (X : (hd.heap_39 w.params).In g) (hx : s.heap.get? x = some (instObj C dx)) (hdx : s.heap.get? dx = some (dictOf es n)) (hdL : dx ≠ L) (hdg : g.get? dx = none)
    (hs : findIn (hd.heap_39 w.params) (.ref C) "__setattr__" = some (some (.builtin "object.__setattr__"))) (hp : plainOver (hd.heap_39 w.params) C = true) (ht : takerIn (hd.heap_39 w.params) C nm = some none) (hh : hasDictIn (hd.heap_39 w.params) C = true) (hl : (getL nm es).isSome = true)
    (e : (putL nm (PyData.keyHash w.params nm) (.str nm (s.toks + 1)) v es, putN nm es n) = (es', n')) (hz : es'.length ≤ 1000)
    (h : ∀ h', Fr g L h' m → Kept [L, dx] s.heap h' → h'.get? dx = some (dictOf es' n') → Q () { s with heap := h', toks := s.toks + 2 }) :
    wpAny (model prg w) A (setAttr (.ref x) nm v) Q E s :=
  set_dict F X (upd_raw hdx hdL hdg) ⟨hx, rfl, rfl, hdx⟩ rfl hs hp ht hh hl e (.head rest_ne) hz fun h' F' N' => h h' F' (upd_back F F' N').2 (upd_back F F' N').1

theorem slot_put {C p i : Addr} {ox ox' : Obj} {od : Obj} {nm : Str} {v : Value} {Q : Unit → Shared → Prop} (F : Fr g L s.heap m) (X : (hd.heap_39 w.params).In g) (hx : s.heap.get? x = some ox) (I : InstAt s.heap x ox C (some od)) (hxL : x ≠ L) (hxg : g.get? x = none)
    (hs : findIn (hd.heap_39 w.params) (.ref C) "__setattr__" = some (some (.builtin "object.__setattr__"))) (hp : plainOver (hd.heap_39 w.params) C = true) (ht : takerIn (hd.heap_39 w.params) C nm = some (some (.ref p))) (hT : typeIn (hd.heap_39 w.params) (.ref p) = some (.type "member_descriptor")) (hi : slotIn (hd.heap_39 w.params) p C = some i) (hz : i < 1000)
    (e : { ox with slots := (ox.slots ++ Array.replicate (i + 1 - ox.slots.size) none).setIfInBounds i (some v) } = ox') (hf : ox'.isFreed = false)
    (h : ∀ h', Fr g L h' m → Kept [L, x] s.heap h' → h'.get? x = some ox' → Q () { s with heap := h', toks := s.toks + 1 }) :
    wpAny (model prg w) A (setAttr (.ref x) nm v) Q E s :=
  set_slot F X (upd_raw hx hxL hxg) I hs hp ht hT hi hz e hf (.head rest_ne) fun h' F' N' => h h' F' (upd_back F F' N').2 (upd_back F F' N').1
end

theorem Fr.high {g : Heap} {L b : Addr} {h : Heap} {m : Str → Option Value} (F : Fr g L h m) (hb : @LE.le Nat _ L b) : g.get? b = none := by
  cases e : g.get? b with
  | none => rfl
  | some o => exact absurd (Heap.lt_size e) (Nat.not_lt.mpr (Nat.le_trans F.above hb))

/-- an object of an own class made anew -/
theorem makeR {w : World} {A : Around} {s : Shared} {L C fI : Addr} {g : Heap} {m : Str → Option Value} {rest : List Value} {R : Result → Shared → Prop} (F : Fr g L s.heap m) (X : (hd.heap_39 w.params).In g) (hm : makesIn (hd.heap_39 w.params) C = true)
    (hi : findIn (hd.heap_39 w.params) (.ref C) "__init__" = some (some (.ref fI))) (hf : typeIn (hd.heap_39 w.params) (.ref fI) = some (.type "function"))
    (h : ∀ h', Fr g L h' m → Kept [] s.heap h' → h'.get? s.heap.objs.size = some (dictOf [] 0) → h'.get? (s.heap.objs.size + 1) = some (instObj C s.heap.objs.size) →
      codeAny (model prg w) (A.under (.builtin "type.__call__" ⟨.ref C :: rest, []⟩)) (.call (.ref fI) ⟨.ref (s.heap.objs.size + 1) :: rest, []⟩) (InitBack (s.heap.objs.size + 1) R) { s with heap := h' }) :
    codeAny (model prg w) A (.call (.ref C) ⟨rest, []⟩) R s := by
  obtain ⟨hh, g', d, t, os⟩ := s
  have X' := X.keeps F.keep
  refine make_core (makes_of X' hm) (looks_findIn X' hi) (fun self => bind_fn X' self hf) (.inl rfl) (h _ ((F.push _).push _) (fun b o _ e => Heap.get?_push_of_some _ (Heap.get?_push_of_some _ e)) ?_ ?_)
  · exact Heap.get?_push_of_some _ (Heap.get?_push_size _ rfl)
  · have := Heap.get?_push_size (hh.push emptyDict) (o := instObj C hh.objs.size) rfl
    rwa [Heap.size_push] at this

theorem callWith_ty {M : Model} {A : Around} {E : Value → Shared → Prop} {s : Shared} {env : Env} {pos : Pos} {T : String} {e : Expr} {rest : List Expr} {Q : Value → Shared → Prop}
    (h : wpAny M A (spliced (backTo pos (starEach (e :: rest) env))) (fun vs s₁ => wpAny M A (call (.type T) ([] ++ vs)) Q E s₁) E s)
    (he : starEach (e :: rest) env = (false, eval e env) :: starEach rest env := by rfl)
    (hplain : (backTo pos (starEach rest env)).any (·.1) = false := by rfl) :
    wpAny M A (callWith pos (.type T) [] (backTo pos (starEach (e :: rest) env)) []) Q E s := by
  rw [he] at h ⊢
  exact PySem.callWith_type (by show (false || (backTo pos (starEach rest env)).any (·.1)) = false; rw [hplain]; rfl) (evalArgs_plain h)

theorem bind_rest1 {fd : FuncData} {a b : Arg} {x : Value} {vs : List Value} (hp : fd.params.posonlyargs = []) (ha : fd.params.args = [b]) (hb : b.arg = Str.ofString "self") (hk : fd.params.kwonlyargs = []) (hv : fd.params.vararg = some a) (hw : fd.params.kwarg = none) (hdf : fd.defaults = .none) :
    bindArgs fd ⟨x :: vs, []⟩ = (newTuple vs >>= fun v => pure [(Str.ofString "self", x), (a.arg, v)]) := by
  obtain ⟨_, _, ⟨_, _, _, _, _, _, _⟩, _, _, _, _, _, _, _, _, _, _, _, _⟩ := fd
  obtain ⟨_, _, _⟩ := b
  dsimp only at hp ha hb hk hv hw hdf
  subst hp ha hb hk hv hw hdf
  cases vs <;> rfl
theorem bind_rest2 {fd : FuncData} {a b c : Arg} {x y : Value} {vs : List Value} (hp : fd.params.posonlyargs = []) (ha : fd.params.args = [b, c]) (hb : b.arg = Str.ofString "self") (hc : c.arg = Str.ofString "node") (hk : fd.params.kwonlyargs = []) (hv : fd.params.vararg = some a) (hw : fd.params.kwarg = none) (hdf : fd.defaults = .none) :
    bindArgs fd ⟨x :: y :: vs, []⟩ = (newTuple vs >>= fun v => pure [(Str.ofString "self", x), (Str.ofString "node", y), (a.arg, v)]) := by
  obtain ⟨_, _, ⟨_, _, _, _, _, _, _⟩, _, _, _, _, _, _, _, _, _, _, _, _⟩ := fd
  obtain ⟨_, _, _⟩ := b
  obtain ⟨_, _, _⟩ := c
  dsimp only at hp ha hb hc hk hv hw hdf
  subst hp ha hb hc hk hv hw hdf
  cases vs <;> rfl

abbrev tupOf (vs : List Value) : Obj := { cls := .type "tuple", data := .seq vs.toArray }

/-- entering a def whose last parameter takes the rest -/
theorem enterV {w : World} {A : Around} {s : Shared} {mg mb : Str → Option Value} {h₀ : Heap} {R : Result → Shared → Prop} {led : List (Addr × Obj)} {vs : List Value}
    {name qual : Str} {params : Arguments} {body : List Stmt} {scope : Scope} {dV kV doc pm cdv ct oc : Value} {an od : Option Addr} {osl : Array (Option Value)} {f : Addr} {args : Args} {binds : Value → List (Str × Value)}
    (G : Gnd w mg mb h₀) (hk : ∀ b o, h₀.get? b = some o → s.heap.get? b = some o) (hl : ∀ p ∈ led, s.heap.get? p.1 = some p.2 ∧ h₀.get? p.1 = none)
    (ho : (hd.heap_39 w.params).lookup f = some ⟨oc, od, .func (fnOf name qual params body scope dV kV doc pm an cdv ct), osl⟩) (hcd : codeIn (hd.heap_39 w.params) cdv qual = true) (hroom : A.depth < recursionLimit)
    (hbind : bindArgs (fnOf name qual params body scope dV kV doc pm an cdv ct) args = (newTuple vs >>= fun v => pure (binds v))) (hvs : vs.length ≤ 1000) (hloc : ∀ v, ∀ y ∈ binds v, scope.names.lookup y.1 = some .local)
    (h : ∀ g h₁ L, @Eq Nat L (s.heap.objs.size + 1) → Gnd w mg mb g → Kept (led.map (·.1)) s.heap g → Kept [] s.heap h₁ → g.get? s.heap.objs.size = some (tupOf vs) → Fr g L h₁ (fun y => (binds (.ref s.heap.objs.size)).reverse.lookup y) → News g L h₁ led →
      wpAny (model prg w) (A.deeper (envOf qual scope L f cdv)) (execs body (envOf qual scope L f cdv))
        (fun fl s' => R (.ok (.ret (match fl with | .ret v => v | _ => .none))) s')
        (fun _ _ => False)
        { s with heap := h₁, toks := s.toks + (binds (.ref s.heap.objs.size)).length })
    (hco : scope.isCoroutine = false := by rfl) (hgen : scope.isGenerator = false := by rfl) (hkd : scope.kind = .function := by rfl)
    (hcell : ∀ x ∈ scope.names, x.2 ≠ .cell := by decide) : codeAny (model prg w) A (.call (.ref f) args) R s := by
  have X := G.X.keeps hk
  refine codeAny_call_function (fd := fnOf name qual params body scope dV kV doc pm an cdv ct) (body := body) hroom (X _ _ ho) rfl hco hgen rfl (codeRec_of X hcd) ?_
  rw [hbind]
  refine wpAny_bind (wpAny_newObj_type (wpAny_pure ?_) (by show vs.toArray.size ≤ sizeLine; rw [List.size_toArray, sizeLine_eq]; lia))
  have kp : ∀ b o, s.heap.get? b = some o → (s.heap.push (tupOf vs)).get? b = some o := fun b o e => Heap.get?_push_of_some _ e
  refine wpAny_newFunctionEnv hcell (hloc _) (fun h₁ hns hsb => ⟨((G.T.nolimit.keeps hk).keeps kp).fresh _ hsb, codeAny_func ?_⟩) hkd
  have hk₁ : ∀ b o, (s.heap.push (tupOf vs)).get? b = some o → h₁.get? b = some o := fun b o e => hsb.extBut b o (Nat.ne_of_lt (Heap.lt_size e)) (Heap.get?_push_of_some _ e)
  have nm : ∀ b o, h₀.get? b = some o → b ∉ led.map (·.1) := fun b o e q => by
    obtain ⟨p, hp, rfl⟩ := List.mem_map.mp q
    rw [(hl p hp).2] at e; cases e
  have nT : s.heap.objs.size ∉ led.map (·.1) := fun q => by
    obtain ⟨p, hp, e⟩ := List.mem_map.mp q
    exact absurd e (Nat.ne_of_lt (Heap.lt_size (hl p hp).1))
  have st : ∀ b o, h₀.get? b = some o → (hideAll (s.heap.push (tupOf vs)) (led.map (·.1))).get? b = some o := fun b o e => hideAll_get _ (kp b o (hk b o e)) (nm b o e)
  have hsz : (s.heap.push (tupOf vs)).objs.size = s.heap.objs.size + 1 := Heap.size_push _ _
  refine wpAny_mono (h (hideAll (s.heap.push (tupOf vs)) (led.map (·.1))) h₁ (s.heap.push (tupOf vs)).objs.size hsz (G.keeps st) (fun b o n e => hideAll_get _ (kp b o e) n) (fun b o _ e => hk₁ b o (kp b o e)) (hideAll_get _ (Heap.get?_push_size _ rfl) nT)
    ⟨hns, fun b o e => hk₁ b o (of_hideAll _ e), Nat.le_of_eq (hideAll_size _ _)⟩
    (fun p hp => ⟨hk₁ _ _ (kp _ _ (hl p hp).1), Nat.ne_of_lt (Nat.lt_of_lt_of_le (Heap.lt_size (hl p hp).1) (by rw [hsz]; exact Nat.le_succ _)), hideAll_none _ (List.mem_map_of_mem hp)⟩)) (fun _ _ x => x) fun _ _ x => x.elim

/-- a `_NodeInfo` -/
def infoObj (k np : Int) (t1 t2 : Tok) (l dx : Addr) : Obj := { cls := .ref 68, dict := some dx, data := .plain, slots := #[some (.int k t1), some (.int np t2), some (.ref l)] }

theorem fuel_lt {i n : Nat} (h : i < n) : n + 1 - (i + 1) < n + 1 - i := Nat.sub_lt_sub_left (Nat.lt_succ_of_lt h) (Nat.lt_succ_self i)
inductive LoopI (s : Shared) (g : Heap) (L : Addr) (J : Nat → (Str → Option Value) → Heap → Prop) (St : Nat → Heap → Prop) (n k : Nat) (s' : Shared) : Prop
  | mk (h' : Heap) (tk : Nat) (m' : Str → Option Value) (i : Nat) (e : s' = { s with heap := h', toks := tk }) (st : St i h') (F : Fr g L h' m') (j : J i m' h') (le : i ≤ n) (ek : k = n + 1 - i) : LoopI s g L J St n k s'
/-- how a turn of a loop ends: the loop's objects as they lay, the word for one turn more -/
def TurnR (g : Heap) (L : Addr) (fp : List Addr) (J : (Str → Option Value) → Heap → Prop) (s : Shared) (h : Heap) (Q : Flow → Shared → Prop) (f : Flow) (s' : Shared) : Prop :=
  match f with
  | .next | .cont => ∃ h' tk m', s' = { s with heap := h', toks := tk } ∧ Fr g L h' m' ∧ (∀ b ∈ fp, ∀ o, h.get? b = some o → h'.get? b = some o) ∧ J m' h'
  | .brk => Q .next s'
  | .ret v => Q (.ret v) s'

/-- a for over any iterator, its word over the names and the heap -/
theorem loopR {w : World} {A : Around} {E : Value → Shared → Prop} {s : Shared} {env : Env} {g : Heap} {x : Str} {px : Pos} {body : List Stmt} {Q : Flow → Shared → Prop} {I : Addr} {fp wr : List Addr} {n : Nat} {P : Nat → Value → Prop} {St : Nat → Heap → Prop} {m : Str → Option Value}
    (J : Nat → (Str → Option Value) → Heap → Prop)
    (W : Walks prg w A I fp wr n P St) (hx : env.kindOf x = some .local) (hp : (env.scope.kind == .class || (env.scope.kind == .module && env.locals != env.globals)) = false)
    (hLf : env.locals ∉ fp) (hwr : ∀ b ∈ wr, g.get? b = none) (hst : St 0 s.heap) (F : Fr g env.locals s.heap m) (h0 : J 0 m s.heap)
    (turn : ∀ i v m₁ h₁ h tk, i < n → P i v → J i m₁ h₁ → Kept (env.locals :: wr) h₁ h → St (i + 1) h → Fr g env.locals h (fun y => if y = x then some v else m₁ y) →
      wpAny (model prg w) A (execs body env) (TurnR g env.locals fp (J (i + 1)) s h Q) E { s with heap := h, toks := tk })
    (done : ∀ m' h₁ h tk, J n m' h₁ → Kept wr h₁ h → Fr g env.locals h m' → Q .next { s with heap := h, toks := tk })
    (hE : PassesOwn (model prg w) A env E) :
    codeAny (model prg w) A (.forLoop (.Name x px) (.ref I) body [] env) (fun r s' => match r with | .ok f => Q f s' | .error e => cameBackBy (model prg w) A env E e s') s := by
  have hLw : env.locals ∉ wr := fun h => hLf (W.sub _ h)
  refine codeAny_forLoop (LoopI s g env.locals J St n) ?_ (n + 1) ⟨s.heap, s.toks, m, 0, rfl, hst, F, h0, Nat.zero_le _, rfl⟩
  rintro k s' ⟨h', tk, m', i, rfl, hst', F', hJ, hi, rfl⟩
  have next : ∀ h₁ : Heap, (∀ b o, b ∉ wr → h'.get? b = some o → h₁.get? b = some o) → Fr g env.locals h₁ m' := fun h₁ hk₁ => Mine.Fr.behind F' hwr hLw hk₁
  by_cases hlt : i < n
  · refine W.item i _ _ _ hlt hst' fun v h₁ tk₁ hP hst₁ hk₁ => ?_
    have F₁ := next h₁ hk₁
    refine wpAny_assign_Name (wpAny_storeName_local hx F₁.ns (fun h₂ hn₂ hs₂ => ?_) hp)
    have F₂ := F₁.set hn₂ hs₂
    have hst₂ : St (i + 1) h₂ := W.frame _ _ _ hst₁ fun b hb o e => (hs₂.2 b fun q => hLf (q ▸ hb)).trans e
    have K₂ : Kept (env.locals :: wr) h' h₂ := fun b o hb e => by
      simp only [List.mem_cons, not_or] at hb
      exact (hs₂.2 b hb.1).trans (hk₁ b o hb.2 e)
    refine wpAny_passesOwn hE (wpAny_mono (turn i v m' h' h₂ _ hlt hP hJ K₂ hst₂ F₂) (fun f s₃ h₃ => ?_) fun _ _ e => e)
    cases f with
    | ret v => exact h₃
    | brk => exact h₃
    | cont =>
      obtain ⟨h₃', tk₃, m₂, rfl, F₃, ha₃, hJ₃⟩ := h₃
      exact ⟨n + 1 - (i + 1), fuel_lt hlt, h₃', tk₃, m₂, i + 1, rfl, W.frame _ _ _ hst₂ ha₃, F₃, hJ₃, hlt, rfl⟩
    | next =>
      obtain ⟨h₃', tk₃, m₂, rfl, F₃, ha₃, hJ₃⟩ := h₃
      exact ⟨n + 1 - (i + 1), fuel_lt hlt, h₃', tk₃, m₂, i + 1, rfl, W.frame _ _ _ hst₂ ha₃, F₃, hJ₃, hlt, rfl⟩
  · have hin : i = n := by lia
    subst hin
    refine W.done _ _ _ hst' fun h₁ tk₁ hk₁ => wpAny_execs_nil ?_
    exact done m' h' h₁ tk₁ hJ hk₁ (next h₁ hk₁)

theorem walks_obj {w : World} {A : Around} {I T : Addr} {fp wr : List Addr} {n : Nat} {P : Nat → Value → Prop} {St : Nat → Heap → Prop} {o : Obj} (W : Walks prg w A I fp wr n P St) (hf : T ∈ fp) (hw : T ∉ wr) :
    Walks prg w A I fp wr n P (fun i h => St i h ∧ h.get? T = some o) where
  sub := W.sub
  frame := fun i h h' st hk => ⟨W.frame i h h' st.1 hk, hk T hf o st.2⟩
  item := fun i s Q E hi st hQ => W.item i s Q E hi st.1 fun v h' tk hP hs hk => hQ v h' tk hP ⟨hs, hk T o hw st.2⟩ hk
  done := fun s Q E st hQ => W.done s Q E st.1 hQ
  self := fun i s Q E st hQ => W.self i s Q E st.1 hQ

theorem ints_at {vs : List Value} {ns : List Int} (hi : IntsAre vs ns) : ∀ {i : Nat} {v : Value}, vs[i]? = some v → ∃ k t, ns[i]? = some k ∧ v = .int k t := by
  induction hi with
  | nil => intro i v e; cases e
  | cons n t _ ih =>
    intro i v e
    cases i with
    | zero => cases e; exact ⟨n, t, rfl, rfl⟩
    | succ i => exact ih e

/-- a for over a tuple of ints -/
theorem iterTup {w : World} {A : Around} {E : Value → Shared → Prop} {s : Shared} {env : Env} {g : Heap} {x : Str} {px : Pos} {body : List Stmt} {Q : Flow → Shared → Prop} {T : Addr} {vs : List Value} {ns : List Int} {m : Str → Option Value}
    (J : Nat → (Str → Option Value) → Heap → Prop) (hh : A.handled = none) (hx : env.kindOf x = some .local) (hp : (env.scope.kind == .class || (env.scope.kind == .module && env.locals != env.globals)) = false)
    (ht : s.heap.get? T = some (tupOf vs)) (hi : IntsAre vs ns) (hTL : T ≠ env.locals) (F : Fr g env.locals s.heap m) (h0 : ∀ h', Kept [] s.heap h' → J 0 m h')
    (turn : ∀ i k t m₁ h₁ h tk, ns[i]? = some k → J i m₁ h₁ → Kept [env.locals, s.heap.objs.size] h₁ h → h.get? T = some (tupOf vs) → (∃ o, h.get? s.heap.objs.size = some o ∧ o.cls = .type "tuple_iterator") → Fr g env.locals h (fun y => if y = x then some (.int k t) else m₁ y) →
      wpAny (model prg w) A (execs body env) (TurnR g env.locals [s.heap.objs.size, T] (J (i + 1)) s h Q) E { s with heap := h, toks := tk })
    (done : ∀ m' h₁ h tk, J ns.length m' h₁ → Kept [s.heap.objs.size] h₁ h → Fr g env.locals h m' → Q .next { s with heap := h, toks := tk })
    (hE : PassesOwn (model prg w) A env E) :
    wpAny (model prg w) A (pyIter (.ref T)) (fun it s₂ => codeAny (model prg w) A (.forLoop (.Name x px) it body [] env) (fun r s' => match r with | .ok f => Q f s' | .error e => cameBackBy (model prg w) A env E e s') s₂) E s := by
  have hT : s.heap.IsTuple T vs.toArray := ⟨_, ht, rfl, _, rfl⟩
  have lt : @LT.lt Nat _ T s.heap.objs.size := Heap.lt_size ht
  refine wpAny_pyIter_tuple hT ?_
  have W := Walks.tuple (prog := prg) (w := w) hh s.heap.objs.size T (Nat.ne_of_lt lt) vs.toArray
  have W := walks_obj (T := T) (o := tupOf vs) W (by simp) (by simpa using Nat.ne_of_lt lt)
  have hlen : vs.toArray.size = ns.length := by rw [List.size_toArray, hi.length]
  have F1 := F.push { cls := .type "tuple_iterator", data := .fields #[.ref T, .int 0 0] }
  refine loopR (s := { s with heap := s.heap.push _ }) J W hx hp ?_ ?_ ⟨⟨⟨_, Heap.get?_push_size _ rfl, rfl, rfl⟩, ⟨_, Heap.get?_push_of_some _ ht, rfl, _, rfl⟩⟩, Heap.get?_push_of_some _ ht⟩ F1 (h0 _ (Kept.push _ _)) ?_ ?_ hE
  · simp only [List.mem_cons, List.not_mem_nil, or_false, not_or]
    exact ⟨Nat.ne_of_lt F.ns.lt, Ne.symm hTL⟩
  · intro b hb
    simp only [List.mem_cons, List.not_mem_nil, or_false] at hb
    subst hb
    exact Mine.Fr.high F (Nat.le_of_lt F.ns.lt)
  · intro i v m₁ h₁ h tk hlt hP hJ K hst Fh
    obtain ⟨k, t, ek, ev⟩ := ints_at hi (i := i) (by simpa using hP)
    subst ev
    obtain ⟨⟨⟨o, ho, hc, _⟩, _⟩, hTh⟩ := hst
    exact turn i k t m₁ h₁ h tk ek hJ K hTh ⟨o, ho, hc⟩ Fh
  · intro m' h₁ h tk hJ K Fh
    rw [hlen] at hJ
    exact done m' h₁ h tk hJ K Fh

/-- a for over a list of ints -/
theorem iterList {w : World} {A : Around} {E : Value → Shared → Prop} {s : Shared} {env : Env} {g : Heap} {x : Str} {px : Pos} {body : List Stmt} {Q : Flow → Shared → Prop} {T : Addr} {vs : List Value} {ns : List Int} {n : Nat} {m : Str → Option Value}
    (J : Nat → (Str → Option Value) → Heap → Prop) (hh : A.handled = none) (hx : env.kindOf x = some .local) (hp : (env.scope.kind == .class || (env.scope.kind == .module && env.locals != env.globals)) = false)
    (ht : s.heap.get? T = some (listOf vs.toArray n)) (hi : IntsAre vs ns) (hTL : T ≠ env.locals) (F : Fr g env.locals s.heap m) (h0 : ∀ h', Kept [] s.heap h' → J 0 m h')
    (turn : ∀ i k t m₁ h₁ h tk, ns[i]? = some k → J i m₁ h₁ → Kept [env.locals, s.heap.objs.size] h₁ h → h.get? T = some (listOf vs.toArray n) → (∃ o, h.get? s.heap.objs.size = some o ∧ o.cls = .type "list_iterator") → Fr g env.locals h (fun y => if y = x then some (.int k t) else m₁ y) →
      wpAny (model prg w) A (execs body env) (TurnR g env.locals [s.heap.objs.size, T] (J (i + 1)) s h Q) E { s with heap := h, toks := tk })
    (done : ∀ m' h₁ h tk, J ns.length m' h₁ → Kept [s.heap.objs.size] h₁ h → Fr g env.locals h m' → Q .next { s with heap := h, toks := tk })
    (hE : PassesOwn (model prg w) A env E) :
    wpAny (model prg w) A (pyIter (.ref T)) (fun it s₂ => codeAny (model prg w) A (.forLoop (.Name x px) it body [] env) (fun r s' => match r with | .ok f => Q f s' | .error e => cameBackBy (model prg w) A env E e s') s₂) E s := by
  have hT : s.heap.IsList T vs.toArray := ⟨_, ht, rfl, _, rfl⟩
  have lt : @LT.lt Nat _ T s.heap.objs.size := Heap.lt_size ht
  refine wpAny_pyIter_list hT ?_
  have W := Walks.list (prog := prg) (w := w) hh s.heap.objs.size T (Nat.ne_of_lt lt) vs.toArray
  have W := walks_obj (T := T) (o := listOf vs.toArray n) W (by simp) (by simpa using Nat.ne_of_lt lt)
  have hlen : vs.toArray.size = ns.length := by rw [List.size_toArray, hi.length]
  have F1 := F.push { cls := .type "list_iterator", data := .fields #[.ref T, .int 0 0] }
  refine loopR (s := { s with heap := s.heap.push _ }) J W hx hp ?_ ?_ ⟨⟨⟨_, Heap.get?_push_size _ rfl, rfl, rfl⟩, ⟨_, Heap.get?_push_of_some _ ht, rfl, _, rfl⟩⟩, Heap.get?_push_of_some _ ht⟩ F1 (h0 _ (Kept.push _ _)) ?_ ?_ hE
  · simp only [List.mem_cons, List.not_mem_nil, or_false, not_or]
    exact ⟨Nat.ne_of_lt F.ns.lt, Ne.symm hTL⟩
  · intro b hb
    simp only [List.mem_cons, List.not_mem_nil, or_false] at hb
    subst hb
    exact Mine.Fr.high F (Nat.le_of_lt F.ns.lt)
  · intro i v m₁ h₁ h tk hlt hP hJ K hst Fh
    obtain ⟨k, t, ek, ev⟩ := ints_at hi (i := i) (by simpa using hP)
    subst ev
    obtain ⟨⟨⟨o, ho, hc, _⟩, _⟩, hTh⟩ := hst
    exact turn i k t m₁ h₁ h tk ek hJ K hTh ⟨o, ho, hc⟩ Fh
  · intro m' h₁ h tk hJ K Fh
    rw [hlen] at hJ
    exact done m' h₁ h tk hJ K Fh

local macro_rules | `(tactic| walk_at "q") => do
  let h ← `(?_)
  let u ← `(by assumption)
  let l ← `(by rfl)
  let i (n : String) := Lean.mkIdent n.toName
  let f (b : Array Lean.Term) (n : String) : Lean.MacroM (Lean.TSyntax `tactic) := `(tactic| refine $(i n) $b*)
  let g (b : Array Lean.Term) (s : String) : Lean.MacroM (Lean.TSyntax `tactic) := do
    let ts ← (s.splitOn " ").toArray.mapM (f b)
    `(tactic| with_reducible first $[| $ts:tactic]*)
  let w (t : Lean.Term) : Lean.MacroM (Lean.TSyntax `tactic) := `(tactic| with_reducible show wpAny _ _ $t _ _ _)
  let a1 ← g #[h] "wpAny_execs_cons wpAny_execs_nil wpAny_Constant_int wpAny_BinOp Subscript_ wpAny_truthy_bool wpAny_Continue wpAny_Break isTrue_and isTrue_and_nil isTrue_not wpAny_Return_some wpAny_AugAssign_AttributeAny Attribute_name Constant_none Constant_bool List_ is_none isNot_none iadd_int isub_int wpAny_NamedExpr wpAny_assign_Name kas_sub eq_int ne_int le_int ge_int BoolOp_or BoolOp_and BoolOp_one sub_int add_int lt_int gt_int"
  let a2 ← g #[h, h] "wpAny_Assign_Name args_cons Call_ plainObj_wpAny_Assign_Attribute wpAny_Assign_Subscript"
  let a3 ← g #[h, h] "wpAny_isTrue_Compare1 wpAny_Compare1"
  let a4 ← g #[h, h, h] "callWith_ty callWith_method1 wpAny_Expr wpAny_Assign_two"
  let n1 ← f #[u, l, h] "ld"
  let n2 ← f #[u, u, h] "ld"
  let s1 ← f #[u, u, h] "stM"
  let s2 ← f #[u, h] "stR"
  let ds ← `(tactic| dsimp only [List.cons_append, List.nil_append])
  let kk ← `(by k_is)
  `(tactic| first
  | $a1:tactic
  | ($(← w (← `(eval (Expr.Call (Expr.Attribute _ _ _) _ [] _) _))); refine MethodCall_ ?_)
  | ($a2; rotate_left; rfl)
  | ($a3; rotate_left; with_unfolding_all rfl)
  | ($a4; rotate_left; rfl; rfl)
  | ($(← w (← `(eval (Expr.Name _ _) _))); first | $n1:tactic | $n2:tactic | (refine nameX_K $u $u $u $kk ?_ $l $l) | (refine nameX_B $u $u $u $kk (by boot_fast) (by decide) ?_ $l $l))
  | ($(← w (← `(storeName _ _ _))); first | ($s1; intro tx hx Fx Nx) | ($s2; intro tx hx Fx Kx; (try dsimp only at Kx)))
  | ($(← w (← `(callWith _ (Value.ref _) _ (backTo _ (starEach (_ :: _) _)) []))); refine callWith_K (K := hd.heap_39 _) $u $kk ?_)
  | ((with_reducible show Frag.In _ _ ∧ _); refine ⟨Frag.In.keeps $u (Fr.keep $u), ?_⟩; (try $ds:tactic))
  | ($(← w (← `(spliced (backTo _ (starEach [] _))))); refine args_nil ?_; (try $ds:tactic))
  | ((with_reducible show ite (true = true) _ _); refine (if_pos rfl).mpr ?_)
  | ((with_reducible show ite (false = true) _ _); refine (if_neg Bool.false_ne_true).mpr ?_))
theorem idxf {k n : Nat} (h : k < n) (h' : n ≤ 1000) : (k : Int) < 2 ^ 63 := Int.lt_of_lt_of_le (Int.ofNat_lt.mpr (Nat.lt_of_lt_of_le h h')) (by decide)
theorem half_eq {pos : Nat} (h : 0 < pos) : ((pos : Int) - 1).fdiv (2 ^ (1 : Int).toNat) = (((pos - 1) / 2 : Nat) : Int) := by
  cases pos with
  | zero => exact absurd h (Nat.lt_irrefl _)
  | succ k =>
    show ((k : Int) + 1 - 1).fdiv ((2 : Nat) : Int) = ((k / 2 : Nat) : Int)
    rw [Int.add_sub_cancel]
    exact (Int.ofNat_fdiv k 2).symm
theorem half_lt {pos : Nat} (h : 0 < pos) : (pos - 1) / 2 < pos := Nat.lt_of_le_of_lt (Nat.div_le_self _ _) (Nat.sub_lt h Nat.one_pos)
/-- the list behind `_siftdown(heap, 0, pos)` -/
def sd (it : Int) : Nat → List Int → Nat → List Int
  | 0, xs, pos => xs.set pos it
  | f + 1, xs, pos => if 0 < pos ∧ it < xs.getD ((pos - 1) / 2) 0 then sd it f (xs.set pos (xs.getD ((pos - 1) / 2) 0)) ((pos - 1) / 2) else xs.set pos it

theorem sd_fuel (it : Int) : ∀ (f g : Nat) (xs : List Int) (pos : Nat), pos ≤ f → pos ≤ g → sd it f xs pos = sd it g xs pos
  | 0, 0, _, _, _, _ => rfl
  | 0, g + 1, xs, pos, h, _ => by
    have : pos = 0 := Nat.le_zero.mp h
    subst this
    simp [sd]
  | f + 1, 0, xs, pos, _, h => by
    have : pos = 0 := Nat.le_zero.mp h
    subst this
    simp [sd]
  | f + 1, g + 1, xs, pos, h1, h2 => by
    unfold sd
    split
    · rename_i h
      exact sd_fuel it f g _ _ (Nat.le_of_lt_succ (Nat.lt_of_lt_of_le (half_lt h.1) h1)) (Nat.le_of_lt_succ (Nat.lt_of_lt_of_le (half_lt h.1) h2))
    · rfl

structure SdC where
  pos : Nat
  t : Tok
  vs : List Value
  ns : List Int

/-- the words of the loop of `_siftdown` -/
inductive SdQ (s : Shared) (g : Heap) (H : Addr) (n : Nat) (ns : List Int) (ps : Nat) (it : Int) (ti : Tok) (f : Flow) (s' : Shared) : Prop
  | mk (e : f = Flow.next) (h : Heap) (tk : Nat) (m : Str → Option Value) (vs' : List Value) (ns' : List Int) (pos : Nat) (t : Tok) (e' : s' = { s with heap := h, toks := tk }) (F : Fr g s.heap.objs.size h m) (N : News g s.heap.objs.size h [(H, listOf vs'.toArray n)]) (i : IntsAre vs' ns') (l : ns'.length = ns.length) (p : pos < ns.length) (hs : ns'.set pos it = sd it ps ns ps)
      (e1 : m (Str.ofString "pos") = some (.int (pos : Int) t)) (e2 : m (Str.ofString "heap") = some (.ref H)) (e3 : m (Str.ofString "newitem") = some (.int it ti)) : SdQ s g H n ns ps it ti f s'
def sdL (H : Addr) (n : Nat) (c : SdC) : List (Addr × Obj) := [(H, listOf c.vs.toArray n)]
def sdN (c : SdC) : List (Str × Value) := [(Str.ofString "pos", .int (c.pos : Int) c.t)]
def sdF (c : SdC) : Prop := IntsAre c.vs c.ns
structure SdI (it : Int) (ns : List Int) (ps : Nat) (c : SdC) : Prop where
  l : c.ns.length = ns.length
  p : c.pos < ns.length
  e : sd it c.pos c.ns c.pos = sd it ps ns ps
theorem siftdown_spec {w : World} {s : Shared} {mg mb : Str → Option Value} {h₀ : Heap} {H : Addr} {vs : List Value} {ns : List Int} {n : Nat} {ps : Nat} {t1 t2 : Tok} {R : Result → Shared → Prop}
    (G : Gnd w mg mb h₀) (hk : ∀ b o, h₀.get? b = some o → s.heap.get? b = some o) (hH : s.heap.get? H = some (listOf vs.toArray n)) (hH0 : h₀.get? H = none) (hi : IntsAre vs ns)
    (hp1 : ps < ns.length) (hsz : ns.length ≤ 1000)
    (hR : ∀ h' tk vs', Kept [H] s.heap h' → h'.get? H = some (listOf vs'.toArray n) → IntsAre vs' (sd (ns.getD ps 0) ps ns ps) → R (.ok (.ret .none)) { s with heap := h', toks := tk }) :
    codeAny (model prg w) (AS 500 500) (.call (.ref 42) ⟨[.ref H, .int 0 t1, .int (ps : Int) t2], []⟩) R s := by
  refine enter (led := [(H, listOf vs.toArray n)]) G hk (all1 ⟨hH, hH0⟩) (by k_is) (by k_is) (by decide) (BindsTo.of_eq rfl) (locs rfl) ?_
  intro g h₁ Gg kg ks F N
  have X' := Gg.X
  have T' := Gg.T
  dsimp only
  repeat walk_at "q"
  refine ksa_sub N (.head _) hi (Int.natCast_nonneg _) (Int.ofNat_lt.mpr hp1) (idxf hp1 hsz) ?_ (by with_unfolding_all rfl)
  intro ti
  simp only [Int.toNat_natCast]
  generalize ns.getD ps 0 = it at *
  walk_at "q"
  walk_at "q"
  rename_i h2 F2 N2
  refine wpAny_mono (Q := SdQ s g H n ns ps it ti) (E := fun _ _ => False) ?loop ?rest (fun _ _ h => h)
  case rest =>
    rintro f s' ⟨rfl, h, tk, m, vs', ns', pos, t, rfl, F, N, hf, hl, hp, hs, e1, e2, e3⟩
    dsimp only
    walk_at "q"
    walk_at "q"
    refine ld F e3 ?_
    refine ld F e2 ?_
    refine ld F e1 ?_
    refine ksa_set F N (.head (List.forall_mem_nil _)) hf (Int.natCast_nonneg _) (Int.ofNat_lt.mpr (by rw [hl]; exact hp)) (idxf hp hsz) ?_
    intro h' F' N' hi' _ _
    walk_at "q"
    rw [Int.toNat_natCast] at N' hi'
    refine hR h' tk _ ?_ (N' _ (.head _)).1 (hs ▸ hi')
    intro b o hb e
    exact F'.keep b o (kg b o hb e)
  refine ksw_while (sdL H n) sdN sdF [Str.ofString "parentpos", Str.ofString "parent"] (SdI it ns ps) SdC.pos ⟨ps, t2, vs, ns⟩ F2 N2 hi ?_ ⟨rfl, hp1, rfl⟩ ?_ (PassesOwn.never)
  · exact all1 rfl
  · rintro ⟨pos, t, vs', ns'⟩ u h tk hf ⟨hl, hp, hs⟩ F3 N3
    dsimp only [sdF, sdL, sdN] at hf hl hp hs F3 N3
    dsimp only
    repeat walk_at "q"
    by_cases hz : 0 < pos
    · rw [if_pos (by simpa using hz)]
      repeat walk_at "q"
      refine rshift_int (by decide) ?_
      rw [half_eq hz]
      have hq := half_lt hz
      have hql := Nat.lt_trans hq hp
      repeat walk_at "q"
      rename_i h3 F4 N4
      refine ksa_sub N4 (.head _) hf (Int.natCast_nonneg _) (Int.ofNat_lt.mpr (by rw [hl]; exact hql)) (idxf hql hsz) ?_ (by with_unfolding_all rfl)
      intro tp
      simp only [Int.toNat_natCast]
      repeat walk_at "q"
      rename_i h4 F5 N5
      refine wpAny_If ?_
      repeat walk_at "q"
      by_cases hc : it < ns'.getD ((pos - 1) / 2) 0
      · rw [if_pos (by simpa using hc)]
        repeat walk_at "q"
        refine ksa_set F5 N5 (.head (List.forall_mem_nil _)) hf (Int.natCast_nonneg _) (Int.ofNat_lt.mpr (by rw [hl]; exact hp)) (idxf hp hsz) ?_
        intro h' F' N' hi' _ _
        rw [Int.toNat_natCast] at N' hi'
        repeat walk_at "q"
        rename_i h5 F6 N6
        refine' ksw_end ⟨(pos - 1) / 2, _, _, ns'.set pos (ns'.getD ((pos - 1) / 2) 0)⟩ F6 N6 (fun _ h => h) hi' ?a ?b ⟨?c, ?d, ?e⟩ ?f
        case a => exact all1 (by rfl)
        case b => (intro z h2 h3; unfold sdN at h2; simp only [List.forall_mem_cons, List.not_mem_nil, false_implies, implies_true, and_true, ne_eq] at h2; simp only [List.contains_cons, List.contains_nil, Bool.or_false, Bool.or_eq_false_iff, beq_eq_false_iff_ne, ne_eq] at h3; simp [kstB, h2, h3])
        case c => exact (List.length_set ..).trans hl
        case d => exact hql
        case f => exact hq
        case e =>
          rw [← hs]
          cases pos with
          | zero => exact absurd hz (Nat.lt_irrefl _)
          | succ k =>
            show _ = if _ then _ else _
            rw [if_pos ⟨hz, hc⟩]
            exact sd_fuel it ((k + 1 - 1) / 2) k _ ((k + 1 - 1) / 2) (Nat.le_refl _) (Nat.div_le_self _ _)
      · rw [if_neg (by simpa using hc)]
        repeat walk_at "q"
        refine ⟨rfl, _, _, _, _, _, pos, t, rfl, F5, N5, hf, hl, hp, ?_, rfl, rfl, rfl⟩
        rw [← hs]
        cases pos with
        | zero => rfl
        | succ k =>
          show _ = if _ then _ else _
          rw [if_neg (fun h => hc h.2)]
    · rw [if_neg (by simpa using hz)]
      have : pos = 0 := Nat.eq_zero_of_not_pos hz
      subst this
      exact ⟨rfl, _, _, _, _, _, 0, t, rfl, F3, N3, hf, hl, hp, hs, rfl, rfl, rfl⟩
/-- the loop of `_siftup(heap, 0)`: the list with its hole, and the hole's place -/
def su : Nat → List Int → Nat → List Int × Nat
  | 0, xs, pos => (xs, pos)
  | f + 1, xs, pos =>
    if 2 * pos + 1 < xs.length then
      (if 2 * pos + 2 < xs.length ∧ ¬ xs.getD (2 * pos + 1) 0 < xs.getD (2 * pos + 2) 0
       then su f (xs.set pos (xs.getD (2 * pos + 2) 0)) (2 * pos + 2)
       else su f (xs.set pos (xs.getD (2 * pos + 1) 0)) (2 * pos + 1))
    else (xs, pos)

theorem su_fuel : ∀ (f g : Nat) (xs : List Int) (pos : Nat), xs.length ≤ f + pos → xs.length ≤ g + pos → su f xs pos = su g xs pos
  | 0, 0, _, _, _, _ => rfl
  | 0, g + 1, xs, pos, h, _ => by
    show _ = if _ then _ else _
    rw [if_neg (by lia)]
    rfl
  | f + 1, 0, xs, pos, _, h => by
    show (if _ then _ else _) = _
    rw [if_neg (by lia)]
    rfl
  | f + 1, g + 1, xs, pos, h1, h2 => by
    unfold su
    split
    · split
      · exact su_fuel f g _ _ (by rw [List.length_set]; lia) (by rw [List.length_set]; lia)
      · exact su_fuel f g _ _ (by rw [List.length_set]; lia) (by rw [List.length_set]; lia)
    · rfl

theorem su_len : ∀ (f : Nat) (xs : List Int) (pos : Nat), pos < xs.length → (su f xs pos).1.length = xs.length ∧ (su f xs pos).2 < xs.length
  | 0, xs, pos, h => ⟨rfl, h⟩
  | f + 1, xs, pos, h => by
    unfold su
    split
    · split
      · have := su_len f (xs.set pos (xs.getD (2 * pos + 2) 0)) (2 * pos + 2) (by rw [List.length_set]; lia)
        rwa [List.length_set] at this
      · have := su_len f (xs.set pos (xs.getD (2 * pos + 1) 0)) (2 * pos + 1) (by rw [List.length_set]; lia)
        rwa [List.length_set] at this
    · exact ⟨rfl, h⟩

theorem lt21 (pos : Nat) : pos < 2 * pos + 1 := Nat.lt_succ_of_le (by rw [Nat.two_mul]; exact Nat.le_add_left _ _)
theorem lt22 (pos : Nat) : pos < 2 * pos + 2 := Nat.lt_succ_of_lt (lt21 pos)
theorem su_step2 {ns : List Int} {n pos : Nat} (hl : ns.length = n) (h2 : 2 * pos + 2 < n) (h3 : ¬ ns.getD (2 * pos + 1) 0 < ns.getD (2 * pos + 2) 0) : su (n - (2 * pos + 2)) (ns.set pos (ns.getD (2 * pos + 2) 0)) (2 * pos + 2) = su (n - pos) ns pos := by
  obtain ⟨f, rfl⟩ := Nat.exists_eq_add_of_lt (Nat.lt_trans (lt22 pos) h2)
  rw [show pos + f + 1 - pos = f + 1 from Nat.add_sub_cancel_left (n := pos) (m := f + 1)]
  show _ = if _ then _ else _
  rw [if_pos (by rw [hl]; exact Nat.lt_of_succ_lt h2), if_pos ⟨by rw [hl]; exact h2, h3⟩]
  exact su_fuel _ _ _ _ (by rw [List.length_set, hl, Nat.sub_add_cancel (Nat.le_of_lt h2)]; exact Nat.le_refl _) (by rw [List.length_set, hl]; omega)
theorem su_step1 {ns : List Int} {n pos : Nat} (hl : ns.length = n) (h1 : 2 * pos + 1 < n) (h3 : ¬ (2 * pos + 2 < n ∧ ¬ ns.getD (2 * pos + 1) 0 < ns.getD (2 * pos + 2) 0)) : su (n - (2 * pos + 1)) (ns.set pos (ns.getD (2 * pos + 1) 0)) (2 * pos + 1) = su (n - pos) ns pos := by
  obtain ⟨f, rfl⟩ := Nat.exists_eq_add_of_lt (Nat.lt_trans (lt21 pos) h1)
  rw [show pos + f + 1 - pos = f + 1 from Nat.add_sub_cancel_left (n := pos) (m := f + 1)]
  show _ = if _ then _ else _
  rw [if_pos (by rw [hl]; exact h1), if_neg (by rw [hl]; exact h3)]
  exact su_fuel _ _ _ _ (by rw [List.length_set, hl, Nat.sub_add_cancel (Nat.le_of_lt h1)]; exact Nat.le_refl _) (by rw [List.length_set, hl]; omega)
theorem su_stop {ns : List Int} {pos : Nat} : ∀ f, ¬ 2 * pos + 1 < ns.length → su f ns pos = (ns, pos)
  | 0, _ => rfl
  | _ + 1, h => if_neg h
/-- the list behind `_siftup(heap, 0)` -/
def sup (xs : List Int) : List Int :=
  let r := su xs.length xs 0
  sd (xs.getD 0 0) r.2 (r.1.set r.2 (xs.getD 0 0)) r.2

structure SuC where
  pos : Nat
  t : Tok
  t' : Tok
  vs : List Value
  ns : List Int

/-- the words of the loop of `_siftup` -/
inductive SuQ (s : Shared) (g : Heap) (H : Addr) (n : Nat) (ns : List Int) (it : Int) (ti t1 : Tok) (f : Flow) (s' : Shared) : Prop
  | mk (e : f = Flow.next) (h : Heap) (tk : Nat) (m : Str → Option Value) (vs' : List Value) (t : Tok) (e' : s' = { s with heap := h, toks := tk }) (F : Fr g s.heap.objs.size h m) (N : News g s.heap.objs.size h [(H, listOf vs'.toArray n)]) (i : IntsAre vs' (su ns.length ns 0).1)
      (e1 : m (Str.ofString "pos") = some (.int ((su ns.length ns 0).2 : Int) t)) (e2 : m (Str.ofString "heap") = some (.ref H)) (e3 : m (Str.ofString "newitem") = some (.int it ti)) (e4 : m (Str.ofString "startpos") = some (.int 0 t1)) : SuQ s g H n ns it ti t1 f s'
inductive SuR (s : Shared) (g : Heap) (H : Addr) (n : Nat) (ns : List Int) (m3 : Str → Option Value) (vs' : List Value) (ns' : List Int) (pos : Nat) (t : Tok) (f : Flow) (s' : Shared) : Prop
  | mk (e : f = Flow.next) (h : Heap) (tk : Nat) (m : Str → Option Value) (t'' : Tok) (c : Nat) (e' : s' = { s with heap := h, toks := tk }) (F : Fr g s.heap.objs.size h m) (N : News g s.heap.objs.size h [(H, listOf vs'.toArray n)]) (p1 : pos < c) (p2 : c < ns.length) (p3 : su (ns.length - c) (ns'.set pos (ns'.getD c 0)) c = su ns.length ns 0)
      (e1 : m (Str.ofString "childpos") = some (.int (c : Int) t'')) (e2 : m (Str.ofString "pos") = some (.int (pos : Int) t)) (e3 : m (Str.ofString "heap") = some (.ref H)) (e4 : ∀ z, z ≠ Str.ofString "pos" → z ≠ Str.ofString "childpos" → z ≠ Str.ofString "rightpos" → m z = m3 z) : SuR s g H n ns m3 vs' ns' pos t f s'
inductive SuM (g : Heap) (L H : Addr) (ns : List Int) (it : Int) (ti t1 : Tok) (h3 : Heap) : Prop
  | mk (m3 : Str → Option Value) (t3 t4 : Tok) (F3 : Fr g L h3 m3) (a1 : m3 (Str.ofString "pos") = some (.int 0 t1)) (a2 : m3 (Str.ofString "heap") = some (.ref H)) (a3 : m3 (Str.ofString "newitem") = some (.int it ti)) (a4 : m3 (Str.ofString "startpos") = some (.int 0 t1)) (a5 : m3 (Str.ofString "childpos") = some (.int 1 t3)) (a6 : m3 (Str.ofString "endpos") = some (.int (ns.length : Int) t4)) : SuM g L H ns it ti t1 h3
def suL (H : Addr) (n : Nat) (c : SuC) : List (Addr × Obj) := [(H, listOf c.vs.toArray n)]
def suN (c : SuC) : List (Str × Value) := [(Str.ofString "pos", .int (c.pos : Int) c.t), (Str.ofString "childpos", .int (2 * (c.pos : Int) + 1) c.t')]
def suF (c : SuC) : Prop := IntsAre c.vs c.ns
structure SuI (ns : List Int) (c : SuC) : Prop where
  l : c.ns.length = ns.length
  p : c.pos < ns.length
  e : su (ns.length - c.pos) c.ns c.pos = su ns.length ns 0
def suK (ns : List Int) (c : SuC) : Nat := ns.length - c.pos
theorem i1a (pos : Nat) : (0 : Int) ≤ 2 * (pos : Int) + 1 := Int.natCast_nonneg (2 * pos + 1)
theorem i1b {pos n : Nat} (h : 2 * pos + 1 < n) : 2 * (pos : Int) + 1 < (n : Int) := Int.ofNat_lt.mpr h
theorem i1c {pos n : Nat} (h : 2 * pos + 1 < n) (h' : n ≤ 1000) : 2 * (pos : Int) + 1 < 2 ^ 63 := idxf h h'
theorem i2a (pos : Nat) : (0 : Int) ≤ 2 * (pos : Int) + 1 + 1 := Int.natCast_nonneg (2 * pos + 2)
theorem i2b {pos n : Nat} (h : 2 * pos + 2 < n) : 2 * (pos : Int) + 1 + 1 < (n : Int) := Int.ofNat_lt.mpr h
theorem i2c {pos n : Nat} (h : 2 * pos + 2 < n) (h' : n ≤ 1000) : 2 * (pos : Int) + 1 + 1 < 2 ^ 63 := idxf h h'
theorem j1 {pos n : Nat} (h : 2 * (pos : Int) + 1 < (n : Int)) : 2 * pos + 1 < n := Int.ofNat_lt.mp (show ((2 * pos + 1 : Nat) : Int) < (n : Int) from h)
theorem j2 {pos n : Nat} (h : 2 * (pos : Int) + 1 + 1 < (n : Int)) : 2 * pos + 2 < n := Int.ofNat_lt.mp (show ((2 * pos + 2 : Nat) : Int) < (n : Int) from h)
theorem i1n (pos : Nat) : (2 * (pos : Int) + 1).toNat = 2 * pos + 1 := Int.toNat_natCast (2 * pos + 1)
theorem i2n (pos : Nat) : (2 * (pos : Int) + 1 + 1).toNat = 2 * pos + 2 := Int.toNat_natCast (2 * pos + 2)
theorem zidx {n : Nat} (h : 0 < n) : (0 : Int) < (n : Int) := Int.ofNat_lt.mpr h
theorem siftup_spec {w : World} {s : Shared} {mg mb : Str → Option Value} {h₀ : Heap} {H : Addr} {vs : List Value} {ns : List Int} {n : Nat} {t1 : Tok} {R : Result → Shared → Prop}
    (G : Gnd w mg mb h₀) (hk : ∀ b o, h₀.get? b = some o → s.heap.get? b = some o) (hH : s.heap.get? H = some (listOf vs.toArray n)) (hH0 : h₀.get? H = none) (hi : IntsAre vs ns)
    (hp1 : 0 < ns.length) (hsz : ns.length ≤ 1000)
    (hR : ∀ h' tk vs', Kept [H] s.heap h' → h'.get? H = some (listOf vs'.toArray n) → IntsAre vs' (sup ns) → R (.ok (.ret .none)) { s with heap := h', toks := tk }) :
    codeAny (model prg w) (AS 490 490) (.call (.ref 49) ⟨[.ref H, .int 0 t1], []⟩) R s := by
  refine enter (led := [(H, listOf vs.toArray n)]) G hk (all1 ⟨hH, hH0⟩) (by k_is) (by k_is) (by decide) (BindsTo.of_eq rfl) (locs rfl) ?_
  intro g h₁ Gg kg ks F N
  have X' := Gg.X
  have T' := Gg.T
  dsimp only
  repeat walk_at "q"
  refine len_ints_fit (PySem.IsL.isList (n := n) (N _ (.head _)).1) hi (by lia) ?_
  repeat walk_at "q"
  rename_i h2 F2 N2
  refine ksa_sub N2 (.head _) hi (Int.le_refl _) (zidx hp1) (by decide) ?_ (by with_unfolding_all rfl)
  intro ti
  simp only [Int.toNat_zero]
  generalize e0 : ns.getD 0 0 = it at *
  repeat walk_at "q"
  refine mul_int ?_
  repeat walk_at "q"
  rename_i h3 F3 N3
  obtain ⟨m3, t3, t4, F3, a1, a2, a3, a4, a5, a6⟩ : SuM g s.heap.objs.size H ns it ti t1 h3 := ⟨_, _, _, F3, rfl, rfl, rfl, rfl, rfl, rfl⟩
  refine wpAny_mono (Q := SuQ s g H n ns it ti t1) (E := fun _ _ => False) ?loop ?rest (fun _ _ h => h)
  case rest =>
    rintro f s' ⟨rfl, h, tk, m, vs', t, rfl, F, N, hf, e1, e2, e3, e4⟩
    have hq := su_len ns.length ns 0 hp1
    dsimp only
    walk_at "q"
    walk_at "q"
    refine ld F e3 ?_
    refine ld F e2 ?_
    refine ld F e1 ?_
    refine ksa_set F N (.head (List.forall_mem_nil _)) hf (Int.natCast_nonneg _) (Int.ofNat_lt.mpr (by rw [hq.1]; exact hq.2)) (idxf hq.2 hsz) ?_
    intro h' F' N' hi' hl' _
    rw [Int.toNat_natCast] at N' hi' hl'
    repeat walk_at "q"
    refine wpAny_call (codeAny_AS rfl (Nat.le_of_ble_eq_true rfl) (Nat.le_of_ble_eq_true rfl) (siftdown_spec Gg F'.keep (N' _ (.head _)).1 (N' _ (.head _)).2.2 hi' (by rw [hl', hq.1]; exact hq.2) (by rw [hl', hq.1]; exact hsz) ?_))
    intro h'' tk' vs'' K' H' I'
    dsimp only
    refine wpAny_execs_nil (hR h'' tk' vs'' ?_ H' ?_)
    · intro b o hb e
      exact K' b o hb (F'.keep b o (kg b o hb e))
    · have e5 : ((su ns.length ns 0).1.set (su ns.length ns 0).2 it).getD (su ns.length ns 0).2 0 = it := by
        rw [List.getD_eq_getElem?_getD, List.getElem?_set_self (by rw [hq.1]; exact hq.2)]
        rfl
      rw [e5] at I'
      unfold sup
      rw [e0]
      exact I'
  refine' ksw_while (suL H n) suN suF [Str.ofString "rightpos"] (SuI ns) (suK ns) ⟨0, t1, t3, vs, ns⟩ F3 N3 hi ?a ⟨rfl, hp1, rfl⟩ ?b (PassesOwn.never)
  case a => exact all2 a1 a5
  case b =>
    rintro ⟨pos, t, t', vs', ns'⟩ u h tk hf ⟨hl, hp, hs⟩ F4 N4
    dsimp only [suF, suL, suN] at hf hl hp hs F4 N4
    dsimp only
    repeat walk_at "q"
    by_cases hz : 2 * pos + 1 < ns.length
    · rw [if_pos (decide_eq_true (i1b hz))]
      repeat walk_at "q"
      rename_i h5 F5 N5
      refine wpAny_mono (Q := SuR s g H n ns m3 vs' ns' pos t) (E := fun _ _ => False) ?tst ?rst (fun _ _ h => h)
      case tst =>
        refine wpAny_If ?_
        repeat walk_at "q"
        by_cases hr : 2 * pos + 2 < ns.length
        · rw [if_pos (decide_eq_true (i2b hr))]
          repeat walk_at "q"
          refine ksa_sub N5 (.head _) hf (i1a pos) (by rw [hl]; exact i1b hz) (i1c hz hsz) ?_ (by with_unfolding_all rfl)
          intro tl
          repeat walk_at "q"
          refine ksa_sub N5 (.head _) hf (i2a pos) (by rw [hl]; exact i2b hr) (i2c hr hsz) ?_ (by with_unfolding_all rfl)
          intro tr
          have q1 := i1n pos
          have q2 := i2n pos
          simp only [q1, q2]
          repeat walk_at "q"
          by_cases hc : ns'.getD (2 * pos + 1) 0 < ns'.getD (2 * pos + 2) 0
          · simp only [hc, decide_true, Bool.not_true, Bool.false_eq_true, if_false]
            repeat walk_at "q"
            exact ⟨rfl, _, _, _, t', 2 * pos + 1, rfl, F5, N5, lt21 pos, hz, (su_step1 hl hz (fun q => q.2 hc)).trans hs, by push_cast; rfl, rfl, a2, by intro z h1 h2 h3; simp [kstB, h1, h2, h3]⟩
          · simp only [hc, decide_false, Bool.not_false, if_true]
            repeat walk_at "q"
            rename_i h6 F6 N6
            exact ⟨rfl, _, _, _, _, 2 * pos + 2, rfl, F6, N6, lt22 pos, hr, (su_step2 hl hr hc).trans hs, by push_cast; rfl, rfl, a2, by intro z h1 h2 h3; simp [kstB, h1, h2, h3]⟩
        · rw [if_neg (fun c => hr (j2 (of_decide_eq_true c)))]
          simp only [Bool.false_eq_true, if_false]
          repeat walk_at "q"
          exact ⟨rfl, _, _, _, t', 2 * pos + 1, rfl, F5, N5, lt21 pos, hz, (su_step1 hl hz (fun q => hr q.1)).trans hs, by push_cast; rfl, rfl, a2, by intro z h1 h2 h3; simp [kstB, h1, h2, h3]⟩
      case rst =>
        rintro f s' ⟨rfl, h, tk, m, t'', c, rfl, F, N, p1, p2, p3, e1, e2, e3, e4⟩
        dsimp only
        repeat walk_at "q"
        refine ksa_sub N (.head _) hf (Int.natCast_nonneg _) (Int.ofNat_lt.mpr (by rw [hl]; exact p2)) (idxf p2 hsz) ?_ (by with_unfolding_all rfl)
        intro tx
        simp only [Int.toNat_natCast]
        repeat walk_at "q"
        refine ksa_set F N (.head (List.forall_mem_nil _)) hf (Int.natCast_nonneg _) (Int.ofNat_lt.mpr (by rw [hl]; exact hp)) (idxf hp hsz) ?_
        intro h' F' N' hi' hl' _
        rw [Int.toNat_natCast] at N' hi' hl'
        repeat walk_at "q"
        refine mul_int ?_
        repeat walk_at "q"
        rename_i h7 F7 N7
        refine' ksw_end ⟨c, _, _, _, _⟩ F7 N7 (fun _ h => h) hi' ?a ?b ⟨hl'.trans hl, p2, p3⟩ ?f
        case a => exact all2 (by rfl) (by rfl)
        case b =>
          intro z h2 h3
          unfold suN at h2
          simp only [List.forall_mem_cons, List.not_mem_nil, false_implies, implies_true, and_true, ne_eq] at h2
          simp only [List.contains_cons, List.contains_nil, Bool.or_false, beq_eq_false_iff_ne, ne_eq] at h3
          simp [h2, e4 z h2.1 h2.2 h3]
        case f => exact Nat.sub_lt_sub_left hp p1
    · rw [if_neg (fun c => hz (j1 (of_decide_eq_true c)))]
      have e := hs.symm.trans (su_stop (ns.length - pos) (by rw [hl]; exact hz))
      exact ⟨rfl, _, _, _, vs', t, rfl, F4, N4, by rw [e]; exact hf, by rw [e]; rfl, a2, a3, a4⟩

theorem heappush_spec {w : World} {s : Shared} {mg mb : Str → Option Value} {h₀ : Heap} {H : Addr} {vs : List Value} {ns : List Int} {n : Nat} {x : Int} {tx : Tok} {R : Result → Shared → Prop}
    (G : Gnd w mg mb h₀) (hk : ∀ b o, h₀.get? b = some o → s.heap.get? b = some o) (hH : s.heap.get? H = some (listOf vs.toArray n)) (hH0 : h₀.get? H = none) (hi : IntsAre vs ns) (hsz : ns.length ≤ 900)
    (hR : ∀ h' tk vs' n', Kept [H] s.heap h' → h'.get? H = some (listOf vs'.toArray n') → IntsAre vs' (sd x ns.length (ns ++ [x]) ns.length) → R (.ok (.ret .none)) { s with heap := h', toks := tk }) :
    codeAny (model prg w) (AS 490 490) (.call (.ref 28) ⟨[.ref H, .int x tx], []⟩) R s := by
  refine enter (led := [(H, listOf vs.toArray n)]) G hk (all1 ⟨hH, hH0⟩) (by k_is) (by k_is) (by decide) (BindsTo.of_eq rfl) (locs rfl) ?_
  intro g h₁ Gg kg ks F N
  have X' := Gg.X
  have T' := Gg.T
  dsimp only
  repeat walk_at "q"
  refine listMethod_K N (.head _) PySem.F.slot_list_append PySem.F.type_list_append ?_
  repeat walk_at "q"
  refine append_K F N (.head (List.forall_mem_nil _)) ?_ (by rw [List.size_toArray, hi.length, sizeLine_eq]; lia)
  intro h2 F2 N2
  have hi2 : IntsAre (vs ++ [.int x tx]) (ns ++ [x]) := IntsAre.append hi (.cons x tx .nil)
  rw [List.push_toArray] at N2
  repeat walk_at "q"
  refine len_ints_fit (PySem.IsL.isList (n := n + 1) (N2 _ (.head _)).1) hi2 (by rw [List.length_append]; simp; lia) ?_
  repeat walk_at "q"
  have e1 : (((ns ++ [x]).length : Nat) : Int) - 1 = ((ns.length : Nat) : Int) := by simp
  rw [e1]
  refine wpAny_call (codeAny_AS rfl (Nat.le_of_ble_eq_true rfl) (Nat.le_of_ble_eq_true rfl) (siftdown_spec Gg F2.keep (N2 _ (.head _)).1 (N2 _ (.head _)).2.2 hi2 (by simp) (by simp; lia) ?_))
  intro h3 tk3 vs3 K3 H3 I3
  dsimp only
  refine wpAny_execs_nil (hR h3 tk3 vs3 (n + 1) ?_ H3 ?_)
  · intro b o hb e
    exact K3 b o hb (F2.keep b o (kg b o hb e))
  · have e2 : (ns ++ [x]).getD ns.length 0 = x := by simp [List.getD_eq_getElem?_getD]
    rw [e2] at I3
    exact I3

theorem heapreplace_spec {w : World} {s : Shared} {mg mb : Str → Option Value} {h₀ : Heap} {H : Addr} {vs : List Value} {ns : List Int} {n : Nat} {x : Int} {tx : Tok} {R : Result → Shared → Prop}
    (G : Gnd w mg mb h₀) (hk : ∀ b o, h₀.get? b = some o → s.heap.get? b = some o) (hH : s.heap.get? H = some (listOf vs.toArray n)) (hH0 : h₀.get? H = none) (hi : IntsAre vs ns) (hp : 0 < ns.length) (hsz : ns.length ≤ 900)
    (hR : ∀ h' tk vs' t, Kept [H] s.heap h' → h'.get? H = some (listOf vs'.toArray n) → IntsAre vs' (sup (ns.set 0 x)) → R (.ok (.ret (.int (ns.getD 0 0) t))) { s with heap := h', toks := tk }) :
    codeAny (model prg w) (AS 480 480) (.call (.ref 35) ⟨[.ref H, .int x tx], []⟩) R s := by
  refine enter (led := [(H, listOf vs.toArray n)]) G hk (all1 ⟨hH, hH0⟩) (by k_is) (by k_is) (by decide) (BindsTo.of_eq rfl) (locs rfl) ?_
  intro g h₁ Gg kg ks F N
  have X' := Gg.X
  have T' := Gg.T
  dsimp only
  repeat walk_at "q"
  refine ksa_sub N (.head _) hi (by lia) (by lia) (by lia) ?_ (by with_unfolding_all rfl)
  intro t0
  repeat walk_at "q"
  rename_i h2 F2 N2
  refine ksa_set F2 N2 (.head (List.forall_mem_nil _)) hi (by lia) (by lia) (by lia) ?_
  intro h3 F3 N3 hi3 hl3 _
  rw [Int.toNat_zero] at N3 hi3 hl3
  repeat walk_at "q"
  refine wpAny_call (codeAny_AS rfl (Nat.le_of_ble_eq_true rfl) (Nat.le_of_ble_eq_true rfl) (siftup_spec Gg F3.keep (N3 _ (.head _)).1 (N3 _ (.head _)).2.2 hi3 (by lia) (by lia) ?_))
  intro h4 tk4 vs4 K4 H4 I4
  dsimp only
  have F4 := Mine.Fr.behind F3 (M := [H]) (all1 (N3 _ (.head _)).2.2) (fun q => (N3 _ (.head _)).2.1 (List.mem_singleton.mp q).symm) K4
  repeat walk_at "q"
  refine hR h4 tk4 vs4 t0 ?_ H4 I4
  intro b o hb e
  exact K4 b o hb (F3.keep b o (kg b o hb e))
/-- the sorter's own dict -/
def soEs (hs : Int × Int × Int × Int) (ts : Tok × Tok × Tok × Tok) (D : Addr) (rv : Value) (p f : Int) (us : Tok × Tok) : List DictEntry :=
  [⟨hs.1, .str (Str.ofString "_node2info") ts.1, .ref D⟩, ⟨hs.2.1, .str (Str.ofString "_ready_nodes") ts.2.1, rv⟩, ⟨hs.2.2.1, .str (Str.ofString "_npassedout") ts.2.2.1, .int p us.1⟩, ⟨hs.2.2.2, .str (Str.ofString "_nfinished") ts.2.2.2, .int f us.2⟩]

theorem init_spec {w : World} {s : Shared} {mg mb : Str → Option Value} {h₀ : Heap} {x dx : Addr} {R : Result → Shared → Prop}
    (G : Gnd w mg mb h₀) (hk : ∀ b o, h₀.get? b = some o → s.heap.get? b = some o) (hx : s.heap.get? x = some (instObj 165 dx)) (hx0 : h₀.get? x = none) (hdx : s.heap.get? dx = some (dictOf [] 0)) (hd0 : h₀.get? dx = none)
    (hR : ∀ h' tk D hs ts us n, Kept [dx] s.heap h' → s.heap.objs.size ≤ D → (D == sysModules) = false → h'.DictOf (intKind prg w) D [] → h'.get? dx = some (dictOf (soEs hs ts D .none 0 0 us) n) → R (.ok (.ret .none)) { s with heap := h', toks := tk }) :
    codeAny (model prg w) (AS 490 490) (.call (.ref 101) ⟨[.ref x], []⟩) R s := by
  refine enter (led := [(dx, dictOf [] 0)]) G hk (all1 ⟨hdx, hd0⟩) (by k_is) (by k_is) (by decide) (binds_K (G.X.keeps hk) rfl (by k_is) rfl rfl rfl) (locs rfl) ?_
  intro g h₁ Gg kg ks F N
  have X' := Gg.X
  have T' := Gg.T
  have hne : x ≠ dx := neCls hx hdx (by intro h; cases h)
  have hx1 : h₁.get? x = some (instObj 165 dx) := F.keep _ _ (kg _ _ (not1 hne) hx)
  have hdL : dx ≠ s.heap.objs.size := Nat.ne_of_lt (Heap.lt_size hdx)
  have hxL : x ≠ s.heap.objs.size := Nat.ne_of_lt (Heap.lt_size hx)
  have hdg : g.get? dx = none := (N _ (.head _)).2.2
  have hd1 : h₁.get? dx = some (dictOf [] 0) := (N _ (.head _)).1
  dsimp only
  walk_at "q"
  walk_at "q"
  refine newDictR F T'.nolimit ?_
  intro h2 F2 K2 hm D2
  have hlt : s.heap.objs.size < h₁.objs.size := F.ns.lt
  have hDd : h₁.objs.size ≠ dx := Nat.ne_of_gt (Heap.lt_size hd1)
  generalize eD : h₁.objs.size = D at *
  have hDL : D ≠ s.heap.objs.size := Nat.ne_of_gt hlt
  have x2 := K2 _ _ List.not_mem_nil hx1
  repeat walk_at "q"
  refine attr_set F2 X' x2 (K2 _ _ List.not_mem_nil hd1) hdL hdg (by k_is) (by k_is) (by k_is) (by k_is) (by k_get) (by k_put) (Nat.le_of_ble_eq_true rfl) ?_
  intro h3 F3 K3 H3
  have x3 := K3 _ _ (not2 hxL hne) x2
  have D3 := DictOf.kept K3 (not2 hDL hDd) D2
  repeat walk_at "q"
  refine attr_set F3 X' x3 H3 hdL hdg (by k_is) (by k_is) (by k_is) (by k_is) (by k_get) (by k_put) (Nat.le_of_ble_eq_true rfl) ?_
  intro h4 F4 K4 H4
  have x4 := K4 _ _ (not2 hxL hne) x3
  have D4 := DictOf.kept K4 (not2 hDL hDd) D3
  repeat walk_at "q"
  refine attr_set F4 X' x4 H4 hdL hdg (by k_is) (by k_is) (by k_is) (by k_is) (by k_get) (by k_put) (Nat.le_of_ble_eq_true rfl) ?_
  intro h5 F5 K5 H5
  have x5 := K5 _ _ (not2 hxL hne) x4
  have D5 := DictOf.kept K5 (not2 hDL hDd) D4
  repeat walk_at "q"
  refine attr_set F5 X' x5 H5 hdL hdg (by k_is) (by k_is) (by k_is) (by k_is) (by k_get) (by k_put) (Nat.le_of_ble_eq_true rfl) ?_
  intro h6 F6 K6 H6
  have D6 := DictOf.kept K6 (not2 hDL hDd) D5
  repeat walk_at "q"
  refine wpAny_If ?_
  repeat walk_at "q"
  refine (if_neg (by decide)).mpr ?_
  repeat walk_at "q"
  refine hR h6 _ D (_, _, _, _) (_, _, _, _) (_, _) _ ?_ (Nat.le_of_lt hlt) hm D6 H6
  intro b o hb e
  have hbL : b ≠ s.heap.objs.size := Nat.ne_of_lt (Heap.lt_size e)
  have hbd : b ≠ dx := by simpa using hb
  exact K6 _ _ (not2 hbL hbd) (K5 _ _ (not2 hbL hbd) (K4 _ _ (not2 hbL hbd) (K3 _ _ (not2 hbL hbd) (K2 _ _ List.not_mem_nil (F.keep _ _ (kg _ _ hb e))))))

theorem ninit_spec {w : World} {s : Shared} {mg mb : Str → Option Value} {h₀ : Heap} {x dx : Addr} {k : Int} {t : Tok} {R : Result → Shared → Prop}
    (G : Gnd w mg mb h₀) (hk : ∀ b o, h₀.get? b = some o → s.heap.get? b = some o) (hx : s.heap.get? x = some (instObj 68 dx)) (hx0 : h₀.get? x = none) (hdx : s.heap.get? dx = some (dictOf [] 0))
    (hR : ∀ h' tk l t2, Kept [x] s.heap h' → s.heap.objs.size ≤ l → h'.get? l = some (listOf #[] 0) → h'.get? x = some (infoObj k 0 t t2 l dx) → R (.ok (.ret .none)) { s with heap := h', toks := tk }) :
    codeAny (model prg w) (AS 490 490) (.call (.ref 64) ⟨[.ref x, .int k t], []⟩) R s := by
  refine enter (led := [(x, instObj 68 dx)]) G hk (all1 ⟨hx, hx0⟩) (by k_is) (by k_is) (by decide) (BindsTo.of_eq rfl) (locs rfl) ?_
  intro g h₁ Gg kg ks F N
  have X' := Gg.X
  have T' := Gg.T
  have hne : x ≠ dx := neCls hx hdx (by intro h; cases h)
  have hx1 : h₁.get? x = some (instObj 68 dx) := (N _ (.head _)).1
  have hxL : x ≠ s.heap.objs.size := Nat.ne_of_lt (Heap.lt_size hx)
  have hdL : dx ≠ s.heap.objs.size := Nat.ne_of_lt (Heap.lt_size hdx)
  have hxg : g.get? x = none := (N _ (.head _)).2.2
  have hd1 : h₁.get? dx = some (dictOf [] 0) := F.keep _ _ (kg _ _ (not1 (Ne.symm hne)) hdx)
  dsimp only
  repeat walk_at "q"
  refine slot_put F X' hx1 ⟨hx1, rfl, rfl, hd1⟩ hxL hxg (by k_is) (by k_is) (by k_is) (by k_is) (by k_is) (by decide) (by k_slotset) (by rfl) ?_
  intro h2 F2 K2 H2
  have d2 := K2 _ _ (not2 hdL (Ne.symm hne)) hd1
  repeat walk_at "q"
  refine slot_put F2 X' H2 ⟨H2, rfl, rfl, d2⟩ hxL hxg (by k_is) (by k_is) (by k_is) (by k_is) (by k_is) (by decide) (by k_slotset) (by rfl) ?_
  intro h3 F3 K3 H3
  have d3 := K3 _ _ (not2 hdL (Ne.symm hne)) d2
  repeat walk_at "q"
  refine newListR F3 ?_
  intro h4 F4 K4 l4
  have lL : h3.objs.size ≠ s.heap.objs.size := Nat.ne_of_gt F3.ns.lt
  have lx : h3.objs.size ≠ x := Nat.ne_of_gt (Heap.lt_size H3)
  have ls : s.heap.objs.size ≤ h3.objs.size := Nat.le_of_lt F3.ns.lt
  have d4 := K4 _ _ List.not_mem_nil d3
  have x4 := K4 _ _ List.not_mem_nil H3
  repeat walk_at "q"
  refine slot_put F4 X' x4 ⟨x4, rfl, rfl, d4⟩ hxL hxg (by k_is) (by k_is) (by k_is) (by k_is) (by k_is) (by decide) (by k_slotset) (by rfl) ?_
  intro h5 F5 K5 H5
  repeat walk_at "q"
  refine hR h5 _ h3.objs.size _ ?_ ls (K5 _ _ (not2 lL lx) l4) H5
  intro b o hb e
  have hbL : b ≠ s.heap.objs.size := Nat.ne_of_lt (Heap.lt_size e)
  have hbd : b ≠ x := by simpa using hb
  exact K5 _ _ (not2 hbL hbd) (K4 _ _ List.not_mem_nil (K3 _ _ (not2 hbL hbd) (K2 _ _ (not2 hbL hbd) (F.keep _ _ (kg _ _ hb e)))))
/-- a sorter: its objects, and what it holds -/
structure So where
  S : Addr
  dS : Addr
  D : Addr
  rv : Value
  npo : Int
  nfi : Int
  keys : List Int
  ia : Int → Addr
  id : Int → Addr
  il : Int → Addr
  np : Int → Int
  succ : Int → List Int

def So.foot (q : So) : List Addr := q.S :: q.dS :: q.D :: q.keys.flatMap fun k => [q.ia k, q.id k, q.il k]

def So.kvs (q : So) : List (Int × Value) := q.keys.map fun k => (k, .ref (q.ia k))

structure SoAt (w : World) (q : So) (h : Heap) : Prop where
  inst : h.get? q.S = some (instObj 165 q.dS)
  own : ∃ hs ts us n, h.get? q.dS = some (dictOf (soEs hs ts q.D q.rv q.npo q.nfi us) n)
  mods : (q.D == sysModules) = false
  dic : h.DictOf (intKind prg w) q.D q.kvs
  info : ∀ k ∈ q.keys, ∃ t1 t2, h.get? (q.ia k) = some (infoObj k (q.np k) t1 t2 (q.il k) (q.id k))
  idc : ∀ k ∈ q.keys, h.get? (q.id k) = some (dictOf [] 0)
  lst : ∀ k ∈ q.keys, ∃ vs n, h.get? (q.il k) = some (listOf vs.toArray n) ∧ IntsAre vs (q.succ k)
  inj : ∀ k ∈ q.keys, ∀ k' ∈ q.keys, k ≠ k' → q.il k ≠ q.il k'
  DdS : q.D ≠ q.dS
  idD : ∀ k ∈ q.keys, q.id k ≠ q.D

theorem So.fS (q : So) : q.S ∈ q.foot := .head _
theorem So.fdS (q : So) : q.dS ∈ q.foot := .tail _ (.head _)
theorem So.fD (q : So) : q.D ∈ q.foot := .tail _ (.tail _ (.head _))
theorem So.fia {q : So} {k : Int} (hk : k ∈ q.keys) : q.ia k ∈ q.foot := .tail _ (.tail _ (.tail _ (List.mem_flatMap.mpr ⟨k, hk, .head _⟩)))
theorem So.fid {q : So} {k : Int} (hk : k ∈ q.keys) : q.id k ∈ q.foot := .tail _ (.tail _ (.tail _ (List.mem_flatMap.mpr ⟨k, hk, .tail _ (.head _)⟩)))
theorem So.fil {q : So} {k : Int} (hk : k ∈ q.keys) : q.il k ∈ q.foot := .tail _ (.tail _ (.tail _ (List.mem_flatMap.mpr ⟨k, hk, .tail _ (.tail _ (.head _))⟩)))
theorem SoAt.kept {w : World} {q : So} {h h' : Heap} {M : List Addr} (St : SoAt w q h) (k : Kept M h h') (hM : ∀ a ∈ M, a ∉ q.foot) : SoAt w q h' := by
  have nS : q.S ∉ M := fun c => hM _ c q.fS
  have ndS : q.dS ∉ M := fun c => hM _ c q.fdS
  have nD : q.D ∉ M := fun c => hM _ c q.fD
  have nia : ∀ k ∈ q.keys, q.ia k ∉ M := fun k hk c => hM _ c (So.fia hk)
  have nid : ∀ k ∈ q.keys, q.id k ∉ M := fun k hk c => hM _ c (So.fid hk)
  have nil : ∀ k ∈ q.keys, q.il k ∉ M := fun k hk c => hM _ c (So.fil hk)
  exact ⟨k _ _ nS St.inst, (let ⟨a, b, c, n, e⟩ := St.own; ⟨a, b, c, n, k _ _ ndS e⟩), St.mods, DictOf.kept k nD St.dic, (fun j hj => let ⟨a, b, e⟩ := St.info j hj; ⟨a, b, k _ _ (nia j hj) e⟩),
    (fun j hj => k _ _ (nid j hj) (St.idc j hj)), (fun j hj => let ⟨a, b, e, r⟩ := St.lst j hj; ⟨a, b, k _ _ (nil j hj) e, r⟩), St.inj, St.DdS, St.idD⟩

/-- a foot's address is taken -/
theorem SoAt.there {w : World} {q : So} {h : Heap} (St : SoAt w q h) {a : Addr} (ha : a ∈ q.foot) : ∃ o, h.get? a = some o := by
  simp only [So.foot, List.mem_cons, List.mem_flatMap, List.not_mem_nil, or_false] at ha
  rcases ha with rfl | rfl | rfl | ⟨k, hk, rfl | rfl | rfl⟩
  · exact ⟨_, St.inst⟩
  · obtain ⟨_, _, _, _, e⟩ := St.own; exact ⟨_, e⟩
  · obtain ⟨o, _, _, e, _⟩ := St.dic; exact ⟨_, e⟩
  · obtain ⟨_, _, e⟩ := St.info k hk; exact ⟨_, e⟩
  · exact ⟨_, St.idc k hk⟩
  · obtain ⟨_, _, e, _⟩ := St.lst k hk; exact ⟨_, e⟩
theorem SoAt.lt {w : World} {q : So} {h : Heap} (St : SoAt w q h) {a : Addr} (ha : a ∈ q.foot) : a < h.objs.size := let ⟨_, e⟩ := St.there ha; Heap.lt_size e

theorem So.at_in {q : So} {k : Int} (hk : k ∈ q.keys) : valueAt q.kvs k = some (.ref (q.ia k)) := by
  unfold valueAt So.kvs
  rw [List.find?_map]
  have : q.keys.find? ((fun kv : Int × Value => decide (kv.1 = k)) ∘ fun j => (j, Value.ref (q.ia j))) = some k := by
    have h1 : q.keys.find? (fun j => decide (j = k)) = some k := by
      generalize q.keys = l at hk
      induction l with
      | nil => cases hk
      | cons x l ih =>
        rw [List.find?_cons]
        by_cases h : x = k
        · simp [h]
        · simp only [h, decide_false]
          exact ih (by rcases List.mem_cons.mp hk with e | e; exact absurd e.symm h; exact e)
    exact h1
  rw [this]
  rfl
theorem So.at_out {q : So} {k : Int} (hk : k ∉ q.keys) : valueAt q.kvs k = none := by
  unfold valueAt So.kvs
  rw [List.find?_map]
  have : q.keys.find? ((fun kv : Int × Value => decide (kv.1 = k)) ∘ fun j => (j, Value.ref (q.ia j))) = none := by
    rw [List.find?_eq_none]
    intro x hx
    simp only [Function.comp, decide_eq_true_eq]
    rintro rfl
    exact hk hx
  rw [this]
  rfl
/-- a node more -/
def So.more (q : So) (k : Int) (a d l : Addr) : So :=
  { q with keys := q.keys ++ [k], ia := fun j => if j = k then a else q.ia j, id := fun j => if j = k then d else q.id j, il := fun j => if j = k then l else q.il j, np := fun j => if j = k then 0 else q.np j, succ := fun j => if j = k then [] else q.succ j }

theorem So.more_kvs {q : So} {k : Int} {a d l : Addr} (hk : k ∉ q.keys) : (q.more k a d l).kvs = stored q.kvs k (.ref a) := by
  unfold stored
  rw [if_neg]
  · unfold So.kvs So.more
    simp only [List.map_append, List.map_cons, List.map_nil, if_true]
    congr 1
    apply List.map_congr_left
    intro j hj
    rw [if_neg]
    rintro rfl
    exact hk hj
  · unfold So.kvs
    simp only [List.any_map, List.any_eq_true, Function.comp, decide_eq_true_eq, not_exists, not_and]
    rintro j hj rfl
    exact hk hj

section
variable {w : World} {A : Around} {E : Value → Shared → Prop} {s : Shared} {L d : Addr} {g : Heap} {m : Str → Option Value}

/-- `d.get(k)` -/
theorem dict_get {kvs : List (Int × Value)} {k : Int} {t : Tok} {Q : Value → Shared → Prop} (hm : s.heap.DictOf (intKind prg w) d kvs) (hd' : (d == sysModules) = false) (h : Q ((valueAt kvs k).getD .none) { s with toks := s.toks + 1 }) :
    wpAny (model prg w) A (call (.builtin "dict.get") [.ref d, .int k t]) Q E s :=
  call_meetsIn F.slot_dict_get hm.typeIs F.entry_dict_get (F.args_dict_get_2 _ _) (meets_dict_get (intKind prg w) d (intKind_is _ _ k t) hd') ⟨_, hm.mapOf, h⟩
theorem dict_getm {kvs : List (Int × Value)} {pl : Sem Bool} {Q : Value × List Value → Shared → Prop} (hm : s.heap.DictOf (intKind prg w) d kvs) (h : Q (.builtin "dict.get", [.ref d]) s) :
    wpAny (model prg w) A (getMethod (.ref d) (Str.ofString "get") pl) Q E s :=
  getMethod_builtin hm.typeIs F.plainAttrs_dict F.slot_dict_get F.type_dict_get hm.mapOf.noDict h

/-- a field of the sorter -/
theorem so_attr {q : So} {nm : Str} {v : Value} {expr : Bool} {Q : Value → Shared → Prop} (F : Fr g L s.heap m) (X : (hd.heap_39 w.params).In g) (St : SoAt w q s.heap)
    (hg : plainGet (hd.heap_39 w.params) 165 nm = true) (hh : hasDictIn (hd.heap_39 w.params) 165 = true) (ha : findIn (hd.heap_39 w.params) (.ref 165) nm = some none) (hl : ∀ hs ts us, getL nm (soEs hs ts q.D q.rv q.npo q.nfi us) = some (some v)) (hv : handedIn v = true) (h : Q v { s with toks := s.toks + 1 }) :
    wpAny (model prg w) A (getAttr (.ref q.S) nm expr) Q E s := by
  obtain ⟨hs, ts, us, n, e⟩ := St.own
  exact attr_get F X ⟨St.inst, rfl, rfl, e⟩ hg hh ha (hl hs ts us) hv h
end
theorem So.more_foot {q : So} {k : Int} {a d l b : Addr} (hb : b ∈ (q.more k a d l).foot) : b ∈ q.foot ∨ b = a ∨ b = d ∨ b = l := by
  simp only [So.foot, So.more, List.mem_cons, List.mem_flatMap, List.mem_append, List.not_mem_nil, or_false] at hb
  rcases hb with e | e | e | ⟨j, hj, hf⟩
  · exact .inl (e ▸ q.fS)
  · exact .inl (e ▸ q.fdS)
  · exact .inl (e ▸ q.fD)
  · by_cases e : j = k
    · simp only [e, if_true] at hf
      exact .inr hf
    · simp only [e, or_false] at hj
      simp only [e, if_false] at hf
      rcases hf with e | e | e
      · exact .inl (e ▸ So.fia hj)
      · exact .inl (e ▸ So.fid hj)
      · exact .inl (e ▸ So.fil hj)
theorem SoAt.grow {w : World} {q : So} {h h' : Heap} {k : Int} {a d l : Addr} {t1 t2 : Tok} {n : Nat} (St : SoAt w q h) (hk : k ∉ q.keys) (hs : Kept [q.D] h h') (dic : h'.DictOf (intKind prg w) q.D (stored q.kvs k (.ref a)))
    (ha : h'.get? a = some (infoObj k 0 t1 t2 l d)) (hd' : h'.get? d = some (dictOf [] 0)) (hl : h'.get? l = some (listOf #[] n)) (hln : ∀ j ∈ q.keys, q.il j ≠ l) (hdD : d ≠ q.D) : SoAt w (q.more k a d l) h' := by
  have ne : ∀ {b : Addr} {o : Obj}, h.get? b = some o → o.cls ≠ .type "dict" → b ≠ q.D := fun {b o} e n c => by
    obtain ⟨oD, _, _, hD, hx, _⟩ := St.dic
    rw [c, hD] at e
    cases e
    exact n hx.1
  have nl : Value.type "list" ≠ Value.type "dict" := by decide
  refine ⟨hs _ _ (not1 (ne St.inst (by intro c; cases c))) St.inst, ?_, St.mods, ?_, ?_, ?_, ?_, ?_, St.DdS, ?_⟩
  · obtain ⟨x, y, z, n, e⟩ := St.own
    exact ⟨x, y, z, n, hs _ _ (not1 (Ne.symm St.DdS)) e⟩
  · show h'.DictOf _ q.D _
    rw [So.more_kvs hk]
    exact dic
  · intro j hj
    show ∃ t1 t2, h'.get? (if j = k then a else q.ia j) = some (infoObj j (if j = k then 0 else q.np j) t1 t2 (if j = k then l else q.il j) (if j = k then d else q.id j))
    by_cases e : j = k
    · subst e
      simp only [if_true]
      exact ⟨_, _, ha⟩
    · simp only [e, if_false]
      have hj' : j ∈ q.keys := by simpa [So.more, e] using hj
      obtain ⟨x, y, z⟩ := St.info j hj'
      exact ⟨x, y, hs _ _ (not1 (ne z (by intro c; cases c))) z⟩
  · intro j hj
    show h'.get? (if j = k then d else q.id j) = _
    by_cases e : j = k
    · rw [if_pos e]; exact hd'
    · rw [if_neg e]
      have hj' : j ∈ q.keys := by simpa [So.more, e] using hj
      exact hs _ _ (not1 (St.idD j hj')) (St.idc j hj')
  · intro j hj
    show ∃ vs n, h'.get? (if j = k then l else q.il j) = _ ∧ IntsAre vs (if j = k then [] else q.succ j)
    by_cases e : j = k
    · simp only [e, if_true]
      exact ⟨[], n, hl, .nil⟩
    · simp only [e, if_false]
      have hj' : j ∈ q.keys := by simpa [So.more, e] using hj
      obtain ⟨x, y, z, r⟩ := St.lst j hj'
      exact ⟨x, y, hs _ _ (not1 (ne z nl)) z, r⟩
  · intro i hi j hj hij
    show (if i = k then l else q.il i) ≠ (if j = k then l else q.il j)
    by_cases e : i = k
    · have e' : j ≠ k := fun c => hij (e.trans c.symm)
      have hj' : j ∈ q.keys := by simpa [So.more, e'] using hj
      rw [if_pos e, if_neg e']
      exact Ne.symm (hln j hj')
    · have hi' : i ∈ q.keys := by simpa [So.more, e] using hi
      by_cases e' : j = k
      · rw [if_neg e, if_pos e']; exact hln i hi'
      · have hj' : j ∈ q.keys := by simpa [So.more, e'] using hj
        rw [if_neg e, if_neg e']; exact St.inj i hi' j hj' hij
  · intro j hj
    show (if j = k then d else q.id j) ≠ q.D
    by_cases e : j = k
    · rw [if_pos e]; exact hdD
    · rw [if_neg e]
      have hj' : j ∈ q.keys := by simpa [So.more, e] using hj
      exact St.idD j hj'

theorem mem1' {a b : Addr} (h : a ∈ [b]) : a = b := List.mem_singleton.mp h
theorem gni_spec {w : World} {s : Shared} {mg mb : Str → Option Value} {h₀ : Heap} {q : So} {k : Int} {t : Tok} {R : Result → Shared → Prop}
    (G : Gnd w mg mb h₀) (hk : ∀ b o, h₀.get? b = some o → s.heap.get? b = some o) (St : SoAt w q s.heap) (hoff : ∀ a ∈ q.foot, h₀.get? a = none) (hlen : q.keys.length ≤ 100)
    (hR1 : k ∈ q.keys → ∀ h' tk, Kept [] s.heap h' → R (.ok (.ret (.ref (q.ia k)))) { s with heap := h', toks := tk })
    (hR2 : k ∉ q.keys → ∀ h' tk a d l, s.heap.objs.size ≤ a → s.heap.objs.size ≤ d → s.heap.objs.size ≤ l → Kept [q.D] s.heap h' → SoAt w (q.more k a d l) h' → R (.ok (.ret (.ref a))) { s with heap := h', toks := tk }) :
    codeAny (model prg w) (AS 480 480) (.call (.ref 108) ⟨[.ref q.S, .int k t], []⟩) R s := by
  obtain ⟨oD, esD, epD, hD, rD⟩ := id St.dic
  refine enter (led := [(q.D, oD)]) G hk (all1 ⟨hD, hoff _ q.fD⟩) (by k_is) (by k_is) (by decide) (BindsTo.of_eq rfl) (locs rfl) ?_
  intro g h₁ Gg kg ks F N
  have X' := Gg.X
  have T' := Gg.T
  have St1 := St.kept ks (List.forall_mem_nil _)
  have hL : ∀ a ∈ q.foot, a ≠ s.heap.objs.size := fun a ha => Nat.ne_of_lt (St.lt ha)
  have hDg : g.get? q.D = none := (N _ (.head _)).2.2
  dsimp only
  walk_at "q"
  refine wpAny_If ?_
  repeat walk_at "q"
  refine so_attr F X' St1 (by k_is) (by k_is) (by k_is) (fun _ _ _ => rfl) rfl ?_
  refine dict_getm St1.dic ?_
  repeat walk_at "q"
  refine dict_get St1.dic St1.mods ?_
  clear N
  repeat walk_at "q"
  rename_i h2 F2 K2
  have hb : ∀ {b : Addr} {o : Obj}, s.heap.get? b = some o → b ≠ s.heap.objs.size := fun e => Nat.ne_of_lt (Heap.lt_size e)
  have S2 := St1.kept K2 (fun a ha hf => hL _ hf (mem1' ha))
  by_cases hin : k ∈ q.keys
  · rw [So.at_in hin] at F2 ⊢
    refine (if_neg (by simp)).mpr ?_
    repeat walk_at "q"
    exact hR1 hin h2 _ (fun b o _ e => K2 _ _ (not1 (hb e)) (ks _ _ List.not_mem_nil e))
  · rw [So.at_out hin] at F2 ⊢
    refine (if_pos (by simp)).mpr ?_
    repeat walk_at "q"
    refine wpAny_call (makeR F2 X' (by k_is) (by k_is) (by k_is) ?_)
    intro h3 F3 K3 d3 x3
    dsimp only at d3 x3 K3
    have lt2 : s.heap.objs.size < h2.objs.size := F2.ns.lt
    refine codeAny_AS rfl (Nat.le_of_ble_eq_true rfl) (Nat.le_of_ble_eq_true rfl) (ninit_spec Gg F3.keep x3 (Mine.Fr.high F3 (Nat.le_of_lt (Nat.lt_succ_of_lt lt2))) d3 ?_)
    intro h4 tk4 l t2 K4 hl l4 x4
    dsimp only at K4 hl l4 x4 ⊢
    have lt3 : h2.objs.size + 1 < h3.objs.size := Heap.lt_size x3
    generalize ex : h2.objs.size + 1 = x at *
    generalize ed : h2.objs.size = dx at *
    have ex : @Eq Nat (dx + 1) x := ex
    have old : ∀ {b : Addr} {o : Obj}, h2.get? b = some o → @LT.lt Nat _ b dx := fun e => ed ▸ Heap.lt_size e
    have F4 := Mine.Fr.behind F3 (M := [x]) (all1 (Mine.Fr.high F3 (by lia))) (not1 (neN (by lia))) K4
    have K24 : Kept [] h2 h4 := fun b o _ e => K4 _ _ (not1 (neN (by have := old e; lia))) (K3 _ _ List.not_mem_nil e)
    have S4 := S2.kept K24 (List.forall_mem_nil _)
    have d4 := K4 _ _ (not1 (neN (by lia))) d3
    refine ⟨rfl, ?_⟩
    dsimp only
    repeat walk_at "q"
    refine so_attr F4 X' S4 (by k_is) (by k_is) (by k_is) (fun _ _ _ => rfl) rfl ?_
    repeat walk_at "q"
    refine wpAny_setItem_pairs (intKind_is _ _ k t) S4.dic ?_ (by unfold So.kvs; rw [List.length_map, sizeLine_eq]; lia)
    intro h5 D5 B5
    dsimp only at B5
    have F5 := Mine.Fr.behind F4 (M := [q.D]) (all1 (hDg)) (not1 (Ne.symm (hL _ q.fD))) (Kept.one B5)
    have dD : @LT.lt Nat _ q.D dx := old (S2.there q.fD).choose_spec
    have S5 := S4.grow hin (Kept.one B5) D5 (Kept.one B5 _ _ (not1 (neN (by lia))) x4) (Kept.one B5 _ _ (not1 (neN (by lia))) d4) (Kept.one B5 _ _ (not1 (neN (by lia))) l4)
      (fun j hj => neN (by have := old (S2.there (So.fil hj)).choose_spec; lia)) (neN (by lia))
    repeat walk_at "q"
    rename_i h6 F6 K6
    have S6 := S5.kept K6 (fun a ha hf => by
      have e := mem1' ha
      rcases So.more_foot hf with h | h | h | h
      · exact hL _ h e
      · exact absurd (h.symm.trans e) (neN (by lia))
      · exact absurd (h.symm.trans e) (neN (by lia))
      · exact absurd (h.symm.trans e) (neN (by lia)))
    refine hR2 hin h6 _ x dx l (by lia) (by lia) (by lia) ?_ S6
    intro b o hn e
    have e2 := K2 _ _ (not1 (hb e)) (ks _ _ List.not_mem_nil e)
    exact K6 _ _ (not1 (hb e)) (Kept.one B5 _ _ hn (K24 _ _ List.not_mem_nil e2))
/-- the plain graph that a sorter holds -/
structure Gr where
  keys : List Int
  np : Int → Int
  succ : Int → List Int
def So.gr (q : So) : Gr := ⟨q.keys, q.np, q.succ⟩
def Gr.touch (G : Gr) (k : Int) : Gr := if k ∈ G.keys then G else ⟨G.keys ++ [k], fun j => if j = k then 0 else G.np j, fun j => if j = k then [] else G.succ j⟩
def Gr.link (j : Int) (G : Gr) (p : Int) : Gr := let G' := G.touch p; { G' with succ := fun x => if x = p then G'.succ p ++ [j] else G'.succ x }
def Gr.count (G : Gr) (j n : Int) : Gr := let G' := G.touch j; { G' with np := fun x => if x = j then G'.np j + n else G'.np x }
def Gr.addN (G : Gr) (j : Int) (ps : List Int) : Gr := ps.foldl (Gr.link j) (G.count j ps.length)

theorem Gr.touch_len (G : Gr) (k : Int) : (G.touch k).keys.length ≤ G.keys.length + 1 := by
  unfold Gr.touch
  split
  · lia
  · simp

/-- the same sorter, as to its own places and counts -/
structure SameSo (q q' : So) : Prop where
  S : q'.S = q.S
  dS : q'.dS = q.dS
  D : q'.D = q.D
  rv : q'.rv = q.rv
  npo : q'.npo = q.npo
  nfi : q'.nfi = q.nfi
theorem SameSo.refl (q : So) : SameSo q q := ⟨rfl, rfl, rfl, rfl, rfl, rfl⟩
theorem SameSo.trans {a b c : So} (x : SameSo a b) (y : SameSo b c) : SameSo a c := ⟨y.S.trans x.S, y.dS.trans x.dS, y.D.trans x.D, y.rv.trans x.rv, y.npo.trans x.npo, y.nfi.trans x.nfi⟩

theorem So.more_gr {q : So} {k : Int} {a d l : Addr} (hk : k ∉ q.keys) : (q.more k a d l).gr = q.gr.touch k := by
  unfold Gr.touch
  rw [if_neg (show k ∉ q.gr.keys from hk)]
  rfl
theorem So.gr_touch_in {q : So} {k : Int} (hk : k ∈ q.keys) : q.gr.touch k = q.gr := by
  unfold Gr.touch
  rw [if_pos (show k ∈ q.gr.keys from hk)]
theorem gni_spec' {w : World} {s : Shared} {mg mb : Str → Option Value} {h₀ : Heap} {q : So} {k : Int} {t : Tok} {R : Result → Shared → Prop}
    (G : Gnd w mg mb h₀) (hk : ∀ b o, h₀.get? b = some o → s.heap.get? b = some o) (St : SoAt w q s.heap) (hoff : ∀ a ∈ q.foot, h₀.get? a = none) (hlen : q.keys.length ≤ 100)
    (hR : ∀ h' tk q', q'.gr = q.gr.touch k → SameSo q q' → k ∈ q'.keys → SoAt w q' h' → Kept [q.D] s.heap h' → (∀ a ∈ q'.foot, a ∈ q.foot ∨ @LE.le Nat _ s.heap.objs.size a) → R (.ok (.ret (.ref (q'.ia k)))) { s with heap := h', toks := tk }) :
    codeAny (model prg w) (AS 480 480) (.call (.ref 108) ⟨[.ref q.S, .int k t], []⟩) R s := by
  refine gni_spec G hk St hoff hlen ?_ ?_
  · intro hin h' tk K
    exact hR h' tk q (So.gr_touch_in hin).symm (SameSo.refl q) hin (St.kept K (List.forall_mem_nil _)) (K.mono (List.forall_mem_nil _)) (fun _ h => .inl h)
  · intro hin h' tk a d l la ld ll K S'
    have e : (q.more k a d l).ia k = a := by simp [So.more]
    have := hR h' tk (q.more k a d l) (So.more_gr hin) ⟨rfl, rfl, rfl, rfl, rfl, rfl⟩ (by simp [So.more]) S' K (fun b hb => by
      rcases So.more_foot hb with h | rfl | rfl | rfl
      · exact .inl h
      · exact .inr la
      · exact .inr ld
      · exact .inr ll)
    rwa [e] at this

/-- its successors' list with one more -/
theorem SoAt.app {w : World} {q : So} {h h' : Heap} {p j : Int} {t : Tok} {vs : List Value} {n n' : Nat} (St : SoAt w q h) (hp : p ∈ q.keys) (e : h.get? (q.il p) = some (listOf vs.toArray n)) (hi : IntsAre vs (q.succ p)) (hs : ∀ b ∈ q.foot, b ≠ q.il p → ∀ o, h.get? b = some o → h'.get? b = some o)
    (e' : h'.get? (q.il p) = some (listOf (vs ++ [Value.int j t]).toArray n')) : SoAt w { q with succ := fun x => if x = p then q.succ p ++ [j] else q.succ x } h' := by
  have nd : Value.type "dict" ≠ Value.type "list" := by decide
  have nc : ∀ {b : Addr} {o : Obj}, h.get? b = some o → o.cls ≠ .type "list" → b ≠ q.il p := fun e1 n => neCls e1 e n
  refine ⟨hs _ q.fS (nc St.inst (by intro c; cases c)) _ St.inst, ?_, St.mods, ?_, ?_, ?_, ?_, St.inj, St.DdS, St.idD⟩
  · obtain ⟨a, b, c, m, e1⟩ := St.own
    exact ⟨a, b, c, m, hs _ q.fdS (nc e1 nd) _ e1⟩
  · obtain ⟨o, es, ep, e1, x, r⟩ := St.dic
    exact ⟨o, es, ep, hs _ q.fD (nc e1 (by rw [x.1]; exact nd)) _ e1, x, r⟩
  · intro k hk
    obtain ⟨a, b, e1⟩ := St.info k hk
    exact ⟨a, b, hs _ (So.fia hk) (nc e1 (by intro c; cases c)) _ e1⟩
  · intro k hk
    exact hs _ (So.fid hk) (nc (St.idc k hk) nd) _ (St.idc k hk)
  · intro k hk
    by_cases ek : k = p
    · subst ek
      refine ⟨_, _, e', ?_⟩
      simp only [if_true]
      exact IntsAre.append hi (.cons j t .nil)
    · obtain ⟨a, b, e1, r⟩ := St.lst k hk
      refine ⟨a, b, hs _ (So.fil hk) (St.inj k hk p hp ek) _ e1, ?_⟩
      simp only [ek, if_false]
      exact r

/-- its count turned -/
theorem SoAt.setnp {w : World} {q : So} {h h' : Heap} {p v : Int} {t1 t2 : Tok} (St : SoAt w q h) (hp : p ∈ q.keys) (hs : ∀ b ∈ q.foot, b ≠ q.ia p → ∀ o, h.get? b = some o → h'.get? b = some o)
    (e' : h'.get? (q.ia p) = some (infoObj p v t1 t2 (q.il p) (q.id p))) : SoAt w { q with np := fun x => if x = p then v else q.np x } h' := by
  obtain ⟨t3, t4, e⟩ := St.info p hp
  have nc : ∀ {b : Addr} {o : Obj}, h.get? b = some o → o.cls ≠ .ref 68 → b ≠ q.ia p := fun e1 n => neCls e1 e n
  refine ⟨hs _ q.fS (nc St.inst (by intro c; cases c)) _ St.inst, ?_, St.mods, ?_, ?_, ?_, ?_, St.inj, St.DdS, St.idD⟩
  · obtain ⟨a, b, c, m, e1⟩ := St.own
    exact ⟨a, b, c, m, hs _ q.fdS (nc e1 (by intro c; cases c)) _ e1⟩
  · obtain ⟨o, es, ep, e1, x, r⟩ := St.dic
    exact ⟨o, es, ep, hs _ q.fD (nc e1 (by rw [x.1]; intro c; cases c)) _ e1, x, r⟩
  · intro k hk
    by_cases ek : k = p
    · subst ek
      simp only [if_true]
      exact ⟨_, _, e'⟩
    · simp only [ek, if_false]
      obtain ⟨a, b, e1⟩ := St.info k hk
      exact ⟨a, b, hs _ (So.fia hk) (neObj e1 e (by
        intro c
        have := congrArg (fun o => o.slots[0]?) c
        simp [infoObj] at this
        exact ek this.1)) _ e1⟩
  · intro k hk
    exact hs _ (So.fid hk) (nc (St.idc k hk) (by intro c; cases c)) _ (St.idc k hk)
  · intro k hk
    obtain ⟨a, b, e1, r⟩ := St.lst k hk
    exact ⟨a, b, hs _ (So.fil hk) (nc e1 (by intro c; cases c)) _ e1, r⟩

/-- every object of a list of addresses -/
def ledOf (h : Heap) (M : List Addr) : List (Addr × Obj) := M.filterMap fun a => (h.get? a).map fun o => (a, o)
theorem mem_ledOf {h : Heap} {M : List Addr} {p : Addr × Obj} (hp : p ∈ ledOf h M) : h.get? p.1 = some p.2 ∧ p.1 ∈ M := by
  obtain ⟨a, ha, e⟩ := List.mem_filterMap.mp hp
  cases ho : h.get? a with
  | none => rw [ho] at e; cases e
  | some o => rw [ho] at e; cases e; exact ⟨ho, ha⟩
theorem ledOf_addr {h : Heap} {M : List Addr} {a : Addr} {o : Obj} (ha : a ∈ M) (ho : h.get? a = some o) : (a, o) ∈ ledOf h M := List.mem_filterMap.mpr ⟨a, ha, by rw [ho]; rfl⟩
theorem ledOf_sub {h : Heap} {M : List Addr} {a : Addr} (ha : a ∈ (ledOf h M).map (·.1)) : a ∈ M := by
  obtain ⟨p, hp, rfl⟩ := List.mem_map.mp ha
  exact (mem_ledOf hp).2

section
variable {w : World} {A : Around} {E : Value → Shared → Prop} {s : Shared} {L d : Addr} {g : Heap} {m : Str → Option Value} {q : So} {k : Int}
/-- a field of a node's info -/
theorem info_get {nm : Str} {p i : Addr} {expr : Bool} {Q : Value → Shared → Prop} (F : Fr g L s.heap m) (X : (hd.heap_39 w.params).In g) (St : SoAt w q s.heap) (hk : k ∈ q.keys)
    (hg : plainGet (hd.heap_39 w.params) 68 nm = true) (hc : isClsIn (hd.heap_39 w.params) 68 = true) (ha : findIn (hd.heap_39 w.params) (.ref 68) nm = some (some (.ref p))) (hn : specialIn (hd.heap_39 w.params) (.ref p) "__get__" = some (some (.builtin "member_descriptor.__get__"))) (ht : takesIn (hd.heap_39 w.params) (.ref p) = some true) (hp : slotIn (hd.heap_39 w.params) p 68 = some i)
    (hv : ∀ t1 t2, ∃ v, ((infoObj k (q.np k) t1 t2 (q.il k) (q.id k)).slots[i]?).join = some v ∧ handedIn v = true ∧ Q v { s with toks := s.toks + 1 }) : wpAny (model prg w) A (getAttr (.ref (q.ia k)) nm expr) Q E s := by
  obtain ⟨t1, t2, e⟩ := St.info k hk
  obtain ⟨v, e1, e2, e3⟩ := hv t1 t2
  exact get_slot F X ⟨e, rfl, rfl, St.idc k hk⟩ hg hc ha hn ht hp e1 e2 e3
theorem info_succ {expr : Bool} {Q : Value → Shared → Prop} (F : Fr g L s.heap m) (X : (hd.heap_39 w.params).In g) (St : SoAt w q s.heap) (hk : k ∈ q.keys) (h : Q (.ref (q.il k)) { s with toks := s.toks + 1 }) :
    wpAny (model prg w) A (getAttr (.ref (q.ia k)) (Str.ofString "successors") expr) Q E s :=
  info_get F X St hk (by k_is) (by k_is) (by k_is) (by k_is) (by k_is) (by k_is) (fun _ _ => ⟨_, rfl, rfl, h⟩)
theorem info_np {expr : Bool} {Q : Value → Shared → Prop} (F : Fr g L s.heap m) (X : (hd.heap_39 w.params).In g) (St : SoAt w q s.heap) (hk : k ∈ q.keys) (h : ∀ t, Q (.int (q.np k) t) { s with toks := s.toks + 1 }) :
    wpAny (model prg w) A (getAttr (.ref (q.ia k)) (Str.ofString "npredecessors") expr) Q E s :=
  info_get F X St hk (by k_is) (by k_is) (by k_is) (by k_is) (by k_is) (by k_is) (fun _ _ => ⟨_, rfl, rfl, h _⟩)
theorem info_node {expr : Bool} {Q : Value → Shared → Prop} (F : Fr g L s.heap m) (X : (hd.heap_39 w.params).In g) (St : SoAt w q s.heap) (hk : k ∈ q.keys) (h : ∀ t, Q (.int k t) { s with toks := s.toks + 1 }) :
    wpAny (model prg w) A (getAttr (.ref (q.ia k)) (Str.ofString "node") expr) Q E s :=
  info_get F X St hk (by k_is) (by k_is) (by k_is) (by k_is) (by k_is) (by k_is) (fun _ _ => ⟨_, rfl, rfl, h _⟩)
theorem info_setnp {v : Int} {t : Tok} {Q : Unit → Shared → Prop} (F : Fr g L s.heap m) (X : (hd.heap_39 w.params).In g) (St : SoAt w q s.heap) (hk : k ∈ q.keys) (hL : ∀ a ∈ q.foot, a ≠ L ∧ g.get? a = none)
    (h : ∀ h', Fr g L h' m → Kept [L, q.ia k] s.heap h' → SoAt w { q with np := fun x => if x = k then v else q.np x } h' → Q () { s with heap := h', toks := s.toks + 1 }) :
    wpAny (model prg w) A (setAttr (.ref (q.ia k)) (Str.ofString "npredecessors") (.int v t)) Q E s := by
  obtain ⟨t1, t2, e⟩ := St.info k hk
  have hkL := hL _ (So.fia hk)
  refine slot_put F X e ⟨e, rfl, rfl, St.idc k hk⟩ hkL.1 hkL.2 (by k_is) (by k_is) (by k_is) (by k_is) (by k_is) (by decide) rfl rfl ?_
  intro h' F' K' H'
  exact h h' F' K' (St.setnp hk (fun b hb hne o e => K' _ _ (not2 (hL b hb).1 hne) e) H')
end
section
variable {w : World} {A : Around} {E : Value → Shared → Prop} {s : Shared} {L d : Addr} {g : Heap} {m : Str → Option Value} {q : So}
/-- a method of the sorter's -/
theorem so_meth {nm : Str} {f : Addr} {pl : Sem Bool} {Q : Value × List Value → Shared → Prop} (F : Fr g L s.heap m) (X : (hd.heap_39 w.params).In g) (St : SoAt w q s.heap)
    (hg : plainGet (hd.heap_39 w.params) 165 nm = true) (hf : findIn (hd.heap_39 w.params) (.ref 165) nm = some (some (.ref f))) (ht : isFn (hd.heap_39 w.params) (.ref f) = true) (hl : ∀ hs ts us, getL nm (soEs hs ts q.D q.rv q.npo q.nfi us) = some none) (h : Q (.ref f, [.ref q.S]) s) :
    wpAny (model prg w) A (getMethod (.ref q.S) nm pl) Q E s := by
  obtain ⟨hs, ts, us, n, e⟩ := St.own
  exact method_inst F X ⟨St.inst, rfl, rfl, e⟩ hg hf ht (hl hs ts us) h
end

theorem off1 {q : So} {L : Addr} {g : Heap} (hLo : ∀ a ∈ q.foot, a ≠ L ∧ g.get? a = none) : ∀ a ∈ [L], a ∉ q.foot := by
  intro a ha hf
  simp only [List.mem_cons, List.not_mem_nil, or_false] at ha
  exact (hLo _ hf).1 ha
theorem mem1 {a b : Addr} (h : a ∈ [b]) : a = b := List.mem_singleton.mp h
theorem mem2 {a b c : Addr} (h : a ∈ [b, c]) : a = b ∨ a = c := by simpa using h
theorem offs1 {F : List Addr} {L : Addr} (h1 : L ∉ F) : ∀ a ∈ [L], a ∉ F := fun a ha hf => h1 (mem1 ha ▸ hf)
theorem offs2 {F : List Addr} {L I : Addr} (h1 : ∀ a ∈ F, a ≠ L) (h2 : ∀ a ∈ F, a ≠ I) : ∀ a ∈ [L, I], a ∉ F := fun a ha hf => (mem2 ha).elim (h1 a hf) (h2 a hf)
theorem none1 {g : Heap} {b : Addr} (h : g.get? b = none) : ∀ a ∈ [b], g.get? a = none := fun _ ha => mem1 ha ▸ h
theorem Gr.touch_sl {G : Gr} {B : Nat} (h : ∀ k, (G.succ k).length ≤ B) (p k : Int) : ((G.touch p).succ k).length ≤ B := by
  unfold Gr.touch
  split
  · exact h k
  · show (if k = p then [] else G.succ k).length ≤ B
    split
    · exact Nat.zero_le _
    · exact h k
theorem Gr.link_keys (j : Int) (G : Gr) (p : Int) : (Gr.link j G p).keys = (G.touch p).keys := rfl

inductive AdJ (w : World) (s : Shared) (q : So) (j : Int) (ps : List Int) (L : Addr) (h4 : Heap) (t : Tok) (i : Nat) (m : Str → Option Value) (h : Heap) : Prop
  | mk (q' : So) (g' : q'.gr = (ps.take i).foldl (Gr.link j) (q.gr.count j ps.length)) (s' : SameSo q q') (St : SoAt w q' h) (f' : ∀ a ∈ q'.foot, a ∈ q.foot ∨ (@LT.lt Nat _ L a ∧ a ≠ h4.objs.size)) (k' : Kept q.foot s.heap h) (l' : q'.keys.length ≤ q.keys.length + 1 + i) (sl' : ∀ k, (q'.succ k).length ≤ 100 + i)
      (e1 : m (Str.ofString "self") = some (.ref q.S)) (e2 : m (Str.ofString "node") = some (.int j t)) : AdJ w s q j ps L h4 t i m h
theorem add_spec {w : World} {s : Shared} {mg mb : Str → Option Value} {h₀ : Heap} {q : So} {j : Int} {t : Tok} {vs : List Value} {ps : List Int} {R : Result → Shared → Prop}
    (G : Gnd w mg mb h₀) (hk : ∀ b o, h₀.get? b = some o → s.heap.get? b = some o) (St : SoAt w q s.heap) (hrv : q.rv = .none) (hoff : ∀ a ∈ q.foot, h₀.get? a = none) (hi : IntsAre vs ps) (hlen : q.keys.length + ps.length ≤ 90) (hsl : ∀ k, (q.succ k).length ≤ 100)
    (hR : ∀ h' tk q', q'.gr = q.gr.addN j ps → SameSo q q' → SoAt w q' h' → Kept q.foot s.heap h' → (∀ a ∈ q'.foot, a ∈ q.foot ∨ @LE.le Nat _ s.heap.objs.size a) → R (.ok (.ret .none)) { s with heap := h', toks := tk }) :
    codeAny (model prg w) (AS 470 470) (.call (.ref 115) ⟨.ref q.S :: .int j t :: vs, []⟩) R s := by
  have hvl := hi.length
  refine enterV (led := ledOf s.heap q.foot) G hk (fun p hp => ⟨(mem_ledOf hp).1, hoff _ (mem_ledOf hp).2⟩) (by k_is) (by k_is) (by decide) (bind_rest2 rfl rfl rfl rfl rfl rfl rfl rfl) (by lia) (fun v => locs rfl) ?_
  intro g h₁ L eL Gg kg ks hT F N
  have X' := Gg.X
  have T' := Gg.T
  have St1 := St.kept ks (List.forall_mem_nil _)
  have lsL : @LT.lt Nat _ s.heap.objs.size L := by rw [eL]; exact Nat.lt_succ_self _
  have hLo : ∀ a ∈ q.foot, a ≠ L ∧ g.get? a = none := fun a ha => ⟨Nat.ne_of_lt (Nat.lt_trans (St.lt ha) lsL), by
    obtain ⟨o, e⟩ := St.there ha
    exact (N _ (ledOf_addr ha e)).2.2⟩
  clear N
  dsimp only
  walk_at "q"
  refine wpAny_If ?_
  repeat walk_at "q"
  refine so_attr (v := .none) F X' St1 (by k_is) (by k_is) (by k_is) (fun _ _ _ => by rw [hrv]; rfl) rfl ?_
  repeat walk_at "q"
  refine (if_neg (by decide)).mpr ?_
  repeat walk_at "q"
  refine so_meth F X' St1 (by k_is) (by k_is) (by k_is) (fun _ _ _ => rfl) ?_
  repeat walk_at "q"
  refine wpAny_call (codeAny_AS rfl (Nat.le_of_ble_eq_true rfl) (Nat.le_of_ble_eq_true rfl) (gni_spec' Gg F.keep St1 (fun a ha => (hLo a ha).2) (by lia) ?_))
  intro h2 tk2 q2 e2 s2 m2 St2 K2 f2
  dsimp only at K2 f2 ⊢
  have lt1 : @LT.lt Nat _ L h₁.objs.size := F.ns.lt
  have F2 := Mine.Fr.behind F (M := [q.D]) (none1 (hLo _ q.fD).2) (not1 (Ne.symm (hLo _ q.fD).1)) K2
  have hLo2 : ∀ a ∈ q2.foot, a ≠ L ∧ g.get? a = none := fun a ha => by
    rcases f2 a ha with h | h
    · exact hLo a h
    · exact ⟨Nat.ne_of_gt (Nat.lt_of_lt_of_le lt1 h), Mine.Fr.high F2 (Nat.le_of_lt (Nat.lt_of_lt_of_le lt1 h))⟩
  repeat walk_at "q"
  rename_i h3 F3 K3
  have St3 := St2.kept K3 (off1 hLo2)
  refine info_np F3 X' St3 m2 ?_
  intro t3
  repeat walk_at "q"
  refine len_tuple (ht := ⟨_, F3.keep _ _ hT, rfl, _, rfl⟩) (by rw [List.size_toArray]; lia) ?_
  rw [List.size_toArray, hvl]
  repeat walk_at "q"
  refine info_setnp F3 X' St3 m2 hLo2 ?_
  intro h4 F4 K4 St4
  dsimp only at K4
  generalize eq3 : ({ q2 with np := fun x => if x = j then q2.np j + (ps.length : Int) else q2.np x } : So) = q3 at *
  have g3 : q3.gr = q.gr.count j ps.length := by
    rw [← eq3]
    unfold Gr.count
    rw [← e2]
    rfl
  have s3 : SameSo q q3 := by rw [← eq3]; exact ⟨s2.S, s2.dS, s2.D, s2.rv, s2.npo, s2.nfi⟩
  have f3 : q3.foot = q2.foot := by rw [← eq3]; rfl
  have l3 : q3.keys.length ≤ q.keys.length + 1 := by
    have : q3.keys = (q.gr.touch j).keys := by rw [← eq3]; exact congrArg Gr.keys e2
    rw [this]
    exact Gr.touch_len _ _
  have sl3 : ∀ k, (q3.succ k).length ≤ 100 := by
    intro k
    have : q3.succ = (q.gr.touch j).succ := by rw [← eq3]; exact congrArg Gr.succ e2
    rw [this]
    exact Gr.touch_sl hsl j k
  have kk : Kept q.foot s.heap h4 := by
    intro b o hb e
    have hbL : b ≠ L := Nat.ne_of_lt (Nat.lt_trans (Heap.lt_size e) lsL)
    have hbi : b ≠ q2.ia j := by
      intro c
      rcases f2 b (c ▸ So.fia m2) with h | h
      · exact hb h
      · exact absurd (Nat.lt_of_lt_of_le (Nat.lt_trans (Heap.lt_size e) (Nat.lt_trans lsL lt1)) h) (Nat.lt_irrefl _)
    exact K4 _ _ (not2 hbL hbi) (K3 _ _ (not1 hbL) (K2 _ _ (not1 (fun c => hb (c ▸ q.fD))) (ks _ _ List.not_mem_nil e)))
  have I4 : ∀ a ∈ q3.foot, @LT.lt Nat _ a h4.objs.size := fun a ha => St4.lt ha
  repeat walk_at "q"
  refine wpAny_For ?_
  repeat walk_at "q"
  refine iterTup (AdJ w s q j ps L h4 t) rfl rfl rfl (F4.keep _ _ hT) hi (Nat.ne_of_lt lsL) F4 ?start ?turn ?done PassesOwn.never
  case start =>
    intro h' K'
    refine ⟨q3, g3, s3, St4.kept K' (List.forall_mem_nil _), ?_, kk.trans (K'.mono (List.forall_mem_nil _)), by lia, sl3, rfl, rfl⟩
    intro a ha
    have l4 := I4 a ha
    rw [f3] at ha
    rcases f2 a ha with h | h
    · exact .inl h
    · exact .inr ⟨Nat.lt_of_lt_of_le lt1 h, Nat.ne_of_lt l4⟩
  case done =>
    rintro m' h5 h6 tk6 ⟨q', g', s', St', f', k', l', _, _, _⟩ K6 F6
    dsimp only
    rw [List.take_length] at g'
    refine wpAny_execs_nil (hR h6 tk6 q' g' s' (St'.kept K6 ?_) ?_ ?_)
    · intro a ha hf
      have := mem1 ha
      subst this
      rcases f' _ hf with h | h
      · exact absurd (Nat.lt_trans (Nat.lt_trans (St.lt h) lsL) F4.ns.lt) (Nat.lt_irrefl _)
      · exact h.2 rfl
    · intro b o hb e
      have lb : @LT.lt Nat _ b s.heap.objs.size := Heap.lt_size e
      have lL : @LT.lt Nat _ L h4.objs.size := F4.ns.lt
      have lI : @LT.lt Nat _ b h4.objs.size := Nat.lt_trans lb (Nat.lt_trans lsL lL)
      exact K6 _ _ (not1 (Nat.ne_of_lt lI)) (k' _ _ hb e)
    · intro a ha
      rcases f' a ha with h | h
      · exact .inl h
      · exact .inr (Nat.le_of_lt (Nat.lt_trans lsL h.1))
  case turn =>
    rintro i p tp m5 h5 h6 tk6 hp ⟨q', g', s', St', f', k', l', sl', e1, e2'⟩ K6 hT6 hI6 F6
    dsimp only at K6 hT6 hI6 F6 ⊢
    have hip : i < ps.length := (List.getElem?_eq_some_iff.mp hp).1
    have ltI : @LT.lt Nat _ L h4.objs.size := F4.ns.lt
    have fI : ∀ a ∈ q'.foot, a ≠ L ∧ a ≠ h4.objs.size ∧ a ≠ s.heap.objs.size ∧ g.get? a = none := by
      intro a ha
      rcases f' a ha with h | h
      · have lt : @LT.lt Nat _ a s.heap.objs.size := St.lt h
        exact ⟨Nat.ne_of_lt (Nat.lt_trans lt lsL), Nat.ne_of_lt (Nat.lt_trans lt (Nat.lt_trans lsL ltI)), Nat.ne_of_lt lt, (hLo a h).2⟩
      · exact ⟨Nat.ne_of_gt h.1, h.2, Nat.ne_of_gt (Nat.lt_trans lsL h.1), Mine.Fr.high F4 (Nat.le_of_lt h.1)⟩
    have St6 := St'.kept K6 (offs2 (fun a ha => (fI a ha).1) (fun a ha => (fI a ha).2.1))
    have k6 : Kept q.foot s.heap h6 := fun b o hb e => by
      have lt : @LT.lt Nat _ b s.heap.objs.size := Heap.lt_size e
      have lL : @LT.lt Nat _ b L := Nat.lt_trans lt lsL
      have lI : @LT.lt Nat _ b h4.objs.size := Nat.lt_trans lL ltI
      exact K6 _ _ (not2 (Nat.ne_of_lt lL) (Nat.ne_of_lt lI)) (k' _ _ hb e)
    have ltI6 : @LT.lt Nat _ h4.objs.size h6.objs.size := by obtain ⟨o, ho, _⟩ := hI6; exact Heap.lt_size ho
    have ltL6 : @LT.lt Nat _ L h6.objs.size := F6.ns.lt
    rw [← s'.S] at e1
    repeat walk_at "q"
    refine so_meth F6 X' St6 (by k_is) (by k_is) (by k_is) (fun _ _ _ => rfl) ?_
    repeat walk_at "q"
    refine wpAny_call (codeAny_AS rfl (Nat.le_of_ble_eq_true rfl) (Nat.le_of_ble_eq_true rfl) (gni_spec' Gg F6.keep St6 (fun a ha => (fI a ha).2.2.2) (by lia) ?_))
    intro h7 tk7 q7 e7 s7 m7 St7 K7 f7
    dsimp only at K7 f7 ⊢
    have F7 := Mine.Fr.behind F6 (M := [q'.D]) (none1 (fI _ q'.fD).2.2.2) (not1 (Ne.symm (fI _ q'.fD).1)) K7
    have fI7 : ∀ a ∈ q7.foot, a ≠ L ∧ a ≠ h4.objs.size ∧ a ≠ s.heap.objs.size ∧ g.get? a = none := by
      intro a ha
      rcases f7 a ha with h | h
      · exact fI a h
      · exact ⟨Nat.ne_of_gt (Nat.lt_of_lt_of_le ltL6 h), Nat.ne_of_gt (Nat.lt_of_lt_of_le ltI6 h), Nat.ne_of_gt (Nat.lt_of_lt_of_le (Nat.lt_trans lsL ltL6) h), Mine.Fr.high F4 (Nat.le_of_lt (Nat.lt_of_lt_of_le ltL6 h))⟩
    repeat walk_at "q"
    rename_i h8 F8 K8
    have St8 := St7.kept K8 (by intro a ha hf; exact (fI7 _ hf).1 (mem1 ha))
    refine info_succ F8 X' St8 m7 ?_
    obtain ⟨lv, ln, le, li⟩ := St8.lst p m7
    refine getMethod_builtin ⟨_, le, rfl⟩ PySem.F.plainAttrs_list PySem.F.slot_list_append PySem.F.type_list_append (fun a e => by cases e; exact ⟨_, le, rfl⟩) ?_
    repeat walk_at "q"
    have sl7 : ∀ k, (q7.succ k).length ≤ 100 + i := by
      intro k
      have : q7.succ = (q'.gr.touch p).succ := congrArg Gr.succ e7
      rw [this]
      exact Gr.touch_sl sl' p k
    have lsz : lv.length ≤ 1000000 := by
      have := sl7 p
      rw [← li.length] at this
      lia
    refine append_at le ?_ (by rw [List.size_toArray, sizeLine_eq]; lia)
    intro h9 B9 e9
    dsimp only at B9
    rw [List.push_toArray] at e9
    have F9 := Mine.Fr.behind F8 (M := [q7.il p]) (none1 (fI7 _ (So.fil m7)).2.2.2) (not1 (Ne.symm (fI7 _ (So.fil m7)).1)) (Kept.one B9)
    have St9 := St8.app m7 le li (fun b _ hb o e => (B9.2 b hb).trans e) e9
    repeat walk_at "q"
    refine ⟨h9, _, _, rfl, F9, ?_, { q7 with succ := fun x => if x = p then q7.succ p ++ [j] else q7.succ x }, ?_, s'.trans ⟨s7.S, s7.dS, s7.D, s7.rv, s7.npo, s7.nfi⟩, St9, ?_, ?_, ?_, ?_, ?_, ?_⟩
    · intro b hb o e
      have hbq : ∀ a ∈ q7.foot, b ≠ a := by
        intro a ha c
        simp only [List.mem_cons, List.not_mem_nil, or_false] at hb
        rcases hb with rfl | rfl
        · exact (fI7 a ha).2.1 c.symm
        · exact (fI7 a ha).2.2.1 c.symm
      have hbD : b ≠ q'.D := by rw [← s7.D]; exact hbq _ q7.fD
      have hbL : b ≠ L := by
        simp only [List.mem_cons, List.not_mem_nil, or_false] at hb
        rcases hb with rfl | rfl
        · exact Nat.ne_of_gt ltI
        · exact Nat.ne_of_lt lsL
      exact (B9.2 b (hbq _ (So.fil m7))).trans (K8 _ _ (not1 hbL) (K7 _ _ (not1 hbD) e))
    · have et : ps.take (i + 1) = ps.take i ++ [p] := by rw [List.take_add_one, hp]; rfl
      rw [et, List.foldl_append, ← g']
      show _ = Gr.link j q'.gr p
      unfold Gr.link
      rw [← e7]
      rfl
    · intro a ha
      rcases f7 a ha with h | h
      · exact f' a h
      · exact .inr ⟨Nat.lt_of_lt_of_le ltL6 h, Nat.ne_of_gt (Nat.lt_of_lt_of_le ltI6 h)⟩
    · intro b o hb e
      have lt : @LT.lt Nat _ b s.heap.objs.size := Heap.lt_size e
      have lL : @LT.lt Nat _ b L := Nat.lt_trans lt lsL
      have hbf : ∀ a ∈ q7.foot, b ≠ a := by
        rintro a ha rfl
        rcases f7 b ha with h | h
        · rcases f' b h with h | h
          · exact hb h
          · exact absurd (Nat.lt_trans lL h.1) (Nat.lt_irrefl _)
        · exact absurd (Nat.lt_of_lt_of_le (Nat.lt_trans lL ltL6) h) (Nat.lt_irrefl _)
      exact (B9.2 b (hbf _ (So.fil m7))).trans (K8 _ _ (not1 (Nat.ne_of_lt lL)) (K7 _ _ (not1 (by rw [← s7.D]; exact hbf _ q7.fD)) (k6 _ _ hb e)))
    · have : q7.keys = (q'.gr.touch p).keys := congrArg Gr.keys e7
      show q7.keys.length ≤ _
      rw [this]
      have := Gr.touch_len q'.gr p
      have e5 : q'.gr.keys = q'.keys := rfl
      rw [e5] at this
      lia
    · intro k
      show (if k = p then q7.succ p ++ [j] else q7.succ k).length ≤ _
      have h1 := sl7 p
      have h2 := sl7 k
      split
      · rw [List.length_append]; simp; lia
      · lia
    · show m5 _ = _
      rw [e1, s'.S]
    · exact e2'
theorem SoAt.setown {w : World} {q : So} {h h' : Heap} {rv : Value} {p f : Int} (St : SoAt w q h) (hs : ∀ b ∈ q.foot, b ≠ q.dS → ∀ o, h.get? b = some o → h'.get? b = some o)
    (e : ∃ hs ts us n, h'.get? q.dS = some (dictOf (soEs hs ts q.D rv p f us) n)) : SoAt w { q with rv := rv, npo := p, nfi := f } h' := by
  obtain ⟨o1, o2, o3, on, eo⟩ := St.own
  have nc : ∀ {b : Addr} {o : Obj}, h.get? b = some o → o.cls ≠ .type "dict" → b ≠ q.dS := fun e1 n => neCls e1 eo n
  refine ⟨hs _ q.fS (nc St.inst (by intro c; cases c)) _ St.inst, e, St.mods, ?_, ?_, ?_, ?_, St.inj, St.DdS, St.idD⟩
  · obtain ⟨o, es, ep, e1, r⟩ := St.dic
    exact ⟨o, es, ep, hs _ q.fD St.DdS _ e1, r⟩
  · intro k hk
    obtain ⟨a, b, e1⟩ := St.info k hk
    exact ⟨a, b, hs _ (So.fia hk) (nc e1 (by intro c; cases c)) _ e1⟩
  · intro k hk
    exact hs _ (So.fid hk) (neObj (St.idc k hk) eo (by
      intro c
      have := congrArg Obj.data c
      simp [soEs] at this)) _ (St.idc k hk)
  · intro k hk
    obtain ⟨a, b, e1, r⟩ := St.lst k hk
    exact ⟨a, b, hs _ (So.fil hk) (nc e1 (by intro c; exact absurd (Value.type.inj c) (by decide))) _ e1, r⟩

section
variable {w : World} {A : Around} {E : Value → Shared → Prop} {s : Shared} {L d : Addr} {g : Heap} {m : Str → Option Value} {q : So} {k : Int}
theorem so_setnpo {v : Int} {t : Tok} {Q : Unit → Shared → Prop} (F : Fr g L s.heap m) (X : (hd.heap_39 w.params).In g) (St : SoAt w q s.heap) (hL : ∀ a ∈ q.foot, a ≠ L ∧ g.get? a = none)
    (h : ∀ h', Fr g L h' m → Kept [L, q.dS] s.heap h' → SoAt w { q with npo := v } h' → Q () { s with heap := h', toks := s.toks + 2 }) :
    wpAny (model prg w) A (setAttr (.ref q.S) (Str.ofString "_npassedout") (.int v t)) Q E s := by
  obtain ⟨hs, ts, us, n, e⟩ := St.own
  have hk := hL _ q.fdS
  refine attr_set F X St.inst e hk.1 hk.2 (by k_is) (by k_is) (by k_is) (by k_is) rfl rfl (Nat.le_of_ble_eq_true rfl) ?_
  intro h' F' K' H'
  exact h h' F' K' (St.setown (fun b hb hne o e => K' _ _ (not2 (hL b hb).1 hne) e) ⟨hs, ts, (t, us.2), _, H'⟩)
theorem so_setnfi {v : Int} {t : Tok} {Q : Unit → Shared → Prop} (F : Fr g L s.heap m) (X : (hd.heap_39 w.params).In g) (St : SoAt w q s.heap) (hL : ∀ a ∈ q.foot, a ≠ L ∧ g.get? a = none)
    (h : ∀ h', Fr g L h' m → Kept [L, q.dS] s.heap h' → SoAt w { q with nfi := v } h' → Q () { s with heap := h', toks := s.toks + 2 }) :
    wpAny (model prg w) A (setAttr (.ref q.S) (Str.ofString "_nfinished") (.int v t)) Q E s := by
  obtain ⟨hs, ts, us, n, e⟩ := St.own
  have hk := hL _ q.fdS
  refine attr_set F X St.inst e hk.1 hk.2 (by k_is) (by k_is) (by k_is) (by k_is) rfl rfl (Nat.le_of_ble_eq_true rfl) ?_
  intro h' F' K' H'
  exact h h' F' K' (St.setown (fun b hb hne o e => K' _ _ (not2 (hL b hb).1 hne) e) ⟨hs, ts, (us.1, t), _, H'⟩)

theorem so_npo {expr : Bool} {Q : Value → Shared → Prop} (F : Fr g L s.heap m) (X : (hd.heap_39 w.params).In g) (St : SoAt w q s.heap) (h : ∀ t, Q (.int q.npo t) { s with toks := s.toks + 1 }) :
    wpAny (model prg w) A (getAttr (.ref q.S) (Str.ofString "_npassedout") expr) Q E s := by
  obtain ⟨hs, ts, us, n, e⟩ := St.own
  exact attr_get F X ⟨St.inst, rfl, rfl, e⟩ (by k_is) (by k_is) (by k_is) rfl rfl (h us.1)
theorem so_nfi {expr : Bool} {Q : Value → Shared → Prop} (F : Fr g L s.heap m) (X : (hd.heap_39 w.params).In g) (St : SoAt w q s.heap) (h : ∀ t, Q (.int q.nfi t) { s with toks := s.toks + 1 }) :
    wpAny (model prg w) A (getAttr (.ref q.S) (Str.ofString "_nfinished") expr) Q E s := by
  obtain ⟨hs, ts, us, n, e⟩ := St.own
  exact attr_get F X ⟨St.inst, rfl, rfl, e⟩ (by k_is) (by k_is) (by k_is) rfl rfl (h us.2)

/-- `n2i[k]` -/
theorem so_item {value slice : Expr} {t : Tok} {Q : Value → Shared → Prop} (St : SoAt w q s.heap) (hk : k ∈ q.keys) (h : Q (.ref (q.ia k)) { s with toks := s.toks + 1 })
    (hs : subscripted slice false (.ref q.D) (.int k t) = operate [.ref q.D, .int k t] (getItem (.ref q.D) (.int k t)) := by with_unfolding_all rfl) :
    wpAny (model prg w) A (subscriptTail value slice (.ref q.D) (.int k t)) Q E s :=
  tail_any St.dic.typeIs slot_dict_getitem.lookup (wpAny_getItem_of (intKind_is _ _ k t) St.dic.mapOf (So.at_in hk) h) hs

theorem list_clearR {l : Addr} {vs : List Value} {n : Nat} {Q : Value → Shared → Prop} (hl : s.heap.get? l = some (listOf vs.toArray n)) (hz : vs.length ≤ 1000000)
    (h : ∀ h' n', Kept [l] s.heap h' → h'.get? l = some (listOf #[] n') → Q .none { s with heap := h' }) : wpAny (model prg w) A (call (.builtin "list.clear") [.ref l]) Q E s := by
  refine call_meets PySem.F.slot_list_clear ⟨_, hl, rfl⟩ PySem.F.entry_list_clear (PySem.F.args_list_clear_1 _) (PySem.AutoSeq1.list_clear_list_0 l vs.toArray n (by rw [List.size_toArray, sizeLine_eq]; lia)) ⟨hl, ?_⟩
  have e := Heap.get?_update_self (Obj.mapSeq fun _ => #[]) hl rfl
  exact h _ _ (Kept.one (Heap.SameBut.update ..)) e
end
def So.wnp (q : So) (f : Int → Int) : So := { q with np := f }
theorem info_setnpW {w : World} {A : Around} {E : Value → Shared → Prop} {s : Shared} {L : Addr} {g : Heap} {m : Str → Option Value} {q : So} {k : Int} {v : Int} {t : Tok} {Q : Unit → Shared → Prop} (F : Fr g L s.heap m) (X : (hd.heap_39 w.params).In g) (St : SoAt w q s.heap) (hk : k ∈ q.keys) (hL : ∀ a ∈ q.foot, a ≠ L ∧ g.get? a = none)
    (h : ∀ h', Fr g L h' m → Kept [L, q.ia k] s.heap h' → SoAt w (q.wnp (fun x => if x = k then v else q.np x)) h' → Q () { s with heap := h', toks := s.toks + 1 }) :
    wpAny (model prg w) A (setAttr (.ref (q.ia k)) (Str.ofString "npredecessors") (.int v t)) Q E s := info_setnp F X St hk hL h
def grN (q : So) (rs : List Int) (i : Nat) (k : Int) : Int := if k ∈ rs.take i then -1 else q.np k
inductive GrJ (w : World) (s : Shared) (q : So) (R T : Addr) (vs : List Value) (n : Nat) (rs : List Int) (i : Nat) (m : Str → Option Value) (h : Heap) : Prop
  | mk (St : SoAt w (q.wnp (grN q rs i)) h) (hT : h.get? T = some (tupOf vs)) (hR : h.get? R = some (listOf vs.toArray n)) (B : Kept q.foot s.heap h)
      (e1 : m (Str.ofString "self") = some (.ref q.S)) (e2 : m (Str.ofString "n2i") = some (.ref q.D)) (e3 : m (Str.ofString "result") = some (.ref T)) : GrJ w s q R T vs n rs i m h
theorem gr_spec {w : World} {s : Shared} {mg mb : Str → Option Value} {h₀ : Heap} {q : So} {R : Addr} {vs : List Value} {rs : List Int} {n : Nat} {RR : Result → Shared → Prop}
    (G : Gnd w mg mb h₀) (hk : ∀ b o, h₀.get? b = some o → s.heap.get? b = some o) (St : SoAt w q s.heap) (hrv : q.rv = .ref R) (hRl : s.heap.get? R = some (listOf vs.toArray n)) (hi : IntsAre vs rs) (hRf : R ∉ q.foot)
    (hoff : ∀ a ∈ R :: q.foot, h₀.get? a = none) (hin : ∀ k ∈ rs, k ∈ q.keys) (hlen : rs.length ≤ 100)
    (hR : ∀ h' tk T n', SoAt w { q with npo := q.npo + rs.length, np := fun k => if k ∈ rs then -1 else q.np k } h' → Kept (R :: q.foot) s.heap h' → @LE.le Nat _ s.heap.objs.size T → h'.get? T = some (tupOf vs) → h'.get? R = some (listOf #[] n') → RR (.ok (.ret (.ref T))) { s with heap := h', toks := tk }) :
    codeAny (model prg w) (AS 470 470) (.call (.ref 127) ⟨[.ref q.S], []⟩) RR s := by
  have hvl := hi.length
  refine enter (led := ledOf s.heap (R :: q.foot)) G hk (fun p hp => ⟨(mem_ledOf hp).1, hoff _ (mem_ledOf hp).2⟩) (by k_is) (by k_is) (by decide) (BindsTo.of_eq rfl) (locs rfl) ?_
  intro g h₁ Gg kg ks F N
  have X' := Gg.X
  have T' := Gg.T
  have St1 := St.kept ks (List.forall_mem_nil _)
  have hLo : ∀ a ∈ q.foot, a ≠ s.heap.objs.size ∧ g.get? a = none := fun a ha => ⟨Nat.ne_of_lt (St.lt ha), by
    obtain ⟨o, e⟩ := St.there ha
    exact (N _ (ledOf_addr (.tail _ ha) e)).2.2⟩
  have hRg : g.get? R = none := (N _ (ledOf_addr (.head _) hRl)).2.2
  have hRL : R ≠ s.heap.objs.size := Nat.ne_of_lt (Heap.lt_size hRl)
  clear N
  dsimp only
  walk_at "q"
  refine wpAny_If ?_
  repeat walk_at "q"
  refine so_attr (v := .ref R) F X' St1 (by k_is) (by k_is) (by k_is) (fun _ _ _ => by rw [hrv]; rfl) rfl ?_
  repeat walk_at "q"
  refine (if_neg (by simp)).mpr ?_
  repeat walk_at "q"
  refine so_attr (v := .ref R) F X' St1 (by k_is) (by k_is) (by k_is) (fun _ _ _ => by rw [hrv]; rfl) rfl ?_
  repeat walk_at "q"
  refine call_tuple_list ⟨_, ks _ _ List.not_mem_nil hRl, rfl, _, rfl⟩ ?_ (by rw [List.size_toArray, sizeLine_eq]; lia)
  intro h2' k2'
  have F2 : Fr g s.heap.objs.size (h2'.push (tupOf vs)) _ := (Mine.Fr.behind F (M := []) (List.forall_mem_nil _) List.not_mem_nil (fun b o _ e => k2' b o e)).push _
  have K2 : Kept [] h₁ (h2'.push (tupOf vs)) := fun b o _ e => Heap.get?_push_of_some _ (k2' b o e)
  have T2 : (h2'.push (tupOf vs)).get? h2'.objs.size = some (tupOf vs) := Heap.get?_push_size _ rfl
  have lT : @LT.lt Nat _ s.heap.objs.size h2'.objs.size := (Mine.Fr.behind F (M := []) (List.forall_mem_nil _) List.not_mem_nil (fun b o _ e => k2' b o e)).ns.lt
  have lTf : ∀ a ∈ R :: q.foot, @LT.lt Nat _ a h2'.objs.size := by
    intro a ha
    rcases List.mem_cons.mp ha with c | ha
    · rw [c]; exact Nat.lt_trans (Heap.lt_size hRl) lT
    · exact Nat.lt_trans (St.lt ha) lT
  generalize h2'.objs.size = T at *
  generalize h2'.push (tupOf vs) = h2 at *
  have St2 := St1.kept K2 (List.forall_mem_nil _)
  have R2 := K2 _ _ List.not_mem_nil (ks _ _ List.not_mem_nil hRl)
  have B2 : Kept [] s.heap h2 := ks.trans K2
  clear F K2 St1 k2'
  repeat walk_at "q"
  rename_i h3 F3 K3
  have St3 := St2.kept K3 (off1 hLo)
  refine so_attr (v := .ref q.D) F3 X' St3 (by k_is) (by k_is) (by k_is) (fun _ _ _ => rfl) rfl ?_
  repeat walk_at "q"
  rename_i h4 F4 K4
  have St4 := St3.kept K4 (off1 hLo)
  have T4 := K4 _ _ (not1 (neN (by lia))) (K3 _ _ (not1 (neN (by lia))) T2)
  have R4 := K4 _ _ (not1 hRL) (K3 _ _ (not1 hRL) R2)
  have B4 : Kept [] s.heap h4 := fun b o hb e => K4 _ _ (not1 (Nat.ne_of_lt (Heap.lt_size e))) (K3 _ _ (not1 (Nat.ne_of_lt (Heap.lt_size e))) (B2 _ _ hb e))
  refine wpAny_For ?_
  repeat walk_at "q"
  refine iterTup (GrJ w s q R T vs n rs) rfl rfl rfl T4 hi (neN (by show T ≠ s.heap.objs.size; lia)) F4 ?start ?turn ?done PassesOwn.never
  case start =>
    intro h' K'
    refine ⟨?_, K' _ _ List.not_mem_nil T4, K' _ _ List.not_mem_nil R4, fun b o hb e => K' _ _ List.not_mem_nil (B4 _ _ List.not_mem_nil e), rfl, rfl, rfl⟩
    have e : q.wnp (grN q rs 0) = q := by unfold So.wnp grN; simp
    rw [e]
    exact St4.kept K' (List.forall_mem_nil _)
  case turn =>
    rintro i k tk m5 h5 h6 tk6 hp ⟨St5, T5, R5, B5, e1, e2, e3⟩ K6 hT6 ⟨oI, hI6, cI⟩ F6
    dsimp only at K6 hT6 hI6 F6 ⊢
    have hI : ∀ a ∈ R :: q.foot, a ≠ h4.objs.size := by
      intro a ha
      have := lTf a ha
      have l4 : @LT.lt Nat _ T h4.objs.size := Heap.lt_size T4
      exact neN (by lia)
    have St6 := St5.kept K6 (offs2 (fun a ha => (hLo a ha).1) (fun a ha => hI a (.tail _ ha)))
    have hkk : k ∈ q.keys := hin k (List.mem_of_getElem? hp)
    have R6 := K6 _ _ (not2 hRL (hI _ (.head _))) R5
    have l4 : @LT.lt Nat _ s.heap.objs.size h4.objs.size := F4.ns.lt
    have lT4 : @LT.lt Nat _ T h4.objs.size := Heap.lt_size T4
    have B6 : Kept q.foot s.heap h6 := fun b o hb e => by
      have lt : @LT.lt Nat _ b s.heap.objs.size := Heap.lt_size e
      have lI : @LT.lt Nat _ b h4.objs.size := by lia
      exact K6 _ _ (not2 (Nat.ne_of_lt lt) (Nat.ne_of_lt lI)) (B5 _ _ hb e)
    repeat walk_at "q"
    refine so_item (q := q.wnp (grN q rs i)) St6 hkk ?_ (by with_unfolding_all rfl)
    refine info_setnpW (q := q.wnp (grN q rs i)) F6 X' St6 hkk hLo ?_
    intro h7 F7 K7 St7
    dsimp only at K7
    repeat walk_at "q"
    have hia : q.ia k ∈ q.foot := So.fia hkk
    refine ⟨h7, _, _, rfl, F7, ?_, ?_, K7 _ _ (not2 (Nat.ne_of_gt lT) (by have := lTf _ (.tail _ hia); exact Nat.ne_of_gt this)) hT6, K7 _ _ (not2 hRL (fun c => hRf (c ▸ hia))) R6, ?_, e1, e2, e3⟩
    · intro b hb o e
      simp only [List.mem_cons, List.not_mem_nil, or_false] at hb
      rcases hb with rfl | rfl
      · exact K7 _ _ (not2 (Nat.ne_of_gt l4) (Ne.symm (hI _ (.tail _ hia)))) e
      · exact K7 _ _ (not2 (Nat.ne_of_gt lT) (by have := lTf _ (.tail _ hia); exact Nat.ne_of_gt this)) e
    · have et : rs.take (i + 1) = rs.take i ++ [k] := by rw [List.take_add_one, hp]; rfl
      have ef : grN q rs (i + 1) = fun x => if x = k then -1 else grN q rs i x := by
        funext x
        unfold grN
        rw [et]
        by_cases h1 : x = k
        · simp [h1]
        · by_cases h2 : x ∈ rs.take i <;> simp [h1, h2]
      rw [ef]
      exact St7
    · intro b o hb e
      have lt : @LT.lt Nat _ b s.heap.objs.size := Heap.lt_size e
      exact K7 _ _ (not2 (Nat.ne_of_lt lt) (fun c => hb (c ▸ hia))) (B6 _ _ hb e)
  case done =>
    rintro m5 h5 h6 tk6 ⟨St5, T5, R5, B5, e1, e2, e3⟩ K6 F6
    dsimp only
    have e5 : grN q rs rs.length = fun k => if k ∈ rs then -1 else q.np k := by funext k; unfold grN; rw [List.take_length]
    rw [e5] at St5
    have hI : ∀ a ∈ R :: q.foot, a ≠ h4.objs.size := by
      intro a ha
      have := lTf a ha
      have l4 : @LT.lt Nat _ T h4.objs.size := Heap.lt_size T4
      exact neN (by lia)
    have l4 : @LT.lt Nat _ s.heap.objs.size h4.objs.size := F4.ns.lt
    have lT4 : @LT.lt Nat _ T h4.objs.size := Heap.lt_size T4
    have St6 := St5.kept K6 (by intro a ha hf; exact hI _ (.tail _ hf) (mem1 ha))
    have T6 := K6 _ _ (not1 (Nat.ne_of_lt lT4)) T5
    have R6 := K6 _ _ (not1 (hI _ (.head _))) R5
    have B6 : Kept q.foot s.heap h6 := fun b o hb e => by
      have lt : @LT.lt Nat _ b s.heap.objs.size := Heap.lt_size e
      have lI : @LT.lt Nat _ b h4.objs.size := by lia
      exact K6 _ _ (not1 (Nat.ne_of_lt lI)) (B5 _ _ hb e)
    repeat walk_at "q"
    generalize eq6 : q.wnp (fun k => if k ∈ rs then -1 else q.np k) = q6 at *
    have f6 : q6.foot = q.foot := by rw [← eq6]; rfl
    have s6 : SameSo q q6 := by rw [← eq6]; exact ⟨rfl, rfl, rfl, rfl, rfl, rfl⟩
    have hLo6 : ∀ a ∈ q6.foot, a ≠ s.heap.objs.size ∧ g.get? a = none := fun a ha => hLo a (f6 ▸ ha)
    rw [← s6.S] at e1 ⊢
    refine so_attr (v := .ref R) F6 X' St6 (by k_is) (by k_is) (by k_is) (fun _ _ _ => by rw [s6.rv, hrv]; rfl) rfl ?_
    refine getMethod_builtin ⟨_, R6, rfl⟩ PySem.F.plainAttrs_list PySem.F.slot_list_clear PySem.F.type_list_clear (fun a e => by cases e; exact ⟨_, R6, rfl⟩) ?_
    repeat walk_at "q"
    refine callWith_method0 ?_
    refine list_clearR R6 (by lia) ?_
    intro h7 n7 K7 R7
    dsimp only at K7
    have F7 := Mine.Fr.behind F6 (M := [R]) (none1 hRg) (not1 (Ne.symm hRL)) K7
    have St7 := St6.kept K7 (by intro a ha hf; rw [mem1 ha, f6] at hf; exact hRf hf)
    have T7 := K7 _ _ (not1 (by have := lTf _ (.head _); exact Nat.ne_of_gt this)) T6
    repeat walk_at "q"
    refine so_npo F7 X' St7 ?_
    intro t7
    repeat walk_at "q"
    refine len_tuple (ht := ⟨_, T7, rfl, _, rfl⟩) (by rw [List.size_toArray]; lia) ?_
    rw [show vs.toArray.size = rs.length from (List.size_toArray ..).trans hvl]
    repeat walk_at "q"
    refine so_setnpo F7 X' St7 hLo6 ?_
    intro h8 F8 K8 St8
    dsimp only at K8
    have hdS : q6.dS ∈ q.foot := f6 ▸ q6.fdS
    repeat walk_at "q"
    refine hR h8 _ T n7 ?_ ?_ (Nat.le_of_lt lT) (K8 _ _ (not2 (Nat.ne_of_gt lT) (by have := lTf _ (.tail _ hdS); exact Nat.ne_of_gt this)) T7) (K8 _ _ (not2 hRL (fun c => hRf (c ▸ hdS))) R7)
    · have e8 : ({ q with npo := q.npo + rs.length, np := fun k => if k ∈ rs then -1 else q.np k } : So) = { q6 with npo := q6.npo + rs.length } := by rw [← eq6]; rfl
      rw [e8]
      exact St8
    · intro b o hb e
      simp only [List.mem_cons, not_or] at hb
      have lt : @LT.lt Nat _ b s.heap.objs.size := Heap.lt_size e
      exact K8 _ _ (not2 (Nat.ne_of_lt lt) (fun c => hb.2 (c ▸ hdS))) (K7 _ _ (not1 hb.1) (B6 _ _ hb.2 e))
/-- one successor's count down -/
def dec (st : (Int → Int) × List Int) (x : Int) : (Int → Int) × List Int :=
  (fun y => if y = x then st.1 x - 1 else st.1 y, if st.1 x - 1 = 0 then st.2 ++ [x] else st.2)
/-- one node done -/
def done1 (succ : Int → List Int) (st : (Int → Int) × List Int) (k : Int) : (Int → Int) × List Int := (succ k).foldl dec (fun y => if y = k then -2 else st.1 y, st.2)

theorem dec_len (st : (Int → Int) × List Int) (x : Int) : (dec st x).2.length ≤ st.2.length + 1 := by
  unfold dec
  dsimp only
  split <;> simp
theorem decs_len : ∀ (l : List Int) (st : (Int → Int) × List Int), (l.foldl dec st).2.length ≤ st.2.length + l.length
  | [], st => by simp
  | x :: l, st => by
    have h1 := decs_len l (dec st x)
    have h2 := dec_len st x
    simp only [List.foldl_cons, List.length_cons]
    lia
theorem dones_len {succ : Int → List Int} {B : Nat} (hB : ∀ k, (succ k).length ≤ B) : ∀ (l : List Int) (st : (Int → Int) × List Int), (l.foldl (done1 succ) st).2.length ≤ st.2.length + l.length * B
  | [], st => by simp
  | x :: l, st => by
    have h1 := dones_len hB l (done1 succ st x)
    have h2 : (done1 succ st x).2.length ≤ st.2.length + (succ x).length := decs_len _ _
    have h3 := hB x
    simp only [List.foldl_cons, List.length_cons, Nat.add_mul, Nat.one_mul]
    lia
theorem take_snoc {ns : List Int} {i : Nat} {k : Int} (h : ns[i]? = some k) : ns.take (i + 1) = ns.take i ++ [k] := by rw [List.take_add_one, h]; rfl

def dnS (q : So) (rs rd : List Int) (i : Nat) : (Int → Int) × List Int := (rs.take i).foldl (done1 q.succ) (q.np, rd)
def dnq (q : So) (rs rd : List Int) (i : Nat) : So := { q with np := (dnS q rs rd i).1, nfi := q.nfi + (i : Nat) }
/-- the words of the two loops of `done` -/
inductive DnJ (w : World) (s : Shared) (q : So) (R : Addr) (rs rd : List Int) (i : Nat) (m : Str → Option Value) (h : Heap) : Prop
  | mk (ws' : List Value) (n' : Nat) (St : SoAt w (dnq q rs rd i) h) (hR : h.get? R = some (listOf ws'.toArray n')) (I : IntsAre ws' (dnS q rs rd i).2) (B : Kept (R :: q.foot) s.heap h)
      (e1 : m (Str.ofString "self") = some (.ref q.S)) (e2 : m (Str.ofString "n2i") = some (.ref q.D)) : DnJ w s q R rs rd i m h
def dxS (qa : So) (su rd : List Int) (i : Nat) : (Int → Int) × List Int := (su.take i).foldl dec (qa.np, rd)
inductive DnI (w : World) (s : Shared) (q qa : So) (R : Addr) (su rd : List Int) (h2 h6 : Heap) (i : Nat) (m : Str → Option Value) (h : Heap) : Prop
  | mk (ws' : List Value) (n' : Nat) (St : SoAt w (qa.wnp (dxS qa su rd i).1) h) (hR : h.get? R = some (listOf ws'.toArray n')) (I : IntsAre ws' (dxS qa su rd i).2) (B : Kept (R :: q.foot) s.heap h)
      (P : ∀ b ∈ [h2.objs.size, s.heap.objs.size], ∀ o, h6.get? b = some o → h.get? b = some o) (e1 : m (Str.ofString "self") = some (.ref q.S)) (e2 : m (Str.ofString "n2i") = some (.ref q.D)) : DnI w s q qa R su rd h2 h6 i m h

theorem done_spec {w : World} {s : Shared} {mg mb : Str → Option Value} {h₀ : Heap} {q : So} {R : Addr} {vs ws : List Value} {rs rd : List Int} {n : Nat} {RR : Result → Shared → Prop}
    (G : Gnd w mg mb h₀) (hk : ∀ b o, h₀.get? b = some o → s.heap.get? b = some o) (St : SoAt w q s.heap) (hrv : q.rv = .ref R) (hRl : s.heap.get? R = some (listOf ws.toArray n)) (hw : IntsAre ws rd) (hRf : R ∉ q.foot)
    (hoff : ∀ a ∈ R :: q.foot, h₀.get? a = none) (hi : IntsAre vs rs) (hin : ∀ k ∈ rs, k ∈ q.keys) (hsu : ∀ k ∈ q.keys, ∀ x ∈ q.succ k, x ∈ q.keys) (hlen : rs.length ≤ 90) (hrd : rd.length ≤ 1000) (hsl : ∀ k, (q.succ k).length ≤ 100)
    (hst : ∀ i k, rs[i]? = some k → ((rs.take i).foldl (done1 q.succ) (q.np, rd)).1 k = -1)
    (hR : ∀ h' tk ws' n', SoAt w { q with np := (rs.foldl (done1 q.succ) (q.np, rd)).1, nfi := q.nfi + rs.length } h' → Kept (R :: q.foot) s.heap h' → h'.get? R = some (listOf ws'.toArray n') → IntsAre ws' (rs.foldl (done1 q.succ) (q.np, rd)).2 → RR (.ok (.ret .none)) { s with heap := h', toks := tk }) :
    codeAny (model prg w) (AS 470 470) (.call (.ref 148) ⟨.ref q.S :: vs, []⟩) RR s := by
  have hvl := hi.length
  refine enterV (led := ledOf s.heap (R :: q.foot)) G hk (fun p hp => ⟨(mem_ledOf hp).1, hoff _ (mem_ledOf hp).2⟩) (by k_is) (by k_is) (by decide) (bind_rest1 rfl rfl rfl rfl rfl rfl rfl) (by lia) (fun v => locs rfl) ?_
  intro g h₁ L eL Gg kg ks hT F N
  have X' := Gg.X
  have T' := Gg.T
  have St1 := St.kept ks (List.forall_mem_nil _)
  have lf : ∀ a ∈ R :: q.foot, @LT.lt Nat _ a s.heap.objs.size := by
    intro a ha
    rcases List.mem_cons.mp ha with c | ha
    · rw [c]; exact Heap.lt_size hRl
    · exact St.lt ha
  have lsL : @LT.lt Nat _ s.heap.objs.size L := by rw [eL]; exact Nat.lt_succ_self _
  have hLo : ∀ a ∈ q.foot, a ≠ L ∧ g.get? a = none := fun a ha => ⟨Nat.ne_of_lt (Nat.lt_trans (lf a (.tail _ ha)) lsL), by
    obtain ⟨o, e⟩ := St.there ha
    exact (N _ (ledOf_addr (.tail _ ha) e)).2.2⟩
  have hRg : g.get? R = none := (N _ (ledOf_addr (.head _) hRl)).2.2
  have hRL : R ≠ L := Nat.ne_of_lt (Nat.lt_trans (lf R (.head _)) lsL)
  clear N
  dsimp only
  walk_at "q"
  refine wpAny_If ?_
  repeat walk_at "q"
  refine so_attr (v := .ref R) F X' St1 (by k_is) (by k_is) (by k_is) (fun _ _ _ => by rw [hrv]; rfl) rfl ?_
  repeat walk_at "q"
  refine (if_neg (by simp)).mpr ?_
  repeat walk_at "q"
  refine so_attr (v := .ref q.D) F X' St1 (by k_is) (by k_is) (by k_is) (fun _ _ _ => rfl) rfl ?_
  repeat walk_at "q"
  rename_i h2 F2 K2
  have St2 := St1.kept K2 (off1 hLo)
  have R2 := K2 _ _ (not1 hRL) (ks _ _ List.not_mem_nil hRl)
  have B2 : Kept [] s.heap h2 := fun b o hb e => K2 _ _ (not1 (Nat.ne_of_lt (Nat.lt_trans (Heap.lt_size e) lsL))) (ks _ _ hb e)
  have l2 : @LT.lt Nat _ L h2.objs.size := F2.ns.lt
  have ls2 : @LT.lt Nat _ s.heap.objs.size h2.objs.size := Nat.lt_trans lsL l2
  refine wpAny_For ?_
  repeat walk_at "q"
  refine iterTup (DnJ w s q R rs rd) rfl rfl rfl (F2.keep _ _ hT) hi (Nat.ne_of_lt lsL) F2 ?start ?turn ?done PassesOwn.never
  case start =>
    intro h' K'
    refine ⟨ws, n, ?_, K' _ _ List.not_mem_nil R2, hw, fun b o hb e => K' _ _ List.not_mem_nil (B2 _ _ List.not_mem_nil e), rfl, rfl⟩
    have e : dnq q rs rd 0 = q := by unfold dnq dnS; simp
    rw [e]
    exact St2.kept K' (List.forall_mem_nil _)
  case done =>
    rintro m5 h5 h6 tk6 ⟨ws', n', St5, R5, I5, B5, e1, e2⟩ K6 F6
    dsimp only
    unfold dnq dnS at St5
    unfold dnS at I5
    rw [List.take_length] at St5 I5
    have hI : ∀ a ∈ R :: q.foot, a ≠ h2.objs.size := fun a ha => Nat.ne_of_lt (Nat.lt_trans (lf a ha) ls2)
    have B6 : Kept (R :: q.foot) s.heap h6 := fun b o hb e => by
      have lt : @LT.lt Nat _ b s.heap.objs.size := Heap.lt_size e
      have lI : @LT.lt Nat _ b h2.objs.size := Nat.lt_trans lt ls2
      exact K6 _ _ (not1 (Nat.ne_of_lt lI)) (B5 _ _ hb e)
    refine wpAny_execs_nil (hR h6 tk6 ws' n' (St5.kept K6 (by intro a ha hf; exact hI _ (.tail _ hf) (mem1 ha))) B6 (K6 _ _ (not1 (hI _ (.head _))) R5) I5)
  case turn =>
    rintro i k tk m5 h5 h6 tk6 hp ⟨ws5, n5, St5, R5, I5, B5, e1, e2⟩ K6 hT6 ⟨oI, hI6, cI⟩ F6
    dsimp only at K6 hT6 hI6 F6 ⊢
    have hI : ∀ a ∈ R :: q.foot, a ≠ h2.objs.size := fun a ha => Nat.ne_of_lt (Nat.lt_trans (lf a ha) ls2)
    have hkk : k ∈ q.keys := hin k (List.mem_of_getElem? hp)
    have hik : i < rs.length := (List.getElem?_eq_some_iff.mp hp).1
    have B6 : Kept (R :: q.foot) s.heap h6 := fun b o hb e => by
      have lt : @LT.lt Nat _ b s.heap.objs.size := Heap.lt_size e
      have lI : @LT.lt Nat _ b h2.objs.size := Nat.lt_trans lt ls2
      have lL : @LT.lt Nat _ b L := Nat.lt_trans lt lsL
      exact K6 _ _ (not2 (Nat.ne_of_lt lL) (Nat.ne_of_lt lI)) (B5 _ _ hb e)
    have St6 := St5.kept K6 (offs2 (fun a ha => (hLo a ha).1) (fun a ha => hI a (.tail _ ha)))
    have R6 := K6 _ _ (not2 hRL (hI _ (.head _))) R5
    have hsk : (dnS q rs rd i).1 k = -1 := hst i k hp
    have hn5 : (dnS q rs rd i).2.length ≤ rd.length + (rs.take i).length * 100 := dones_len hsl (rs.take i) (q.np, rd)
    generalize est : dnS q rs rd i = st at *
    generalize eq6 : dnq q rs rd i = q6 at *
    have f6 : q6.foot = q.foot := by rw [← eq6]; rfl
    have hLo6 : ∀ a ∈ q6.foot, a ≠ L ∧ g.get? a = none := fun a ha => hLo a (f6 ▸ ha)
    have hk6 : k ∈ q6.keys := by rw [← eq6]; exact hkk
    have np6 : q6.np k = -1 := by rw [← eq6]; show (dnS q rs rd i).1 k = -1; rw [est]; exact hsk
    have S6 : q6.S = q.S := by rw [← eq6]; rfl
    have D6 : q6.D = q.D := by rw [← eq6]; rfl
    rw [← S6] at e1
    rw [← D6] at e2
    walk_at "q"
    refine wpAny_If ?_
    repeat walk_at "q"
    refine dict_getm St6.dic ?_
    repeat walk_at "q"
    refine dict_get St6.dic St6.mods ?_
    rw [So.at_in hk6]
    repeat walk_at "q"
    rename_i h7 F7 K7
    have St7 := St6.kept K7 (off1 hLo6)
    refine (if_neg (by simp)).mpr ?_
    repeat walk_at "q"
    refine info_np F7 X' St7 hk6 ?_
    intro t7
    rw [np6]
    repeat walk_at "q"
    rename_i h8 F8 K8
    have St8 := St7.kept K8 (off1 hLo6)
    refine wpAny_If ?_
    repeat walk_at "q"
    refine (if_neg (by simp)).mpr ?_
    repeat walk_at "q"
    refine info_setnpW F8 X' St8 hk6 hLo6 ?_
    intro h9 F9 K9 St9
    dsimp only at K9
    have hia : q6.ia k ∈ q.foot := f6 ▸ So.fia hk6
    have lI9 : ∀ a ∈ R :: q.foot, @LT.lt Nat _ a s.heap.objs.size := lf
    have K69 : ∀ b o, b ≠ L → b ≠ q6.ia k → h6.get? b = some o → h9.get? b = some o := fun b o h1 h2 e => K9 _ _ (not2 h1 h2) (K8 _ _ (not1 h1) (K7 _ _ (not1 h1) e))
    have R9 := K69 _ _ hRL (fun c => hRf (c ▸ hia)) R6
    have hvk : (st.2).length ≤ 1000 + 90 * 100 := by
      have : (rs.take i).length * 100 ≤ 90 * 100 := Nat.mul_le_mul_right _ (by rw [List.length_take]; lia)
      lia
    have P9 : ∀ b ∈ [h2.objs.size, s.heap.objs.size], ∀ o, h6.get? b = some o → h9.get? b = some o := by
      intro b hb o e
      simp only [List.mem_cons, List.not_mem_nil, or_false] at hb
      have := lf _ (.tail _ hia)
      rcases hb with rfl | rfl
      · exact K69 _ _ (Nat.ne_of_gt l2) (Ne.symm (hI _ (.tail _ hia))) e
      · exact K69 _ _ (Nat.ne_of_lt lsL) (Nat.ne_of_gt this) e
    have B9 : Kept (R :: q.foot) s.heap h9 := fun b o hb e => by
      have lt : @LT.lt Nat _ b s.heap.objs.size := Heap.lt_size e
      exact K69 _ _ (Nat.ne_of_lt (Nat.lt_trans lt lsL)) (fun c => hb (c ▸ .tail _ hia)) (B6 _ _ hb e)
    generalize eqa : q6.wnp (fun x => if x = k then -2 else q6.np x) = qa at *
    have fa : qa.foot = q.foot := by rw [← eqa]; exact f6
    have ka : qa.keys = q.keys := by rw [← eqa, ← eq6]; rfl
    have sa : qa.succ = q.succ := by rw [← eqa, ← eq6]; rfl
    have na : qa.np = fun x => if x = k then -2 else st.1 x := by rw [← eqa, ← eq6, ← est]; rfl
    have Sa : qa.S = q.S := by rw [← eqa]; exact S6
    have Da : qa.D = q.D := by rw [← eqa]; exact D6
    have rva : qa.rv = .ref R := by rw [← eqa, ← eq6]; exact hrv
    have nfa : qa.nfi = q.nfi + (i : Nat) := by rw [← eqa, ← eq6]; rfl
    have hka : k ∈ qa.keys := ka ▸ hkk
    rw [S6] at e1
    rw [D6] at e2
    have l9 : @LT.lt Nat _ h2.objs.size h9.objs.size := by
      have e := P9 _ (.head _) _ hI6
      exact Heap.lt_size e
    have l9L : @LT.lt Nat _ L h9.objs.size := F9.ns.lt
    have ls9 : @LT.lt Nat _ s.heap.objs.size h9.objs.size := Nat.lt_trans lsL l9L
    repeat walk_at "q"
    refine wpAny_For ?_
    repeat walk_at "q"
    have hiaa : q6.ia k = qa.ia k := by rw [← eqa]; rfl
    show wpAny _ _ (getAttr (.ref (q6.ia k)) _ _) _ _ _
    rw [hiaa]
    refine info_succ F9 X' St9 hka ?_
    obtain ⟨lv, ln, le, li⟩ := St9.lst k hka
    rw [sa] at li
    have hLoa : ∀ a ∈ qa.foot, a ≠ L ∧ g.get? a = none := fun a ha => hLo a (fa ▸ ha)
    have hil : qa.il k ∈ q.foot := fa ▸ So.fil hka
    refine iterList (DnI w s q qa R (q.succ k) st.2 h2 h6) rfl rfl rfl le li (hLo _ hil).1 F9 ?start2 ?turn2 ?done2 PassesOwn.never
    case start2 =>
      intro h' K'
      refine ⟨ws5, n5, ?_, K' _ _ List.not_mem_nil R9, I5, fun b o hb e => K' _ _ List.not_mem_nil (B9 _ _ hb e), fun b hb o e => K' _ _ List.not_mem_nil (P9 b hb o e), e1, e2⟩
      have e : qa.wnp (dxS qa (q.succ k) st.2 0).1 = qa := rfl
      rw [e]
      exact St9.kept K' (List.forall_mem_nil _)
    case done2 =>
      rintro m10 h10 h11 tk11 ⟨ws', n', St10, R10, I10, B10, P10, e3, e4⟩ K11 F11
      dsimp only
      unfold dxS at St10 I10
      rw [List.take_length] at St10 I10
      have hI2 : ∀ a ∈ R :: q.foot, a ≠ h9.objs.size := fun a ha => Nat.ne_of_lt (Nat.lt_trans (lf a ha) ls9)
      have St11 := St10.kept K11 (by intro a ha hf; exact hI2 _ (.tail _ (fa ▸ hf)) (mem1 ha))
      have R11 := K11 _ _ (not1 (hI2 _ (.head _))) R10
      have est2 : (q.succ k).foldl dec (qa.np, st.2) = dnS q rs rd (i + 1) := by
        unfold dnS at est ⊢
        rw [take_snoc hp, List.foldl_append, est, na]
        rfl
      rw [est2] at St11 I10
      generalize eqb : qa.wnp (dnS q rs rd (i + 1)).1 = qb at *
      have fb : qb.foot = q.foot := by rw [← eqb]; exact fa
      have Sb : qb.S = q.S := by rw [← eqb]; exact Sa
      have hLob : ∀ a ∈ qb.foot, a ≠ L ∧ g.get? a = none := fun a ha => hLo a (fb ▸ ha)
      have nfb : qb.nfi = q.nfi + (i : Nat) := by rw [← eqb]; exact nfa
      rw [← Sb] at e3
      repeat walk_at "q"
      refine so_nfi F11 X' St11 ?_
      intro t11
      repeat walk_at "q"
      refine so_setnfi F11 X' St11 hLob ?_
      intro h12 F12 K12 St12
      dsimp only at K12
      have hdS : qb.dS ∈ q.foot := fb ▸ qb.fdS
      have ldS := lf _ (.tail _ hdS)
      repeat walk_at "q"
      refine ⟨h12, _, _, rfl, F12, ?_, ws', n', ?_, K12 _ _ (not2 hRL (fun c => hRf (c ▸ hdS))) R11, I10, ?_, e3.trans (by rw [Sb]), e4⟩
      · intro b hb o e
        have e' := P10 b hb o e
        simp only [List.mem_cons, List.not_mem_nil, or_false] at hb
        have hb2 : b ≠ h9.objs.size := by
          rcases hb with rfl | rfl
          · exact Nat.ne_of_lt l9
          · exact Nat.ne_of_lt ls9
        have hb3 : b ≠ L ∧ b ≠ qb.dS := by
          rcases hb with rfl | rfl
          · exact ⟨Nat.ne_of_gt l2, Nat.ne_of_gt (Nat.lt_trans ldS ls2)⟩
          · exact ⟨Nat.ne_of_lt lsL, Nat.ne_of_gt ldS⟩
        exact K12 _ _ (not2 hb3.1 hb3.2) (K11 _ _ (not1 hb2) e')
      · have e8 : dnq q rs rd (i + 1) = { qb with nfi := qb.nfi + 1 } := by
          rw [nfb, ← eqb, ← eqa, ← eq6]
          unfold dnq So.wnp
          simp only [So.mk.injEq, true_and, and_true]
          push_cast
          lia
        rw [e8]
        exact St12
      · intro b o hb e
        have lt : @LT.lt Nat _ b s.heap.objs.size := Heap.lt_size e
        have lI : @LT.lt Nat _ b h9.objs.size := Nat.lt_trans lt ls9
        have lL : @LT.lt Nat _ b L := Nat.lt_trans lt lsL
        exact K12 _ _ (not2 (Nat.ne_of_lt lL) (fun c => hb (c ▸ .tail _ hdS))) (K11 _ _ (not1 (Nat.ne_of_lt lI)) (B10 _ _ hb e))
    case turn2 =>
      rintro i' x tx m10 h10 h11 tk11 hpx ⟨ws', n', St10, R10, I10, B10, P10, e3, e4⟩ K11 hl11 ⟨oI2, hI2', cI2⟩ F11
      dsimp only at K11 hl11 hI2' F11 ⊢
      have hI2 : ∀ a ∈ R :: q.foot, a ≠ h9.objs.size := fun a ha => Nat.ne_of_lt (Nat.lt_trans (lf a ha) ls9)
      have hxk : x ∈ q.keys := hsu k hkk x (List.mem_of_getElem? hpx)
      have St11 := St10.kept K11 (offs2 (fun a ha => (hLoa a ha).1) (fun a ha => hI2 a (.tail _ (fa ▸ ha))))
      have R11 := K11 _ _ (not2 hRL (hI2 _ (.head _))) R10
      have hdl : (dxS qa (q.succ k) st.2 i').2.length ≤ (qa.np, st.2).2.length + ((q.succ k).take i').length := decs_len ((q.succ k).take i') (qa.np, st.2)
      have hlt' : ((q.succ k).take i').length ≤ 100 := by rw [List.length_take]; have := hsl k; lia
      have hsnoc := take_snoc hpx
      generalize esx : dxS qa (q.succ k) st.2 i' = sx at *
      generalize eqx : qa.wnp sx.1 = qx at *
      have fx : qx.foot = q.foot := by rw [← eqx]; exact fa
      have kx : x ∈ qx.keys := by rw [← eqx]; exact ka ▸ hxk
      have Dx : qx.D = q.D := by rw [← eqx]; exact Da
      have Sx : qx.S = q.S := by rw [← eqx]; exact Sa
      have nx : qx.np = sx.1 := by rw [← eqx]; rfl
      have rvx : qx.rv = .ref R := by rw [← eqx]; exact rva
      have hLox : ∀ a ∈ qx.foot, a ≠ L ∧ g.get? a = none := fun a ha => hLo a (fx ▸ ha)
      rw [← Dx] at e4
      rw [← Sx] at e3
      repeat walk_at "q"
      refine so_item St11 kx ?_ (by with_unfolding_all rfl)
      repeat walk_at "q"
      rename_i h12 F12 K12
      have St12 := St11.kept K12 (off1 hLox)
      refine info_np F12 X' St12 kx ?_
      intro t12
      repeat walk_at "q"
      refine info_setnpW F12 X' St12 kx hLox ?_
      intro h13 F13 K13 St13
      dsimp only at K13
      have hixf : qx.ia x ∈ q.foot := fx ▸ So.fia kx
      have lix := lf _ (.tail _ hixf)
      have K113 : ∀ b o, b ≠ L → b ≠ qx.ia x → h11.get? b = some o → h13.get? b = some o := fun b o h1 h2 e => K13 _ _ (not2 h1 h2) (K12 _ _ (not1 h1) e)
      have R13 := K113 _ _ hRL (fun c => hRf (c ▸ hixf)) R11
      rw [nx] at *
      generalize eqy : qx.wnp (fun y => if y = x then sx.1 x - 1 else sx.1 y) = qy at *
      have fy : qy.foot = q.foot := by rw [← eqy]; exact fx
      have ky : x ∈ qy.keys := by rw [← eqy]; exact kx
      have iy : qy.ia x = qx.ia x := by rw [← eqy]; rfl
      have ny : qy.np x = sx.1 x - 1 := by rw [← eqy]; exact if_pos rfl
      have Sy : qy.S = qx.S := by rw [← eqy]; rfl
      have rvy : qy.rv = .ref R := by rw [← eqy]; exact rvx
      have ey : qa.wnp (dec sx x).1 = qy := by rw [← eqy, ← eqx]; rfl
      have fin : ∀ (h14 : Heap) (tk14 : Nat) (ws4 : List Value) (n4 : Nat) (m14 : Str → Option Value), Fr g L h14 m14 → SoAt w qy h14 → h14.get? R = some (listOf ws4.toArray n4) → IntsAre ws4 (dec sx x).2 → (∀ b o, b ≠ L → b ≠ qx.ia x → b ≠ R → h11.get? b = some o → h14.get? b = some o) →
          m14 (Str.ofString "self") = some (.ref q.S) → m14 (Str.ofString "n2i") = some (.ref q.D) →
          TurnR g L [h9.objs.size, qa.il k] (DnI w s q qa R (q.succ k) st.2 h2 h6 (i' + 1)) s h11 (fun _ _ => False) .next { s with heap := h14, toks := tk14 } := by
        intro h14 tk14 ws4 n4 m14 F14 St14 R14 I14 K14 a1 a2
        have est3 : dxS qa (q.succ k) st.2 (i' + 1) = dec sx x := by unfold dxS at esx ⊢; rw [hsnoc, List.foldl_append, esx]; rfl
        refine ⟨h14, tk14, m14, rfl, F14, ?_, ws4, n4, ?_, R14, ?_, ?_, ?_, a1, a2⟩
        · intro b hb o e
          simp only [List.mem_cons, List.not_mem_nil, or_false] at hb
          rcases hb with rfl | rfl
          · exact K14 _ _ (Nat.ne_of_gt l9L) (Nat.ne_of_gt (Nat.lt_trans lix ls9)) (Ne.symm (hI2 _ (.head _))) e
          · exact K14 _ _ (hLo _ hil).1 (by
              obtain ⟨ta, tb, ex⟩ := St11.info x kx
              exact neCls hl11 ex (by intro c; cases c)) (fun c => hRf (c ▸ hil)) e
        · rw [est3, ey]; exact St14
        · rw [est3]; exact I14
        · intro b o hb e
          have lt : @LT.lt Nat _ b s.heap.objs.size := Heap.lt_size e
          have lI : @LT.lt Nat _ b h9.objs.size := Nat.lt_trans lt ls9
          have lL : @LT.lt Nat _ b L := Nat.lt_trans lt lsL
          simp only [List.mem_cons, not_or] at hb
          exact K14 _ _ (Nat.ne_of_lt lL) (fun c => hb.2 (c ▸ hixf)) hb.1 (K11 _ _ (not2 (Nat.ne_of_lt lL) (Nat.ne_of_lt lI)) (B10 _ _ (by simp only [List.mem_cons, not_or]; exact hb) e))
        · intro b hb o e
          have e' := P10 b hb o e
          have lR := lf R (.head _)
          simp only [List.mem_cons, List.not_mem_nil, or_false] at hb
          have hb4 : b ≠ h9.objs.size ∧ b ≠ L ∧ b ≠ qx.ia x ∧ b ≠ R := by
            rcases hb with rfl | rfl
            · exact ⟨Nat.ne_of_lt l9, Nat.ne_of_gt l2, Nat.ne_of_gt (Nat.lt_trans lix ls2), Nat.ne_of_gt (Nat.lt_trans lR ls2)⟩
            · exact ⟨Nat.ne_of_lt ls9, Nat.ne_of_lt lsL, Nat.ne_of_gt lix, Nat.ne_of_gt lR⟩
          exact K14 _ _ hb4.2.1 hb4.2.2.1 hb4.2.2.2 (K11 _ _ (not2 hb4.2.1 hb4.1) e')
      walk_at "q"
      refine wpAny_If ?_
      repeat walk_at "q"
      rw [← iy]
      refine info_np F13 X' St13 ky ?_
      intro t13
      rw [ny]
      repeat walk_at "q"
      by_cases hz : sx.1 x - 1 = 0
      · refine (if_pos (by simpa using hz)).mpr ?_
        rw [← Sy] at e3
        repeat walk_at "q"
        refine so_attr (v := .ref R) F13 X' St13 (by k_is) (by k_is) (by k_is) (fun _ _ _ => by rw [rvy]; rfl) rfl ?_
        refine getMethod_builtin ⟨_, R13, rfl⟩ PySem.F.plainAttrs_list PySem.F.slot_list_append PySem.F.type_list_append (fun a e => by cases e; exact ⟨_, R13, rfl⟩) ?_
        repeat walk_at "q"
        have hwl : ws'.length ≤ 1000000 := by
          rw [I10.length]
          have : (qa.np, st.2).2.length = st.2.length := rfl
          lia
        refine append_at R13 ?_ (by rw [List.size_toArray, sizeLine_eq]; lia)
        intro h14 B14 e14
        dsimp only at B14
        rw [List.push_toArray] at e14
        have F14 := Mine.Fr.behind F13 (M := [R]) (none1 hRg) (not1 (Ne.symm hRL)) (Kept.one B14)
        have St14 := St13.kept (Kept.one B14) (by intro a ha hf; rw [mem1 ha, fy] at hf; exact hRf hf)
        repeat walk_at "q"
        refine fin h14 _ _ _ _ F14 St14 e14 ?_ (fun b o h1 h2 h3 e => (B14.2 b h3).trans (K113 _ _ h1 h2 e)) (e3.trans (by rw [Sy, Sx])) (e4.trans (by rw [Dx]))
        unfold dec
        simp only [hz, if_true]
        exact IntsAre.append I10 (.cons x tx .nil)
      · refine (if_neg (by simpa using hz)).mpr ?_
        repeat walk_at "q"
        refine fin h13 _ _ _ _ F13 St13 R13 ?_ (fun b o h1 h2 h3 e => K113 _ _ h1 h2 e) (e3.trans (by rw [Sx])) (e4.trans (by rw [Dx]))
        unfold dec
        simp only [hz, if_false]
        exact I10
theorem meets_bool_list {w : World} (l : Addr) (items : Array Value) (hfit : (items.size : Int) < 2 ^ 63) :
    MeetsIn prg w (Builtin.«bool.__new__» ⟨[.type "bool", .ref l], []⟩) (fun _ R s => s.heap.IsList l items ∧ R (.ok (.ret (.bool (!items.isEmpty)))) { s with toks := s.toks + 1 + 1 }) :=
  MeetsIn.of_wp fun A R s hs => by
    obtain ⟨hp, g, d, tk, os⟩ := s
    have f1 := PySem.F.conv_sub_bool
    obtain ⟨hl, hs⟩ := hs
    repeat (any_goals (first | assumption | (with_reducible refine wpAny_truthy_list hl hfit ?_) | wp_step))
    all_goals first | exact ⟨_, rfl, hs⟩ | exact hs | skip

theorem call_bool_list {w : World} {A : Around} {E : Value → Shared → Prop} {s : Shared} {l : Addr} {items : Array Value} {Q : Value → Shared → Prop} (hl : s.heap.IsList l items) (hfit : (items.size : Int) < 2 ^ 63) (h : Q (.bool (!items.isEmpty)) { s with toks := s.toks + 1 + 1 }) :
    wpAny (model prg w) A (call (.type "bool") [.ref l]) Q E s :=
  callType_newIn PySem.F.called_bool PySem.F.newNe_bool (PySem.F.typeCall_bool_1 _) (PySem.F.newCall_bool_1 _) (fun obj => PySem.F.args_object_init_2 obj _) PySem.F.entry_bool_new (meets_bool_list l items hfit)
    ⟨hl, (show wants (fun obj s₁ => s₁.TypeIs obj "bool" ∧ Q obj s₁) E _ _ from ⟨rfl, h⟩)⟩

theorem active_spec {w : World} {s : Shared} {mg mb : Str → Option Value} {h₀ : Heap} {q : So} {R : Addr} {n : Nat} {RR : Result → Shared → Prop}
    (G : Gnd w mg mb h₀) (hk : ∀ b o, h₀.get? b = some o → s.heap.get? b = some o) (St : SoAt w q s.heap) (hrv : q.rv = .ref R) (hRl : s.heap.get? R = some (listOf #[] n)) (hnn : q.nfi = q.npo)
    (hR : ∀ h' tk, Kept [] s.heap h' → RR (.ok (.ret (.bool false))) { s with heap := h', toks := tk }) :
    codeAny (model prg w) (AS 470 470) (.call (.ref 134) ⟨[.ref q.S], []⟩) RR s := by
  refine enter (led := []) G hk (List.forall_mem_nil _) (by k_is) (by k_is) (by decide) (BindsTo.of_eq rfl) (locs rfl) ?_
  intro g h₁ Gg kg ks F N
  have X' := Gg.X
  have T' := Gg.T
  have St1 := St.kept ks (List.forall_mem_nil _)
  dsimp only
  walk_at "q"
  refine wpAny_If ?_
  repeat walk_at "q"
  refine so_attr (v := .ref R) F X' St1 (by k_is) (by k_is) (by k_is) (fun _ _ _ => by rw [hrv]; rfl) rfl ?_
  repeat walk_at "q"
  refine (if_neg (by simp)).mpr ?_
  repeat walk_at "q"
  refine so_nfi F X' St1 ?_
  intro t1
  repeat walk_at "q"
  refine so_npo F X' St1 ?_
  intro t2
  repeat walk_at "q"
  refine (if_neg (by simp [hnn])).mpr ?_
  repeat walk_at "q"
  refine so_attr (v := .ref R) F X' St1 (by k_is) (by k_is) (by k_is) (fun _ _ _ => by rw [hrv]; rfl) rfl ?_
  repeat walk_at "q"
  refine call_bool_list (items := #[]) ⟨_, ks _ _ List.not_mem_nil hRl, rfl, _, rfl⟩ (by simp) ?_
  exact hR h₁ _ ks
/-! the iterator of a list, its bound `__next__`, and what it raises at its end -/
theorem li_slot_ga : Slot "list_iterator" "__getattribute__" "object.__getattribute__" :=
  .of (owner := "object") (n := "__getattribute__") (by rw [typeLookup_type, builtinLookup_eq_fast]; kernel_rfl) (by decide +kernel) (by decide +kernel) (by decide +kernel)
    (by first | exact .inl (by decide +kernel) | exact .inr (by decide +kernel)) (by rw [isSubtype_type]; kernel_rfl)
theorem li_getattr_none : typeLookup (.type "list_iterator") "__getattr__" = pure none := by rw [typeLookup_type, builtinLookup_eq_fast]; kernel_rfl
theorem li_ty : typeOf (.builtin "list_iterator.__next__") = pure (.type "wrapper_descriptor") := by show builtinType _ = _; rw [builtinType_eq_fast]; kernel_rfl
theorem wd_slot_get : Slot "wrapper_descriptor" "__get__" "wrapper_descriptor.__get__" :=
  .of (owner := "wrapper_descriptor") (n := "__get__") (by rw [typeLookup_type, builtinLookup_eq_fast]; kernel_rfl) (by decide +kernel) (by decide +kernel) (by decide +kernel)
    (by first | exact .inl (by decide +kernel) | exact .inr (by decide +kernel)) (by rw [isSubtype_type]; kernel_rfl)
theorem wd_set : typeLookup (.type "wrapper_descriptor") "__set__" = pure none := by rw [typeLookup_type, builtinLookup_eq_fast]; kernel_rfl
theorem wd_del : typeLookup (.type "wrapper_descriptor") "__delete__" = pure none := by rw [typeLookup_type, builtinLookup_eq_fast]; kernel_rfl
theorem wd_entry_get : entryFor table "wrapper_descriptor.__get__" = some Builtin.«wrapper_descriptor.__get__» := entryFor_of_tree (by kernel_rfl)
theorem wd_args_get (a b c : Value) : argsOk "wrapper_descriptor.__get__" ⟨[a, b, c], []⟩ := by unfold argsOk; kernel_rfl
theorem li_sub : isSubtype (.type "list_iterator") (.type "list_iterator") = pure true := by rw [isSubtype_type]; kernel_rfl

abbrev nextW (it : Addr) : Obj := { cls := .type "method-wrapper", dict := none, data := .fields #[.builtin "list_iterator.__next__", .ref it] }
abbrev liObj (l : Addr) (i : Nat) : Obj := { cls := .type "list_iterator", data := .fields #[.ref l, .int i 0] }

section
variable {w : World} {A : Around} {E : Value → Shared → Prop} {s : Shared}

theorem li_run_get {it l : Addr} {i : Nat} {P : Fin → Shared → Prop} (ho : s.heap.get? it = some (liObj l i)) (h : P (.done (.ret (.ref s.heap.objs.size))) { s with heap := s.heap.push (nextW it) }) :
    wpAny (model prg w) A (Builtin.«wrapper_descriptor.__get__» ⟨[.builtin "list_iterator.__next__", .ref it, .type "list_iterator"], []⟩) P E s := by
  have hT : s.TypeIs (.ref it) "list_iterator" := ⟨_, ho, rfl⟩
  unfold Builtin.«wrapper_descriptor.__get__»
  refine wpAny_bind (wpAny_of_eq (a := (.builtin "list_iterator.__next__", some (.ref it), some (.type "list_iterator"))) (by first | rfl | kernel_rfl) ?_)
  show wpAny _ _ ((kfb_private% "checkInstance") (.builtin "list_iterator.__next__") (.ref it) >>= fun _ => newFields "method-wrapper" [.builtin "list_iterator.__next__", .ref it] >>= fun v => ret v) _ _ _
  refine wpAny_bind ?_
  show wpAny _ _ ((kfb_private% "nameAndClass") (.builtin "list_iterator.__next__") >>= _) _ _ _
  refine wpAny_bind (wpAny_of_eq (a := (Str.ofString "__next__", .type "list_iterator")) (by first | rfl | kernel_rfl) ?_)
  refine wpAny_bind (wpAny_isInstance hT li_sub ?_)
  refine wpAny_of_eq (a := ()) (by first | rfl | kernel_rfl) ?_
  unfold newFields
  exact wpAny_bind (wpAny_newObj_type (wpAny_pure h))

theorem li_entry_run {it l : Addr} {i : Nat} {u : Tok} {Q : Fin → Shared → Prop} (ho : s.heap.get? it = some (liObj l i)) (h : Q (.done (.ret (.ref s.heap.objs.size))) { s with heap := s.heap.push (nextW it) }) :
    wpAny (model prg w) A (Builtin.«object.__getattribute__» ⟨[.ref it, .str "__next__" u], []⟩) Q E s := by
  obtain ⟨hp, g, d, tk, os⟩ := s
  have hT : (⟨hp, g, d, tk, os⟩ : Shared).TypeIs (.ref it) "list_iterator" := ⟨_, ho, rfl⟩
  have hT5 : (⟨hp, g, d, tk, os⟩ : Shared).TypeIs (.builtin "list_iterator.__next__") "wrapper_descriptor" := li_ty
  have f4 := slot_listiter_next.lookup
  have f5 := li_ty
  have f6 := wd_slot_get.lookup
  have f7 := wd_set
  have f8 := wd_del
  unfold Builtin.«object.__getattribute__»
  repeat (any_goals (first | assumption | ((with_reducible show wpAny _ _ (call (Value.builtin "wrapper_descriptor.__get__") _ _) _ _ _); refine wpAny_call_entry wd_slot_get hT5 wd_entry_get (li_run_get ho ?_) (wd_args_get _ _ _)) | wp_step))
  exact ⟨_, rfl, wpAny_pure h⟩

/-- `iter(l).__next__` -/
theorem li_attr {it l : Addr} {i : Nat} {expr : Bool} {Q : Value → Shared → Prop} (ho : s.heap.get? it = some (liObj l i))
    (h : Q (.ref s.heap.objs.size) { s with heap := s.heap.push (nextW it), toks := s.toks + 1 }) : wpAny (model prg w) A (getAttr (.ref it) "__next__" expr) Q E s := by
  obtain ⟨hp, g, d, tk, os⟩ := s
  have hT : ∀ tk', (⟨hp, g, d, tk', os⟩ : Shared).TypeIs (.ref it) "list_iterator" := fun _ => ⟨_, ho, rfl⟩
  have f3 := li_slot_ga.lookup
  have f4 := li_slot_ga.bind (.ref it)
  have f5 := li_getattr_none
  unfold getAttr getAttrBy
  cases expr <;>
  repeat (any_goals (first | assumption | exact hT _ | ((with_reducible show wpAny _ _ (call (Value.builtin "object.__getattribute__") _ _) _ _ _); refine wpAny_call_entry li_slot_ga (hT _) F.entry_object_getattribute (li_entry_run ho ?_) (F.args_object_getattribute_2 _ _)) | wp_step))
  all_goals exact ⟨_, rfl, wpAny_pure h⟩

theorem li_check (it : Addr) : ∀ {Q : Unit → Shared → Prop}, s.TypeIs (.ref it) "list_iterator" → Q () s → wpAny (model prg w) A (checkBoundCall "list_iterator.__next__" ⟨[.ref it], []⟩) Q E s := by
  intro Q hT h
  exact wpAny_of_eq (a := ()) (by first | kernel_rfl | rfl) h

/-- a call of the bound `__next__` where an item is left -/
theorem li_call_item {q it l : Addr} {i n : Nat} {items : Array Value} {x : Value} {Q : Value → Shared → Prop} (hq : s.heap.get? q = some (nextW it)) (ho : s.heap.get? it = some (liObj l i)) (hl : s.heap.get? l = some (listOf items n)) (hx : items[i]? = some x)
    (h : ∀ h', Heap.SameBut it s.heap h' → h'.get? it = some (liObj l (i + 1)) → Q x { s with heap := h' }) : wpAny (model prg w) A (call (.ref q) []) Q E s := by
  refine wpAny_call (codeAny_of_tree ?_)
  show wpAny _ A.in1 (callAny (.ref q) ⟨[], []⟩) _ _ s
  simp only [callAny]
  refine wpAny_bind (wpAny_load hq ?_)
  simp only [show (Value.type "method-wrapper" == Value.type "method" || Value.type "method-wrapper" == Value.type "builtin_function_or_method" || Value.type "method-wrapper" == Value.type "method-wrapper") = true by decide, if_true]
  refine KFB.if_so (by decide) ?_
  refine wpAny_bind (li_check it ⟨_, ho, rfl⟩ ?_)
  refine wpAny_bind (wpAny_pure (wpAny_pure ?_))
  refine ⟨Code.quiet_builtin _ (by decide +kernel), codeAny_builtin entry_listiter_next ?_⟩
  show wpAny _ _ (field (.ref it) 0 >>= _) _ _ s
  refine wpAny_bind (wpAny_field ho rfl (x := .ref l) rfl ?_)
  show wpAny _ _ (if (Value.ref l == Value.none) = true then _ else _) _ _ s
  rw [if_neg (show ¬ ((Value.ref l == Value.none) = true) from Bool.false_ne_true)]
  show wpAny _ _ (field (.ref it) 1 >>= _) _ _ s
  refine wpAny_bind (wpAny_field ho rfl (x := .int i 0) rfl ?_)
  show wpAny _ _ (seqItems? (.ref l) >>= _) _ _ s
  refine wpAny_bind (wpAny_seqItems hl rfl ?_)
  simp only [Int.toNat_natCast, hx]
  refine wpAny_bind (wpAny_setField ho rfl (by simp) (wpAny_pure (h _ (Heap.SameBut.update ..) ?_)))
  have := Heap.get?_update_self (Obj.mapFields (·.setIfInBounds 1 (rawInt ((i : Int) + 1)))) ho (by rfl)
  simpa [Obj.mapFields, liObj, rawInt] using this

/-- a call of the bound `__next__` at the end -/
theorem li_call_end {q it l : Addr} {i n : Nat} {items : Array Value} {Q : Value → Shared → Prop} (hh : A.handled = none) (hq : s.heap.get? q = some (nextW it)) (ho : s.heap.get? it = some (liObj l i)) (hl : s.heap.get? l = some (listOf items n)) (hx : items[i]? = none)
    (h : ∀ h' e oe vs, Kept [it] s.heap h' → @LE.le Nat _ s.heap.objs.size e → h'.get? e = some oe → oe.cls = .type "StopIteration" → oe.data = .fields vs → vs[1]? = some .none → E (.ref e) { s with heap := h' }) : wpAny (model prg w) A (call (.ref q) []) Q E s := by
  refine wpAny_call (codeAny_of_tree ?_)
  show wpAny _ A.in1 (callAny (.ref q) ⟨[], []⟩) _ _ s
  simp only [callAny]
  refine wpAny_bind (wpAny_load hq ?_)
  simp only [show (Value.type "method-wrapper" == Value.type "method" || Value.type "method-wrapper" == Value.type "builtin_function_or_method" || Value.type "method-wrapper" == Value.type "method-wrapper") = true by decide, if_true]
  refine KFB.if_so (by decide) ?_
  refine wpAny_bind (li_check it ⟨_, ho, rfl⟩ ?_)
  refine wpAny_bind (wpAny_pure (wpAny_pure ?_))
  refine ⟨Code.quiet_builtin _ (by decide +kernel), codeAny_builtin entry_listiter_next ?_⟩
  show wpAny _ _ (field (.ref it) 0 >>= _) _ _ s
  refine wpAny_bind (wpAny_field ho rfl (x := .ref l) rfl ?_)
  show wpAny _ _ (if (Value.ref l == Value.none) = true then _ else _) _ _ s
  rw [if_neg (show ¬ ((Value.ref l == Value.none) = true) from Bool.false_ne_true)]
  show wpAny _ _ (field (.ref it) 1 >>= _) _ _ s
  refine wpAny_bind (wpAny_field ho rfl (x := .int i 0) rfl ?_)
  show wpAny _ _ (seqItems? (.ref l) >>= _) _ _ s
  refine wpAny_bind (wpAny_seqItems hl rfl ?_)
  simp only [Int.toNat_natCast, hx]
  refine wpAny_bind (wpAny_rule (wpAny_bind (wpAny_setField ho rfl (by simp) ?_)))
  show wpAny _ _ (newExc (.type "StopIteration") [] >>= _) _ _ _
  refine wpAny_bind ?_
  simp only [newExc, newTuple]
  refine wpAny_bind (wpAny_newObj_type ?_ (by size_fits))
  refine wpAny_bind (m := firstArgMember _ _) (wpAny_of_eq (a := Value.none) (by first | rfl | (simp only [firstArgMember]; rfl)) ?_)
  refine wpAny_newObj_type ?_ (by size_fits)
  simp only [raiseNew]
  refine wpAny_bind (wpAny_handled ?_)
  rw [show ∀ c, (A.under c).handled = none from fun _ => hh]
  refine wpAny_bind (wpAny_pure (wpAny_throw ?_))
  refine h _ _ _ _ (fun b o hb e => Heap.get?_push_of_some _ (Heap.get?_push_of_some _ (((Heap.SameBut.update ..).2 b (by simpa using hb)).trans e))) ?_ (Heap.get?_push_size _ rfl) rfl rfl rfl
  rw [Heap.size_push, Heap.size_after_update]
  exact Nat.le_succ _

theorem li_callWith {q it : Addr} {pos : Pos} {env : Env} {Q : Value → Shared → Prop} (hq : s.heap.get? q = some (nextW it)) (h : wpAny (model prg w) A (call (.ref q) []) Q E s) :
    wpAny (model prg w) A (callWith pos (.ref q) [] (backTo pos (starEach [] env)) []) Q E s := by
  refine callWith_of (P := fun h => h.get? q = some (nextW it)) rfl (fun h' hP => ⟨.machine, .inr (.inl rfl), (Looks.ld (part := none) hP).andThen ?_⟩) (evalArgs_nil3 ⟨hq, h⟩)
  exact .now

/-- `iter(l)` -/
theorem li_iter {l : Addr} {items : Array Value} {n : Nat} {Q : Value → Shared → Prop} (hl : s.heap.get? l = some (listOf items n)) (h : Q (.ref s.heap.objs.size) { s with heap := s.heap.push (liObj l 0) }) :
    wpAny (model prg w) A (call (.builtin "iter") [.ref l]) Q E s := by
  refine call_function_entry (by decide +kernel) (by decide +kernel) kdk_entry_iter (kdk_args_iter _) ?_
  unfold Builtin.«iter»
  refine wpAny_bind (m := someArgs "iter" 1 2 _) (wpAny_of_eq (a := [Value.ref l]) (by first | rfl | kernel_rfl!) ?_)
  show wpAny _ _ (pyIter (.ref l) >>= _) _ _ _
  exact wpAny_bind (wpAny_pyIter_list ⟨_, hl, rfl, _, rfl⟩ (wpAny_pure ⟨_, rfl, h⟩))
end
/-! a StopIteration that a try takes: what it leaves in the heap -/
def frs (l : List Env) : List Addr := l.filterMap (·.frame)

section
variable {M : Model} {A : Around} {E : Value → Shared → Prop} {s : Shared}
theorem note_end {base : Heap} {env : Env} {outer : List Env} {L e : Addr} {oe : Obj} {vs : Array Value} {Q : Unit → Shared → Prop} (hfr : A.frames = some (env :: outer)) (hl : s.heap.FunFrames base (env :: outer)) (hf : env.frame = some L)
    (he : s.heap.get? e = some oe) (hd : oe.data = .fields vs) (h1 : vs[1]? = some .none)
    (h : ∀ h', (∀ b o, b ∉ frs (env :: outer) → b ≠ e → s.heap.get? b = some o → h'.get? b = some o) → (∀ b o, b ≠ e → s.heap.get? b = some o → ∃ sl, h'.get? b = some { o with slots := sl }) →
      (∃ oe' vs' T oT ts, h'.get? e = some oe' ∧ oe'.cls = oe.cls ∧ oe'.data = .fields vs' ∧ vs'[1]? = some (.ref T) ∧ h'.get? T = some oT ∧ oT.data = .fields ts ∧ 3 < ts.size ∧ s.heap.get? T = none) → Q () { s with heap := h' }) :
    wpAny M A (noteFrame (.ref e) env) Q E s := by
  have hsz : 1 < vs.size := (Array.getElem?_eq_some_iff.mp h1).1
  have hene : e ∉ (env :: outer).filterMap (·.frame) := fun hm => by
    obtain ⟨_, o, ho, hnf⟩ := hl.mem hm
    rw [he] at ho; injection ho with ho; subst ho; exact hnf vs hd
  unfold noteFrame
  simp only [hf]
  refine wpAny_bind (wpAny_field he hd h1 ?_)
  rw [if_neg (by decide)]
  refine wpAny_bind (wpAny_frameOf_fun hfr hl hf fun h₁ hs₁ => ?_)
  refine wpAny_bind (wpAny_entryPlaceOf fun pl hpl => ?_)
  unfold EntryCells.newEntry newFields
  refine wpAny_bind (wpAny_newObj_type ?_ (hpl.sizeOk5 _ _ _ _ _))
  have he₁ : h₁.get? e = some oe := (hs₁.2.1 e hene).trans he
  have he₂ := Heap.get?_push_of_some (h := h₁) { cls := .type "traceback", dict := none, data := .fields ([Value.none, .ref L, .none, rawInt L, .none] ++ (if pl.isEmpty then List.replicate 6 Value.none else pl)).toArray } he₁
  refine wpAny_setField he₂ hd hsz ?_
  have hTe : h₁.objs.size ≠ e := Nat.ne_of_gt (Heap.lt_size he₁)
  have hd₃ := Obj.data_mapFields hd (·.setIfInBounds 1 (Value.ref h₁.objs.size))
  refine h _ (fun b o hbf hbe hb => ?_) (fun b o hbe hb => ?_) ⟨_, _, h₁.objs.size, _, _, Heap.get?_update_self _ he₂ (Obj.isFreed_of_fields hd₃), Obj.cls_mapFields _ _, hd₃, by simp [hsz], (Heap.get?_update_other _ _ (Ne.symm hTe)).trans (Heap.get?_push_size h₁ rfl), rfl, ?_, Heap.get?_none_of_le (by rw [hs₁.1]; exact Nat.le_refl _)⟩
  · rw [Heap.get?_update_other _ _ (Ne.symm hbe)]
    exact Heap.get?_push_of_some _ ((hs₁.2.1 b hbf).trans hb)
  · obtain ⟨sl, q⟩ := hs₁.2.2 b o hb
    exact ⟨sl, by rw [Heap.get?_update_other _ _ (Ne.symm hbe)]; exact Heap.get?_push_of_some _ q⟩
  · simp only [List.size_toArray, List.length_append, List.length_cons, List.length_nil]; lia
end

theorem Ns.slots {h h' : Heap} {L : Addr} {m : Str → Option Value} (n : h.Ns L m) (k : ∀ o, h.get? L = some o → ∃ sl, h'.get? L = some { o with slots := sl }) : h'.Ns L m := by
  obtain ⟨o, es, ep, ho, r⟩ := n
  obtain ⟨sl, e⟩ := k o ho
  exact ⟨_, es, ep, e, r⟩

section
variable {w : World} {A : Around} {E : Value → Shared → Prop} {s : Shared} {g : Heap} {L e : Addr} {m : Str → Option Value} {outer : List Env} {env : Env}

/-- a StopIteration that has come to the try in the frame of `env` -/
theorem tryEnd {oe : Obj} {vs : Array Value} {t : Expr} {b₀ : Stmt} {suite : List Stmt} {pos : Pos} {Q : Flow → Shared → Prop} (F : Fr g L s.heap m) (hfr : A.frames = some (env :: outer)) (hkd : env.scope.kind ≠ .module) (hf : env.frame = some L) (hgL : g.get? L = none) (hout : s.heap.FunFrames g outer)
    (he : s.heap.get? e = some oe) (heg : g.get? e = none) (hc : oe.cls = .type "StopIteration") (hd : oe.data = .fields vs) (h1 : vs[1]? = some .none)
    (hev : ∀ (s' : Shared) (A' : Around) (E' : Value → Shared → Prop) (Q' : Value → Shared → Prop), Fr g L s'.heap m → Q' (.type "StopIteration") s' → wpAny (model prg w) A' (eval t env) Q' E' s')
    (h : ∀ h', Fr g L h' m → h'.FunFrames g outer → (∀ b o, b ∉ frs (env :: outer) → b ≠ e → s.heap.get? b = some o → h'.get? b = some o) → (∀ b o, b ≠ e → s.heap.get? b = some o → ∃ sl, h'.get? b = some { o with slots := sl }) →
      wpAny (model prg w) (A.mark (some (.ref e))) (execs (b₀ :: suite) env) Q (fun _ _ => False) { s with heap := h' }) :
    wpAny (model prg w) A (noteFrame (.ref e) env) (fun _ s₂ => wpAny (model prg w) A (setFlight (.ref e) none) (fun _ s₃ => wpAny (model prg w) A (handleBy (.ref e) env [.ExceptHandler (some t) none (b₀ :: suite) pos]) Q E s₃) E s₂) E s := by
  have hl : s.heap.FunFrames g (env :: outer) := Heap.FunFrames.cons hkd hf F.ns hgL hout
  refine note_end hfr hl hf he hd h1 ?_
  rintro h₁ k₁ sl₁ ⟨oe₁, vs₁, T, oT, ts, e₁, c₁, d₁, t₁, T₁, dT, zT, nT⟩
  refine wpAny_setFlight_none e₁ d₁ t₁ T₁ dT zT ?_
  have dT₂ := Obj.data_mapFields dT (·.setIfInBounds 3 Value.none)
  have T₂ := Heap.get?_update_self (Obj.mapFields (·.setIfInBounds 3 Value.none)) T₁ (Obj.isFreed_of_fields dT₂)
  have hTe : T ≠ e := fun q => by rw [q, he] at nT; cases nT
  have e₂ := (Heap.get?_update_other h₁ (Obj.mapFields (·.setIfInBounds 3 Value.none)) hTe).trans e₁
  have nb : ∀ b o, s.heap.get? b = some o → T ≠ b := fun b o q c => by rw [c, q] at nT; cases nT
  have fr : ∀ h', (∀ b o, b ∉ frs (env :: outer) → b ≠ e → s.heap.get? b = some o → h'.get? b = some o) → (∀ b o, b ≠ e → s.heap.get? b = some o → ∃ sl, h'.get? b = some { o with slots := sl }) → Fr g L h' m ∧ h'.FunFrames g outer := by
    intro h' k' s'
    obtain ⟨oL, _, _, hoL, dL, _⟩ := id F.ns
    have hLe : L ≠ e := fun q => by
      rw [q, he] at hoL
      cases hoL
      rw [hd] at dL
      cases dL
    refine ⟨⟨Ns.slots F.ns (fun o ho => s' L o hLe ho), fun b o hb => k' b o (fun hm => by rw [(hl.mem hm).1] at hb; cases hb) (fun q => by rw [q, heg] at hb; cases hb) (F.keep b o hb), F.above⟩, ?_⟩
    refine hout.of_keeps fun b o hb hnf => ?_
    obtain ⟨sl, q⟩ := s' b o (fun q => by rw [q, he] at hb; cases hb; exact hnf _ hd) hb
    exact ⟨_, q, rfl⟩
  refine wpAny_handleBy_builtin (X := "StopIteration") (T := "StopIteration") (b := true) (by rw [isSubtype_type]; kernel_rfl) (by first | (rw [isSubtype_type]; kernel_rfl) | kernel_rfl) isSubtype_stop ?_
  have k₂ : ∀ b o, b ∉ frs (env :: outer) → b ≠ e → s.heap.get? b = some o → (h₁.update T (Obj.mapFields (·.setIfInBounds 3 Value.none))).get? b = some o := fun b o hb hbe q => (Heap.get?_update_other _ _ (nb b o q)).trans (k₁ b o hb hbe q)
  have sl₂ : ∀ b o, b ≠ e → s.heap.get? b = some o → ∃ sl, (h₁.update T (Obj.mapFields (·.setIfInBounds 3 Value.none))).get? b = some { o with slots := sl } := fun b o hbe q => let ⟨sl, x⟩ := sl₁ b o hbe q; ⟨sl, (Heap.get?_update_other _ _ (nb b o q)).trans x⟩
  refine hev _ _ _ _ (fr _ k₂ sl₂).1 ⟨rfl, ⟨_, e₂, c₁.trans hc⟩, ?_⟩
  refine (if_pos rfl).mpr ?_
  refine wpAny_setFlight_none e₂ d₁ t₁ T₂ dT₂ (by rw [Array.size_setIfInBounds]; exact zT) ?_
  have k₃ : ∀ b o, b ∉ frs (env :: outer) → b ≠ e → s.heap.get? b = some o → ((h₁.update T (Obj.mapFields (·.setIfInBounds 3 Value.none))).update T (Obj.mapFields (·.setIfInBounds 3 Value.none))).get? b = some o := fun b o hb hbe q => (Heap.get?_update_other _ _ (nb b o q)).trans (k₂ b o hb hbe q)
  have sl₃ : ∀ b o, b ≠ e → s.heap.get? b = some o → ∃ sl, ((h₁.update T (Obj.mapFields (·.setIfInBounds 3 Value.none))).update T (Obj.mapFields (·.setIfInBounds 3 Value.none))).get? b = some { o with slots := sl } := fun b o hbe q => let ⟨sl, x⟩ := sl₂ b o hbe q; ⟨sl, (Heap.get?_update_other _ _ (nb b o q)).trans x⟩
  exact wpAny_mono (h _ (fr _ k₃ sl₃).1 (fr _ k₃ sl₃).2 k₃ sl₃) (fun _ _ x => x) fun _ _ x => x.elim
end
/-! raw rules for lists, sets and dicts; loops -/
def SK (fs : List Addr) (h h' : Heap) : Prop := Kept fs h h' ∧ ∀ b o, h.get? b = some o → ∃ sl, h'.get? b = some { o with slots := sl }
theorem SK.refl (fs : List Addr) (h : Heap) : SK fs h h := ⟨Kept.refl _ _, fun _ o e => ⟨o.slots, e⟩⟩
theorem SK.step {fs M : List Addr} {h h₁ h₂ : Heap} (x : SK fs h h₁) (K : Kept M h₁ h₂) (hM : ∀ a ∈ M, @LE.le Nat _ h.objs.size a) : SK fs h h₂ := by
  have hn : ∀ b o, h.get? b = some o → b ∉ M := fun b o e c => absurd (Heap.lt_size e) (Nat.not_lt.mpr (hM b c))
  refine ⟨fun b o hb e => K b o (hn b o e) (x.1 b o hb e), fun b o e => ?_⟩
  obtain ⟨sl, q⟩ := x.2 b o e
  exact ⟨sl, K b _ (hn b o e) q⟩
theorem SK.slots {fs M : List Addr} {h h₁ h₂ : Heap} (x : SK fs h h₁) (k : ∀ b o, b ∉ M → h₁.get? b = some o → h₂.get? b = some o) (sl : ∀ b o, @LT.lt Nat _ b h.objs.size → h₁.get? b = some o → ∃ sl, h₂.get? b = some { o with slots := sl }) (hM : ∀ a ∈ M, a ∈ fs ∨ @LE.le Nat _ h.objs.size a) : SK fs h h₂ := by
  refine ⟨fun b o hb e => k b o (fun c => ?_) (x.1 b o hb e), fun b o e => ?_⟩
  · rcases hM b c with q | q
    · exact hb q
    · exact absurd (Heap.lt_size e) (Nat.not_lt.mpr q)
  · obtain ⟨s1, q⟩ := x.2 b o e
    obtain ⟨s2, q'⟩ := sl b _ (Heap.lt_size e) q
    exact ⟨s2, q'⟩
theorem SK.frames {fs : List Addr} {h h' g : Heap} {l : List Env} (x : SK fs h h') (hl : h.FunFrames g l) : h'.FunFrames g l :=
  hl.of_keeps fun b o e _ => let ⟨_, q⟩ := x.2 b o e; ⟨_, q, rfl⟩

theorem ints_snoc : ∀ {ns : List Int} {x : Int} {vs : List Value}, IntsAre vs (ns ++ [x]) → ∃ ws t, vs = ws ++ [.int x t] ∧ IntsAre ws ns
  | [], x, vs, h => by
    cases h with
    | cons n t h =>
      cases h
      exact ⟨[], t, rfl, .nil⟩
  | n :: ns, x, vs, h => by
    cases h with
    | cons _ t h =>
      obtain ⟨ws, t', e, h'⟩ := ints_snoc h
      exact ⟨.int n t :: ws, t', by rw [e]; rfl, .cons n t h'⟩

/-- a weight of the keys not yet seen -/
def wt (f : Int → Nat) (seen : Int → Bool) : List Int → Nat
  | [] => 0
  | k :: ks => (if seen k = true then 0 else f k) + wt f seen ks
theorem wt_le (f : Int → Nat) (seen : Int → Bool) (v : Int) : ∀ ks : List Int, wt f (fun k => seen k || decide (k = v)) ks ≤ wt f seen ks
  | [] => Nat.le_refl _
  | k :: ks => by
    have ih := wt_le f seen v ks
    unfold wt
    by_cases h : seen k = true
    · simp only [h, Bool.true_or, if_true]; lia
    · by_cases e : k = v
      · rw [if_pos (by simp [e]), if_neg h]; lia
      · rw [if_neg (by simp [e, h]), if_neg h]; lia
theorem wt_lt (f : Int → Nat) (seen : Int → Bool) (v : Int) : ∀ {ks : List Int}, v ∈ ks → seen v = false → wt f (fun k => seen k || decide (k = v)) ks + f v ≤ wt f seen ks
  | k :: ks, hv, hs => by
    have h1 := wt_le f seen v ks
    by_cases e : k = v
    · subst e
      unfold wt
      rw [if_pos (by simp), if_neg (by simp [hs])]
      lia
    · have ih := wt_lt f seen v (ks := ks) (by rcases List.mem_cons.mp hv with q | q; exact absurd q.symm e; exact q) hs
      unfold wt
      have : (if (seen k || decide (k = v)) = true then 0 else f k) = if seen k = true then 0 else f k := by simp [e]
      rw [this]
      lia

theorem valueAt_none {kvs : List (Int × Value)} {k : Int} (h : k ∉ kvs.map (·.1)) : valueAt kvs k = none := by
  unfold valueAt
  rw [List.find?_eq_none.mpr]
  · rfl
  · intro x hx c
    simp only [decide_eq_true_eq] at c
    exact h (c ▸ List.mem_map_of_mem hx)
theorem valueAt_some {kvs : List (Int × Value)} {k : Int} (h : k ∈ kvs.map (·.1)) : (valueAt kvs k).isSome = true := by
  unfold valueAt
  rw [Option.isSome_map, List.find?_isSome]
  obtain ⟨x, hx, e⟩ := List.mem_map.mp h
  exact ⟨x, hx, by simp [e]⟩
theorem stored_keys {kvs : List (Int × Value)} {k : Int} {v : Value} (h : k ∉ kvs.map (·.1)) : (stored kvs k v).map (·.1) = kvs.map (·.1) ++ [k] := by
  unfold stored
  rw [if_neg]
  · simp
  · simp only [List.any_eq_true, decide_eq_true_eq, not_exists, not_and]
    intro x hx e
    exact h (e ▸ List.mem_map_of_mem hx)
theorem without_keys {kvs : List (Int × Value)} {k : Int} : (without kvs k).map (·.1) = (kvs.map (·.1)).filter fun j => decide (j ≠ k) := by
  unfold without
  rw [List.filter_map]
  rfl
theorem filter_snoc {ks : List Int} {k : Int} (h : k ∉ ks) : (ks ++ [k]).filter (fun j => decide (j ≠ k)) = ks := by
  rw [List.filter_append]
  have : ks.filter (fun j => decide (j ≠ k)) = ks := List.filter_eq_self.mpr fun a ha => by
    simp only [ne_eq, decide_not, Bool.not_eq_eq_eq_not, Bool.not_true, decide_eq_false_iff_not]
    rintro rfl
    exact h ha
  rw [this]
  simp

section
variable {w : World} {A : Around} {E : Value → Shared → Prop} {s : Shared} {L : Addr} {g : Heap} {m : Str → Option Value}
theorem set_newR {Q : Value → Shared → Prop} (F : Fr g L s.heap m)
    (h : ∀ h' o, Fr g L h' m → Kept [] s.heap h' → h'.get? s.heap.objs.size = some o → o.SetObjOf (PySem.intKind prg w) (fun _ => false) 0 → Q (.ref s.heap.objs.size) { s with heap := h' }) :
    wpAny (model prg w) A (call (.type "set") []) Q E s :=
  call_set_0 fun led => h _ _ (F.push _) (Kept.push _ _) (Heap.get?_push_size _ rfl) (setObjOf_fresh (knd := PySem.intKind prg w) led)
theorem set_inR {N : Addr} {o : Obj} {S : Int → Bool} {n : Nat} {k : Int} {t : Tok} {Q : Value → Shared → Prop} (ho : s.heap.get? N = some o) (hs : o.SetObjOf (PySem.intKind prg w) S n) (hb : n < 1000) (h : Q (.bool (S k)) { s with toks := s.toks + 1 }) :
    wpAny (model prg w) A (compareOp .In (.int k t) (.ref N)) Q E s :=
  wpAny_inSet_of (intKind_is _ _ k t) rfl (hs.setOf ho (by unfold scanBound; lia)) h
theorem set_addmR {N : Addr} {o : Obj} {S : Int → Bool} {n : Nat} {pl : Sem Bool} {Q : Value × List Value → Shared → Prop} (ho : s.heap.get? N = some o) (hs : o.SetObjOf (PySem.intKind prg w) S n) (hb : n < 1000) (h : Q (.builtin "set.add", [.ref N]) s) :
    wpAny (model prg w) A (getMethod (.ref N) "add" pl) Q E s := getMethod_set_add (hs.setOf ho (by unfold scanBound; lia)) h
theorem set_addR {N : Addr} {o : Obj} {S : Int → Bool} {n : Nat} {k : Int} {t : Tok} {Q : Value → Shared → Prop} (ho : s.heap.get? N = some o) (hs : o.SetObjOf (PySem.intKind prg w) S n) (hb : n < 1000)
    (h : ∀ h' o', Kept [N] s.heap h' → h'.get? N = some o' → o'.SetObjOf (PySem.intKind prg w) (fun k' => S k' || decide (k' = k)) (if S k then n else n + 1) → Q .none { s with heap := h', toks := s.toks + 1 }) :
    wpAny (model prg w) A (call (.builtin "set.add") [.ref N, .int k t]) Q E s :=
  call_set_add (intKind_is _ _ k t) rfl (hs.setOf ho (by unfold scanBound; lia)) (by unfold scanBound; lia) fun h' hsb hS' =>
    let ⟨o', ho', hso'⟩ := hS'.objOf
    h h' o' (Kept.one hsb) ho' hso'
theorem dict_inR {d : Addr} {kvs : List (Int × Value)} {k : Int} {t : Tok} {Q : Value → Shared → Prop} (hd' : (d == sysModules) = false) (hm : s.heap.DictOf (PySem.intKind prg w) d kvs) (h : Q (.bool (valueAt kvs k).isSome) { s with toks := s.toks + 1 }) :
    wpAny (model prg w) A (compareOp .In (.int k t) (.ref d)) Q E s := wpAny_in_of (intKind_is _ _ k t) hd' hm.mapOf h
theorem dict_delR {d : Addr} {kvs : List (Int × Value)} {k : Int} {t : Tok} {Q : Unit → Shared → Prop} (hm : s.heap.DictOf (PySem.intKind prg w) d kvs) (hk : k ∈ kvs.map (·.1)) (hsz : kvs.length ≤ 1000)
    (h : ∀ h', Kept [d] s.heap h' → h'.DictOf (PySem.intKind prg w) d (without kvs k) → Q () { s with heap := h', toks := s.toks + 1 }) :
    wpAny (model prg w) A (delItem (.ref d) (.int k t)) Q E s :=
  wpAny_delItem_slot hm.typeIs (by decide) PySem.F.slot_dict_delitem (call_meetsIn PySem.F.slot_dict_delitem hm.typeIs PySem.F.entry_dict_delitem (PySem.F.args_dict_delitem_2 _ _) (meets_dict_delitem_pairs (PySem.intKind prg w) d (intKind_is _ _ k t))
    ⟨kvs, hm, by rw [sizeLine_eq]; lia, valueAt_some hk, fun h' hm' hs' => h h' (Kept.one hs') hm'⟩)
theorem list_popR {l : Addr} {vs : List Value} {y : Value} {n : Nat} {pos : Pos} {Q : Value → Shared → Prop} (hl : s.heap.get? l = some (listOf (vs ++ [y]).toArray n)) (hz : vs.length ≤ 1000)
    (h : ∀ h' n', Kept [l] s.heap h' → h'.get? l = some (listOf vs.toArray n') → Q y { s with heap := h' }) : wpAny (model prg w) A (callWith pos (.builtin "list.pop") [.ref l] [] []) Q E s := by
  refine PySem.P.pop_list (y := y) (n := n) hl ?_ ?_ (by rw [List.size_toArray, sizeLine_eq, List.length_append]; simp; lia)
  · simp
  · have e := Heap.get?_update_self (Obj.mapSeq fun xs => xs.eraseIdxIfInBounds ((vs ++ [y]).toArray.size - 1)) hl rfl
    have e2 : ∃ n', Obj.mapSeq (fun xs => xs.eraseIdxIfInBounds ((vs ++ [y]).toArray.size - 1)) (listOf (vs ++ [y]).toArray n) = listOf vs.toArray n' := by
      refine ⟨n + 1, ?_⟩
      unfold Obj.mapSeq W.listOf
      dsimp only
      rw [show (vs ++ [y]).toArray.eraseIdxIfInBounds ((vs ++ [y]).toArray.size - 1) = vs.toArray by
        have e3 : (vs ++ [y]).eraseIdx vs.length = vs := by rw [kl_eraseL vs [] y]; simp
        simp [Array.eraseIdxIfInBounds, e3]]
      rw [if_neg (by simp)]
    obtain ⟨n', e2⟩ := e2
    exact h _ n' (Kept.one (Heap.SameBut.update ..)) (e.trans (congrArg some e2))
theorem list_lastR {l : Addr} {vs : List Value} {y : Value} {n : Nat} {t : Tok} {value slice : Expr} {Q : Value → Shared → Prop} (hl : s.heap.get? l = some (listOf (vs ++ [y]).toArray n)) (h : Q y s)
    (hs : subscripted slice false (.ref l) (.int (-1) t) = operate [.ref l, .int (-1) t] (getItem (.ref l) (.int (-1) t)) := by with_unfolding_all rfl) :
    wpAny (model prg w) A (subscriptTail value slice (.ref l) (.int (-1) t)) Q E s := by
  have hi : s.heap.IsList l (vs ++ [y]).toArray := ⟨_, hl, rfl, _, rfl⟩
  refine tail_any hi.typeIs PySem.slot_list_getitem.lookup (wpAny_getItem_list_neg hi (by lia) (by simp; lia) (by decide) ?_ h) hs
  have : (-1 + (((vs ++ [y]).toArray.size : Nat) : Int)).toNat = vs.length := by simp; lia
  rw [this]
  simp

/-- a while, its word over all -/
theorem whileR {env : Env} {test : Expr} {body orelse : List Stmt} {pos : Pos} {Q : Flow → Shared → Prop} (I : Nat → Shared → Prop)
    (turn : ∀ n s, I n s → wpAny (model prg w) A (isTrue test env (eval test env)) (fun b s₂ =>
        if b then wpAny (model prg w) A (execs body env) (fun f s₃ => match f with
            | .next | .cont => ∃ m, m < n ∧ I m s₃
            | .brk => Q .next s₃
            | .ret v => Q (.ret v) s₃) (fun _ _ => False) s₂
        else wpAny (model prg w) A (execs orelse env) Q (fun _ _ => False) s₂) (fun _ _ => False) s)
    (n : Nat) (h : I n s) : wpAny (model prg w) A (exec (.While test body orelse pos) env) Q (fun _ _ => False) s := by
  refine wpAny_While (codeAny_whileLoop I (fun n s hI => wpAny_noRaise (wpAny_mono (turn n s hI) (fun b s₂ h₂ => ?_) fun _ _ x => x)) n h)
  cases b with
  | true =>
    simp only [if_true] at h₂ ⊢
    refine wpAny_noRaise (wpAny_mono h₂ (fun f s₃ h₃ => ?_) fun _ _ x => x)
    cases f <;> exact h₃
  | false =>
    simp only [Bool.false_eq_true, if_false] at h₂ ⊢
    exact wpAny_noRaise h₂
end
/-! the walk of `_find_cycle`: what lies in the heap -/
structure En where
  v : Int
  pos : Nat
  mw : Addr
  it : Addr

theorem tyne {a b : String} (h : a ≠ b) : Value.type a ≠ Value.type b := fun c => h (Value.type.inj c)

def fsFoot (S I N D IT : Addr) (st : List En) : List Addr := S :: I :: N :: D :: IT :: st.flatMap fun x => [x.mw, x.it]

structure Nm (q : So) (S I N D : Addr) (m : Str → Option Value) : Prop where
  n2i : m (Str.ofString "n2i") = some (.ref q.D)
  stack : m (Str.ofString "stack") = some (.ref S)
  itstack : m (Str.ofString "itstack") = some (.ref I)
  seen : m (Str.ofString "seen") = some (.ref N)
  node2 : m (Str.ofString "node2stacki") = some (.ref D)

/-- a list of ints at an address -/
inductive LsAt (h : Heap) (S : Addr) (ns : List Int) : Prop
  | mk (vs : List Value) (n : Nat) (e : h.get? S = some (listOf vs.toArray n)) (i : IntsAre vs ns) : LsAt h S ns
inductive SnAt (w : World) (q : So) (N : Addr) (h : Heap) (seen : Int → Bool) : Prop
  | mk (o : Obj) (n : Nat) (e : h.get? N = some o) (r : o.SetObjOf (PySem.intKind prg w) seen n) (b : n + wt (fun _ => 1) seen q.keys ≤ q.keys.length) : SnAt w q N h seen
inductive DcAt (w : World) (D : Addr) (h : Heap) (ks : List Int) : Prop
  | mk (kvs : List (Int × Value)) (e : h.DictOf (PySem.intKind prg w) D kvs) (k : kvs.map (·.1) = ks) : DcAt w D h ks
structure FS (w : World) (q : So) (r : Int → Nat) (L : Addr) (S I N D IT : Addr) (oIT : Obj) (h : Heap) (st : List En) (seen : Int → Bool) : Prop where
  stk : LsAt h S (st.map En.v)
  its : ∃ n, h.get? I = some (listOf (st.map fun x => Value.ref x.mw).toArray n)
  sn : SnAt w q N h seen
  dic : DcAt w D h (st.map En.v)
  ent : ∀ x ∈ st, h.get? x.mw = some (nextW x.it) ∧ h.get? x.it = some (liObj (q.il x.v) x.pos) ∧ x.v ∈ q.keys ∧ @LT.lt Nat _ L x.mw ∧ @LT.lt Nat _ L x.it
  itd : (st.map En.it).Nodup
  SI : S ≠ I
  lo : ∀ a ∈ [S, I, N, D, IT], @LT.lt Nat _ L a
  mods : (D == sysModules) = false
  itr : h.get? IT = some oIT
  itc : oIT.cls = .type "dict_keyiterator"
  pw : st.Pairwise fun a b => r a.v < r b.v
  sl : st.length + wt (fun _ => 1) seen q.keys ≤ q.keys.length

section
variable {w : World} {q : So} {r : Int → Nat} {L S I N D IT : Addr} {oIT : Obj} {h h' : Heap} {st : List En} {seen : Int → Bool}

theorem FS.kept {M : List Addr} (x : FS w q r L S I N D IT oIT h st seen) (K : Kept M h h') (hM : ∀ a ∈ M, a ∉ fsFoot S I N D IT st) : FS w q r L S I N D IT oIT h' st seen := by
  have nS : S ∉ M := fun c => hM _ c (.head _)
  have nI : I ∉ M := fun c => hM _ c (.tail _ (.head _))
  have nN : N ∉ M := fun c => hM _ c (.tail _ (.tail _ (.head _)))
  have nD : D ∉ M := fun c => hM _ c (.tail _ (.tail _ (.tail _ (.head _))))
  have nT : IT ∉ M := fun c => hM _ c (.tail _ (.tail _ (.tail _ (.tail _ (.head _)))))
  have nm : ∀ x ∈ st, x.mw ∉ M := fun x hx c => hM _ c (.tail _ (.tail _ (.tail _ (.tail _ (.tail _ (List.mem_flatMap.mpr ⟨x, hx, .head _⟩))))))
  have ni : ∀ x ∈ st, x.it ∉ M := fun x hx c => hM _ c (.tail _ (.tail _ (.tail _ (.tail _ (.tail _ (List.mem_flatMap.mpr ⟨x, hx, .tail _ (.head _)⟩))))))
  refine ⟨?_, ?_, ?_, ?_, ?_, x.itd, x.SI, x.lo, x.mods, K _ _ nT x.itr, x.itc, x.pw, x.sl⟩
  · obtain ⟨vs, n, a, b⟩ := x.stk; exact ⟨vs, n, K _ _ nS a, b⟩
  · obtain ⟨n, a⟩ := x.its; exact ⟨n, K _ _ nI a⟩
  · obtain ⟨o, n, a, b, c⟩ := x.sn; exact ⟨o, n, K _ _ nN a, b, c⟩
  · obtain ⟨kvs, a, b⟩ := x.dic; exact ⟨kvs, DictOf.kept K nD a, b⟩
  · intro y hy
    obtain ⟨a, b, c⟩ := x.ent y hy
    exact ⟨K _ _ (nm y hy) a, K _ _ (ni y hy) b, c⟩

theorem FS.gt (x : FS w q r L S I N D IT oIT h st seen) {a : Addr} (ha : a ∈ fsFoot S I N D IT st) : @LT.lt Nat _ L a := by
  simp only [fsFoot, List.mem_cons, List.mem_flatMap, List.not_mem_nil, or_false] at ha
  rcases ha with c | c | c | c | c | ⟨y, hy, c | c⟩
  · rw [c]; exact x.lo _ (.head _)
  · rw [c]; exact x.lo _ (.tail _ (.head _))
  · rw [c]; exact x.lo _ (.tail _ (.tail _ (.head _)))
  · rw [c]; exact x.lo _ (.tail _ (.tail _ (.tail _ (.head _))))
  · rw [c]; exact x.lo _ (.tail _ (.tail _ (.tail _ (.tail _ (.head _)))))
  · rw [c]; exact (x.ent y hy).2.2.2.1
  · rw [c]; exact (x.ent y hy).2.2.2.2
/-- the names' own store turns nothing of it -/
theorem FS.names (x : FS w q r L S I N D IT oIT h st seen) (K : Kept [L] h h') : FS w q r L S I N D IT oIT h' st seen :=
  x.kept K fun a ha hf => by
    have := mem1 ha
    subst this
    exact absurd (x.gt hf) (Nat.lt_irrefl _)

theorem FS.push {v : Int} {mw it : Addr} (x : FS w q r L S I N D IT oIT h st seen) (hsn : seen v = false) (hv : v ∈ q.keys) (hr : ∀ y ∈ st, r y.v < r v) (K : Kept [S, I, N, D] h h')
    (hS : LsAt h' S (st.map En.v ++ [v])) (hI : ∃ n, h'.get? I = some (listOf ((st.map fun x => Value.ref x.mw) ++ [Value.ref mw]).toArray n))
    (hN : ∃ o n, h'.get? N = some o ∧ o.SetObjOf (PySem.intKind prg w) (fun k => seen k || decide (k = v)) (n + 1) ∧ n + wt (fun _ => 1) seen q.keys ≤ q.keys.length)
    (hD : DcAt w D h' (st.map En.v ++ [v])) (hm : h'.get? mw = some (nextW it)) (hi : h'.get? it = some (liObj (q.il v) 0)) (nit : ∀ y ∈ st, y.it ≠ it) (lm : @LT.lt Nat _ L mw) (li : @LT.lt Nat _ L it) :
    FS w q r L S I N D IT oIT h' (st ++ [⟨v, 0, mw, it⟩]) (fun k => seen k || decide (k = v)) := by
  obtain ⟨vs0, n0, eS, _⟩ := x.stk
  obtain ⟨n1, eI⟩ := x.its
  obtain ⟨oN, nN, eN, ⟨⟨cN, _⟩, _⟩, _⟩ := x.sn
  obtain ⟨kv0, ⟨oD, _, _, eD, ⟨cD, _⟩, _⟩, _⟩ := x.dic
  have off : ∀ {b : Addr} {o : Obj}, h.get? b = some o → o.cls ≠ .type "list" → o.cls ≠ .type "set" → o.cls ≠ .type "dict" → b ∉ [S, I, N, D] := by
    intro b o e h1 h2 h3 c
    simp only [List.mem_cons, List.not_mem_nil, or_false] at c
    rcases c with c | c | c | c
    · rw [c, eS] at e; exact h1 (by rw [← Option.some.inj e])
    · rw [c, eI] at e; exact h1 (by rw [← Option.some.inj e])
    · rw [c, eN] at e; exact h2 (by rw [← Option.some.inj e]; exact cN)
    · rw [c, eD] at e; exact h3 (by rw [← Option.some.inj e]; exact cD)
  refine ⟨?_, ?_, ?_, ?_, ?_, ?_, x.SI, x.lo, x.mods, ?_, x.itc, ?_, by have := wt_lt (fun _ => 1) seen v hv hsn; have := x.sl; rw [List.length_append]; simp only [List.length_cons, List.length_nil]; lia⟩
  · obtain ⟨vs, n, a, b⟩ := hS
    exact ⟨vs, n, a, by simpa using b⟩
  · obtain ⟨n, a⟩ := hI
    exact ⟨n, by simpa using a⟩
  · obtain ⟨o, n, a, b, c⟩ := hN
    have := wt_lt (fun _ => 1) seen v hv hsn
    exact ⟨o, n + 1, a, b, by lia⟩
  · obtain ⟨kvs, a, b⟩ := hD
    exact ⟨kvs, a, by simpa using b⟩
  · intro y hy
    rcases List.mem_append.mp hy with hy | hy
    · obtain ⟨a, b, c⟩ := x.ent y hy
      exact ⟨K _ _ (off a (tyne (by decide)) (tyne (by decide)) (tyne (by decide))) a, K _ _ (off b (tyne (by decide)) (tyne (by decide)) (tyne (by decide))) b, c⟩
    · have := List.mem_singleton.mp hy
      subst this
      exact ⟨hm, hi, hv, lm, li⟩
  · rw [List.map_append, List.nodup_append]
    refine ⟨x.itd, by simp, ?_⟩
    intro a ha b hb
    obtain ⟨y, hy, rfl⟩ := List.mem_map.mp ha
    simp only [List.map_cons, List.map_nil, List.mem_cons, List.not_mem_nil, or_false] at hb
    subst hb
    exact nit y hy
  · exact K _ _ (off x.itr (by rw [x.itc]; exact tyne (by decide)) (by rw [x.itc]; exact tyne (by decide)) (by rw [x.itc]; exact tyne (by decide))) x.itr
  · rw [List.pairwise_append]
    refine ⟨x.pw, by simp, ?_⟩
    intro a ha b hb
    have := List.mem_singleton.mp hb
    subst this
    exact hr a ha

theorem FS.next {y : En} (x : FS w q r L S I N D IT oIT h (st ++ [y]) seen) (B : Heap.SameBut y.it h h') (e : h'.get? y.it = some (liObj (q.il y.v) (y.pos + 1))) :
    FS w q r L S I N D IT oIT h' (st ++ [{ y with pos := y.pos + 1 }]) seen := by
  have ey := x.ent y (by simp)
  have keep : ∀ b o, h.get? b = some o → b ≠ y.it → h'.get? b = some o := fun b o e n => (B.2 b n).trans e
  have nc : ∀ {b : Addr} {o : Obj}, h.get? b = some o → o.cls ≠ .type "list_iterator" → h'.get? b = some o := fun {b o} e n => keep b o e (neCls e ey.2.1 n)
  obtain ⟨vs0, n0, eS, iS⟩ := x.stk
  obtain ⟨n1, eI⟩ := x.its
  obtain ⟨oN, nN, eN, sN, bN⟩ := x.sn
  obtain ⟨kv0, ⟨oD, es, ep, eD, rD⟩, kD⟩ := x.dic
  refine ⟨⟨vs0, n0, nc eS (tyne (by decide)), by simpa using iS⟩, ⟨n1, by simpa using nc eI (tyne (by decide))⟩, ⟨oN, nN, nc eN (by rw [sN.1.1]; exact tyne (by decide)), sN, bN⟩, ⟨kv0, ⟨oD, es, ep, nc eD (by rw [rD.1.1]; exact tyne (by decide)), rD⟩, by simpa using kD⟩, ?_, by simpa using x.itd, x.SI, x.lo, x.mods, nc x.itr (by rw [x.itc]; exact tyne (by decide)), x.itc, ?_, by have := x.sl; simpa using this⟩
  · intro z hz
    rcases List.mem_append.mp hz with hz | hz
    · obtain ⟨a, b, c⟩ := x.ent z (List.mem_append_left _ hz)
      refine ⟨nc a (tyne (by decide)), keep _ _ b ?_, c⟩
      have := x.itd
      rw [List.map_append, List.nodup_append] at this
      exact this.2.2 _ (List.mem_map_of_mem hz) _ (by simp)
    · have := List.mem_singleton.mp hz
      subst this
      exact ⟨nc ey.1 (tyne (by decide)), e, ey.2.2⟩
  · have := x.pw
    rw [List.pairwise_append] at this ⊢
    refine ⟨this.1, by simp, ?_⟩
    intro a ha b hb
    have e := List.mem_singleton.mp hb
    subst e
    exact this.2.2 a ha y (by simp)

theorem FS.pop {y : En} (x : FS w q r L S I N D IT oIT h (st ++ [y]) seen) (K : ∀ b o, b ∈ fsFoot S I N D IT st → b ∉ [S, I, D] → b ≠ y.it → h.get? b = some o → h'.get? b = some o) (hS : LsAt h' S (st.map En.v)) (hI : ∃ n, h'.get? I = some (listOf (st.map fun x => Value.ref x.mw).toArray n))
    (hD : DcAt w D h' (st.map En.v)) : FS w q r L S I N D IT oIT h' st seen := by
  obtain ⟨vs0, n0, eS, _⟩ := x.stk
  obtain ⟨n1, eI⟩ := x.its
  obtain ⟨oN, nN, eN, sN, bN⟩ := x.sn
  obtain ⟨kv0, ⟨oD, _, _, eD, ⟨cD, _⟩, _⟩, _⟩ := x.dic
  have ey := (x.ent y (by simp)).2.1
  have off : ∀ {b : Addr} {o : Obj}, h.get? b = some o → o.cls ≠ .type "list" → o.cls ≠ .type "dict" → b ∉ [S, I, D] := by
    intro b o e h1 h3 c
    simp only [List.mem_cons, List.not_mem_nil, or_false] at c
    rcases c with c | c | c
    · rw [c, eS] at e; exact h1 (by rw [← Option.some.inj e])
    · rw [c, eI] at e; exact h1 (by rw [← Option.some.inj e])
    · rw [c, eD] at e; exact h3 (by rw [← Option.some.inj e]; exact cD)
  have fm : ∀ z ∈ st, z.mw ∈ fsFoot S I N D IT st ∧ z.it ∈ fsFoot S I N D IT st := fun z hz => ⟨.tail _ (.tail _ (.tail _ (.tail _ (.tail _ (List.mem_flatMap.mpr ⟨z, hz, .head _⟩))))), .tail _ (.tail _ (.tail _ (.tail _ (.tail _ (List.mem_flatMap.mpr ⟨z, hz, .tail _ (.head _)⟩)))))⟩
  have hitd := x.itd
  rw [List.map_append, List.nodup_append] at hitd
  refine ⟨hS, hI, ⟨oN, nN, K _ _ (by simp [fsFoot]) (off eN (by rw [sN.1.1]; exact tyne (by decide)) (by rw [sN.1.1]; exact tyne (by decide))) (neCls eN ey (by rw [sN.1.1]; exact tyne (by decide))) eN, sN, bN⟩, hD, ?_, hitd.1, x.SI, x.lo, x.mods, K _ _ (by simp [fsFoot]) (off x.itr (by rw [x.itc]; exact tyne (by decide)) (by rw [x.itc]; exact tyne (by decide))) (neCls x.itr ey (by rw [x.itc]; exact tyne (by decide))) x.itr, x.itc, ?_, by have := x.sl; simp at this; lia⟩
  · intro z hz
    obtain ⟨a, b, c⟩ := x.ent z (List.mem_append_left _ hz)
    exact ⟨K _ _ (fm z hz).1 (off a (tyne (by decide)) (tyne (by decide))) (neCls a ey (tyne (by decide))) a, K _ _ (fm z hz).2 (off b (tyne (by decide)) (tyne (by decide))) (hitd.2.2 _ (List.mem_map_of_mem hz) _ (by simp)) b, c⟩
  · have := x.pw
    rw [List.pairwise_append] at this
    exact this.1
end

/-- what the iterators on the stack have still to give -/
def rem (q : So) : List En → Nat
  | [] => 0
  | x :: st => ((q.succ x.v).length - x.pos) + rem q st
theorem rem_append (q : So) : ∀ a b : List En, rem q (a ++ b) = rem q a + rem q b
  | [], b => by simp [rem]
  | x :: a, b => by simp only [List.cons_append, rem, rem_append q a b]; lia
theorem boot_stop : bootBuiltins "StopIteration" = some (.type "StopIteration") := by decide +kernel
/-- surroundings with the frames told -/
abbrev AF (d u : Nat) (fs : List Env) : Around := { handled := none, depth := d, frames := some fs, guards := none, units := u }
theorem codeAny_AF {M : Model} {A : Around} {c : Code} {R : Result → Shared → Prop} {s : Shared} {d u : Nat} {fs : List Env}
    (hh : A.handled = none) (hd : A.depth ≤ d) (hu : A.units ≤ u) (hf : A.frames = some fs) (h : codeAny M (AF d u fs) c R s) : codeAny M A c R s :=
  fun Γ p hc hΓ => h Γ p hc ⟨hΓ.1.trans hh, Nat.le_trans hΓ.2.1 hd, (fun l e => hΓ.2.2.1 l (hf.trans e)), (fun _ e => nomatch e), Nat.le_trans hΓ.2.2.2.2 hu⟩
theorem rebase {h b g : Heap} : ∀ {l : List Env}, h.FunFrames b l → (∀ a ∈ frs l, g.get? a = none) → h.FunFrames g l
  | [], _, _ => trivial
  | env :: l, ⟨hk, ⟨L, o, hf, _, ho, hd⟩, hr⟩, hn => ⟨hk, ⟨L, o, hf, hn L (by unfold frs; rw [List.filterMap_cons, hf]; exact .head _), ho, hd⟩, rebase hr fun a ha => hn a (by unfold frs; rw [List.filterMap_cons, hf]; exact .tail _ ha)⟩

/-- a for over the keys of a dict that the base holds -/
theorem iterKeys {w : World} {A : Around} {E : Value → Shared → Prop} {s : Shared} {env : Env} {g : Heap} {x : Str} {px : Pos} {body : List Stmt} {Q : Flow → Shared → Prop} {d : Addr} {kvs : List (Int × Value)} {m : Str → Option Value}
    (J : Nat → (Str → Option Value) → Heap → Prop) (hh : A.handled = none) (hx : env.kindOf x = some .local) (hp : (env.scope.kind == .class || (env.scope.kind == .module && env.locals != env.globals)) = false)
    (hd' : (d == sysModules) = false) (hm : g.DictOf (PySem.intKind prg w) d kvs) (hgL : g.get? env.locals = none) (F : Fr g env.locals s.heap m) (h0 : ∀ h', Kept [] s.heap h' → J 0 m h')
    (turn : ∀ i k t m₁ h₁ h tk oI, (kvs.map (·.1))[i]? = some k → J i m₁ h₁ → Kept [env.locals, s.heap.objs.size] h₁ h → h.get? s.heap.objs.size = some oI → oI.cls = .type "dict_keyiterator" → Fr g env.locals h (fun y => if y = x then some (.int k t) else m₁ y) →
      wpAny (model prg w) A (execs body env) (TurnR g env.locals [s.heap.objs.size] (J (i + 1)) s h Q) E { s with heap := h, toks := tk })
    (done : ∀ m' h₁ h tk, J kvs.length m' h₁ → Kept [s.heap.objs.size] h₁ h → Fr g env.locals h m' → Q .next { s with heap := h, toks := tk })
    (hE : PassesOwn (model prg w) A env E) :
    wpAny (model prg w) A (pyIter (.ref d)) (fun it s₂ => codeAny (model prg w) A (.forLoop (.Name x px) it body [] env) (fun r s' => match r with | .ok f => Q f s' | .error e => cameBackBy (model prg w) A env E e s') s₂) E s := by
  obtain ⟨o, es, ep, ho, rd⟩ := hm
  have hs : s.heap.DictAt (PySem.intKind prg w) d kvs ep := ⟨o, es, F.keep _ _ ho, rd⟩
  have lt : @LT.lt Nat _ d s.heap.objs.size := Heap.lt_size (F.keep _ _ ho)
  have hdL : env.locals ≠ d := fun c => by rw [c, ho] at hgL; cases hgL
  refine wpAny_pyIter_dict hd' hs ?_
  have W := Walks.dictKeys (prog := prg) (w := w) (knd := PySem.intKind prg w) hh s.heap.objs.size d (Nat.ne_of_lt lt) kvs ep
  have F1 := F.push { cls := .type "dict_keyiterator", data := .fields #[.ref d, .int 0 0, .int kvs.length 0, .int ep 0] }
  refine loopR (s := { s with heap := s.heap.push _ }) J W hx hp ?_ ?_ ⟨⟨_, Heap.get?_push_size _ rfl, rfl, rfl⟩, hs.push _⟩ F1 (h0 _ (Kept.push _ _)) ?_ ?_ hE
  · simp only [List.mem_cons, List.not_mem_nil, or_false, not_or]
    exact ⟨Nat.ne_of_lt F.ns.lt, hdL⟩
  · intro b hb
    simp only [List.mem_cons, List.not_mem_nil, or_false] at hb
    subst hb
    exact Mine.Fr.high F (Nat.le_of_lt F.ns.lt)
  · intro i v m₁ h₁ h tk hlt hP hJ K hst Fh
    obtain ⟨k, y, ek, hkv⟩ := hP
    obtain ⟨t, ev⟩ := PySem.Value.isInt_shape hkv
    subst ev
    obtain ⟨⟨oI, hoI, hcI, _⟩, _⟩ := hst
    refine wpAny_mono (turn i k t m₁ h₁ h tk oI (by rw [List.getElem?_map, ek]; rfl) hJ K hoI hcI Fh) (fun f s' hf => ?_) fun _ _ x => x
    cases f with
    | next =>
      obtain ⟨h', tk', m', e, F', a, j⟩ := hf
      refine ⟨h', tk', m', e, F', fun b hb o' eb => ?_, j⟩
      rcases mem2 hb with c | c
      · exact a b (by rw [c]; exact .head _) _ eb
      · rw [c, Fh.keep _ _ ho] at eb
        rw [c, ← eb]
        exact F'.keep _ _ ho
    | cont =>
      obtain ⟨h', tk', m', e, F', a, j⟩ := hf
      refine ⟨h', tk', m', e, F', fun b hb o' eb => ?_, j⟩
      rcases mem2 hb with c | c
      · exact a b (by rw [c]; exact .head _) _ eb
      · rw [c, Fh.keep _ _ ho] at eb
        rw [c, ← eb]
        exact F'.keep _ _ ho
    | brk => exact hf
    | ret v => exact hf
  · intro m' h₁ h tk hJ K Fh
    exact done m' h₁ h tk hJ K Fh

def FB (w : World) (q : So) (S I N D : Addr) (h : Heap) : Prop :=
  (∃ n, h.get? S = some (listOf #[] n)) ∧ (∃ n, h.get? I = some (listOf #[] n)) ∧ (∃ seen, SnAt w q N h seen) ∧ h.DictOf (PySem.intKind prg w) D []
theorem wt_one (seen : Int → Bool) : ∀ ks : List Int, wt (fun _ => 1) seen ks ≤ ks.length
  | [] => Nat.le_refl _
  | k :: ks => by
    have := wt_one seen ks
    unfold wt
    rw [List.length_cons]
    split <;> lia

theorem sn_lt {n x k : Nat} (h : n + x ≤ k) (h' : k ≤ 90) : n < 1000 := Nat.lt_of_le_of_lt (Nat.le_trans (Nat.le_add_right _ _) h) (Nat.lt_of_le_of_lt h' (by decide))
theorem FS.fb {w : World} {q : So} {r : Int → Nat} {L S I N D IT : Addr} {oIT : Obj} {h : Heap} {seen : Int → Bool} (x : FS w q r L S I N D IT oIT h [] seen) : FB w q S I N D h := by
  obtain ⟨vs, n, eS, iS⟩ := x.stk
  obtain ⟨n1, eI⟩ := x.its
  obtain ⟨kvs, eD, kD⟩ := x.dic
  cases iS
  have : kvs = [] := List.map_eq_nil_iff.mp kD
  subst this
  exact ⟨⟨n, eS⟩, ⟨n1, eI⟩, ⟨seen, x.sn⟩, eD⟩

/-- the words of the walk: at the outer loop, behind the search, ahead of each turn -/
inductive FcJ (w : World) (s : Shared) (q : So) (outer : List Env) (S I N D : Addr) (i : Nat) (m : Str → Option Value) (h : Heap) : Prop
  | mk (nm : Nm q S I N D m) (sk : SK (frs outer) s.heap h) (fb : FB w q S I N D h) : FcJ w s q outer S I N D i m h
/-- what stands at each place: the frame, the names, the objects -/
structure FcK (w : World) (s : Shared) (g : Heap) (q : So) (r : Int → Nat) (outer : List Env) (S I N D IT : Addr) (oI : Obj) (st : List En) (seen : Int → Bool) (h : Heap) (m : Str → Option Value) : Prop where
  F : Fr g s.heap.objs.size h m
  nm : Nm q S I N D m
  x : FS w q r s.heap.objs.size S I N D IT oI h st seen
  sk : SK (frs outer) s.heap h
structure FcV (q : So) (r : Int → Nat) (m : Str → Option Value) (st : List En) (v : Int) (t : Tok) : Prop where
  en : m (Str.ofString "node") = some (.int v t)
  vin : v ∈ q.keys
  hrk : ∀ x ∈ st, r x.v < r v
def fcN (q : So) (st : List En) (seen : Int → Bool) : Nat := rem q st + wt (fun k => (q.succ k).length + 1) seen q.keys
abbrev FcT := List En → (Int → Bool) → Heap → (Str → Option Value) → Prop
inductive FcP (s : Shared) (K : FcT) (f : Flow) (s' : Shared) : Prop
  | mk (e : f = Flow.next) (h : Heap) (tk : Nat) (m : Str → Option Value) (seen : Int → Bool) (e' : s' = { s with heap := h, toks := tk }) (k : K [] seen h m) : FcP s K f s'
inductive FcW (s : Shared) (q : So) (r : Int → Nat) (K : FcT) (n : Nat) (s' : Shared) : Prop
  | mk (h : Heap) (tk : Nat) (m : Str → Option Value) (st : List En) (seen : Int → Bool) (v : Int) (t : Tok) (e' : s' = { s with heap := h, toks := tk }) (k : K st seen h m) (kv : FcV q r m st v t) (en : n = fcN q st seen) : FcW s q r K n s'
inductive FcQ (s : Shared) (q : So) (K : FcT) (B : Nat) (f : Flow) (s' : Shared) : Prop
  | mk (e : f = Flow.next) (h : Heap) (tk : Nat) (m : Str → Option Value) (st : List En) (seen : Int → Bool) (e' : s' = { s with heap := h, toks := tk }) (k : K st seen h m) (le : fcN q st seen ≤ B) : FcQ s q K B f s'
inductive FcU (s : Shared) (q : So) (r : Int → Nat) (K : FcT) (B : Nat) (sn : Int → Bool) (f : Flow) (s' : Shared) : Prop
  | inl (e : f = Flow.next) (h : Heap) (tk : Nat) (m : Str → Option Value) (st : List En) (v : Int) (t : Tok) (e' : s' = { s with heap := h, toks := tk }) (k : K st sn h m) (kv : FcV q r m st v t) (lt : fcN q st sn < B) : FcU s q r K B sn f s'
  | inr (e : f = Flow.brk) (h : Heap) (tk : Nat) (m : Str → Option Value) (e' : s' = { s with heap := h, toks := tk }) (k : K [] sn h m) : FcU s q r K B sn f s'
inductive FcI (s : Shared) (q : So) (K : FcT) (B : Nat) (sn : Int → Bool) (n : Nat) (s' : Shared) : Prop
  | mk (h : Heap) (tk : Nat) (m : Str → Option Value) (st : List En) (e' : s' = { s with heap := h, toks := tk }) (k : K st sn h m) (le : fcN q st sn ≤ B) (en : n = st.length) : FcI s q K B sn n s'

theorem fc_spec {w : World} {s : Shared} {mg mb : Str → Option Value} {h₀ : Heap} {q : So} {r : Int → Nat} {outer : List Env} {R : Result → Shared → Prop}
    (G : Gnd w mg mb h₀) (hk : ∀ b o, h₀.get? b = some o → s.heap.get? b = some o) (St : SoAt w q s.heap) (hff : s.heap.FunFrames h₀ outer) (hdis : ∀ a ∈ q.foot, a ∉ frs outer) (hlen : q.keys.length ≤ 90) (hsl : ∀ k ∈ q.keys, (q.succ k).length ≤ 1000)
    (hin : ∀ k ∈ q.keys, ∀ j ∈ q.succ k, j ∈ q.keys) (hr : ∀ k ∈ q.keys, ∀ j ∈ q.succ k, r k < r j)
    (hR : ∀ h' tk, SK (frs outer) s.heap h' → R (.ok (.ret .none)) { s with heap := h', toks := tk }) :
    codeAny (model prg w) (AF 460 460 outer) (.call (.ref 155) ⟨[.ref q.S], []⟩) R s := by
  refine enter (led := ledOf s.heap (frs outer)) G hk (fun p hp => ⟨(mem_ledOf hp).1, (hff.mem (mem_ledOf hp).2).1⟩) (by k_is) (by k_is) (show 460 < recursionLimit by decide) (BindsTo.of_eq rfl) (locs rfl) ?_
  intro g h₁ Gg kg ks F N0
  have X' := Gg.X
  have T' := Gg.T
  have hfg : s.heap.FunFrames g outer := rebase hff fun a ha => by
    obtain ⟨_, o, e, _⟩ := hff.mem ha
    exact (N0 _ (ledOf_addr ha e)).2.2
  have Stg : SoAt w q g := St.kept kg (fun a ha hf => hdis a hf (ledOf_sub ha))
  have Sg : ∀ {h : Heap} {m : Str → Option Value}, Fr g s.heap.objs.size h m → SoAt w q h := fun F => Stg.kept (M := []) (fun b o _ e => F.keep b o e) (List.forall_mem_nil _)
  have hgL : g.get? s.heap.objs.size = none := Mine.Fr.high F (Nat.le_refl _)
  have sk1 : SK (frs outer) s.heap h₁ := (SK.refl _ _).step ks (List.forall_mem_nil _)
  clear N0 ks
  dsimp only
  repeat walk_at "q"
  refine so_attr (v := .ref q.D) F X' (Sg F) (by k_is) (by k_is) (by k_is) (fun _ _ _ => rfl) rfl ?_
  repeat walk_at "q"
  rename_i h2 F2 K2
  refine newListR F2 ?_
  intro h3 F3 K3 l3
  repeat walk_at "q"
  rename_i h4 F4 K4
  refine newListR F4 ?_
  intro h5 F5 K5 l5
  repeat walk_at "q"
  rename_i h6 F6 K6
  refine callWith_type0 ?_
  refine set_newR F6 ?_
  intro h7 oN F7 K7 n7 sN7
  repeat walk_at "q"
  rename_i h8 F8 K8
  refine newDictR F8 T'.nolimit ?_
  intro h9 F9 K9 mD D9
  repeat walk_at "q"
  rename_i h10 F10 K10
  dsimp only at K3 l3 K5 l5 K7 n7 K9 mD D9
  -- the four objects
  have e2 : @LT.lt Nat _ s.heap.objs.size h2.objs.size := F2.ns.lt
  have e4 : @LT.lt Nat _ h2.objs.size h4.objs.size := Heap.lt_size (K4 _ _ (not1 (Nat.ne_of_gt e2)) l3)
  have e6 : @LT.lt Nat _ h4.objs.size h6.objs.size := Heap.lt_size (K6 _ _ (not1 (Nat.ne_of_gt (Nat.lt_trans e2 e4))) l5)
  have e8 : @LT.lt Nat _ h6.objs.size h8.objs.size := Heap.lt_size (K8 _ _ (not1 (Nat.ne_of_gt (Nat.lt_trans e2 (Nat.lt_trans e4 e6)))) n7)
  generalize eS : h2.objs.size = S at *
  generalize eIh : h4.objs.size = I at *
  generalize eN : h6.objs.size = N at *
  generalize eD : h8.objs.size = D at *
  have nS : S ≠ s.heap.objs.size := Nat.ne_of_gt e2
  have eI : @LT.lt Nat _ s.heap.objs.size I := Nat.lt_trans e2 e4
  have eN' : @LT.lt Nat _ s.heap.objs.size N := Nat.lt_trans eI e6
  have eD' : @LT.lt Nat _ s.heap.objs.size D := Nat.lt_trans eN' e8
  have nI : I ≠ s.heap.objs.size := Nat.ne_of_gt eI
  have nN : N ≠ s.heap.objs.size := Nat.ne_of_gt eN'
  have nD : D ≠ s.heap.objs.size := Nat.ne_of_gt eD'
  have S10 := K10 _ _ (not1 nS) (K9 _ _ List.not_mem_nil (K8 _ _ (not1 nS) (K7 _ _ List.not_mem_nil (K6 _ _ (not1 nS) (K5 _ _ List.not_mem_nil (K4 _ _ (not1 nS) l3))))))
  have I10 := K10 _ _ (not1 nI) (K9 _ _ List.not_mem_nil (K8 _ _ (not1 nI) (K7 _ _ List.not_mem_nil (K6 _ _ (not1 nI) l5))))
  have N10 := K10 _ _ (not1 nN) (K9 _ _ List.not_mem_nil (K8 _ _ (not1 nN) n7))
  have D10 := DictOf.kept K10 (not1 nD) D9
  have one : ∀ a ∈ [s.heap.objs.size], @LE.le Nat _ s.heap.objs.size a := fun a ha => by rw [mem1 ha]; exact Nat.le_refl _
  have sk10 : SK (frs outer) s.heap h10 := (((((((((sk1.step K2 one).step K3 (List.forall_mem_nil _)).step K4 one).step K5 (List.forall_mem_nil _)).step K6 one).step K7 (List.forall_mem_nil _)).step K8 one).step K9 (List.forall_mem_nil _)).step K10 one)
  clear F F2 F3 F4 F5 F6 F7 F8 F9 K2 K3 K4 K5 K6 K7 K8 K9 K10 l3 l5 n7 D9 sk1
  refine wpAny_For ?_
  repeat walk_at "q"
  have hkv : q.kvs.map (·.1) = q.keys := by
    unfold So.kvs
    rw [List.map_map]
    exact List.map_id _
  have eT : @LT.lt Nat _ D h10.objs.size := by obtain ⟨_, _, _, e, _⟩ := D10; exact Heap.lt_size e
  have eL : @LT.lt Nat _ s.heap.objs.size h10.objs.size := F10.ns.lt
  generalize eIT : h10.objs.size = IT at *
  have FBk : ∀ {M : List Addr} {h h' : Heap}, Kept M h h' → S ∉ M → I ∉ M → N ∉ M → D ∉ M → FB w q S I N D h → FB w q S I N D h' := by
    rintro M h h' K a b c d ⟨⟨n1, e1⟩, ⟨n2, e2⟩, ⟨sn, o, n3, e3, r3, b3⟩, e4⟩
    exact ⟨⟨n1, K _ _ a e1⟩, ⟨n2, K _ _ b e2⟩, ⟨sn, o, n3, K _ _ c e3, r3, b3⟩, DictOf.kept K d e4⟩
  refine iterKeys (FcJ w s q outer S I N D) rfl rfl rfl Stg.mods Stg.dic hgL F10 ?start ?turn ?done PassesOwn.never
  case start =>
    intro h' K'
    dsimp only at K'
    refine ⟨⟨rfl, rfl, rfl, rfl, rfl⟩, sk10.step K' (List.forall_mem_nil _), FBk K' List.not_mem_nil List.not_mem_nil List.not_mem_nil List.not_mem_nil ⟨⟨0, S10⟩, ⟨0, I10⟩, ⟨_, oN, 0, N10, sN7, ?_⟩, D10⟩⟩
    rw [Nat.zero_add]
    exact wt_one _ _
  case done =>
    rintro m' h11 h12 tk ⟨nm, sk, fb⟩ K12 F12
    dsimp only at K12 ⊢
    repeat walk_at "q"
    exact hR h12 _ (sk.step K12 (fun a ha => by rw [mem1 ha, eIT]; exact Nat.le_of_lt eL))
  case turn =>
    rintro i k t m5 h11 h12 tk12 oI hki ⟨nm, sk, fb⟩ K12 hI12 cI F12
    dsimp only at K12 hI12 F12 ⊢
    rw [eIT] at K12 hI12 ⊢
    rw [hkv] at hki
    have kin : k ∈ q.keys := List.mem_of_getElem? hki
    have fb12 := FBk K12 (not2 nS (Nat.ne_of_lt (Nat.lt_trans e4 (Nat.lt_trans e6 (Nat.lt_trans e8 eT))))) (not2 nI (Nat.ne_of_lt (Nat.lt_trans e6 (Nat.lt_trans e8 eT)))) (not2 nN (Nat.ne_of_lt (Nat.lt_trans e8 eT))) (not2 nD (Nat.ne_of_lt eT)) fb
    have sk12 : SK (frs outer) s.heap h12 := sk.step K12 (fun a ha => by
      rcases mem2 ha with c | c
      · rw [c]; exact Nat.le_refl _
      · rw [c]; exact Nat.le_of_lt eL)
    have lo : ∀ a ∈ [S, I, N, D, IT], @LT.lt Nat _ s.heap.objs.size a := by
      intro a ha
      simp only [List.mem_cons, List.not_mem_nil, or_false] at ha
      rcases ha with c | c | c | c | c
      · rw [c]; exact e2
      · rw [c]; exact eI
      · rw [c]; exact eN'
      · rw [c]; exact eD'
      · rw [c]; exact eL
    have x12 : ∃ seen, FS w q r s.heap.objs.size S I N D IT oI h12 [] seen := by
      obtain ⟨⟨n1, f1⟩, ⟨n2, f2⟩, ⟨sn, sa⟩, f4⟩ := fb12
      exact ⟨sn, ⟨[], n1, f1, .nil⟩, ⟨n2, f2⟩, sa, ⟨[], f4, rfl⟩, List.forall_mem_nil _, by simp, Nat.ne_of_lt e4, lo, mD, hI12, cI, .nil, by rw [List.length_nil, Nat.zero_add]; exact wt_one _ _⟩
    obtain ⟨seen, x12⟩ := x12
    have nm12 : Nm q S I N D (fun y => if y = Str.ofString "node" then some (.int k t) else m5 y) := ⟨nm.n2i, nm.stack, nm.itstack, nm.seen, nm.node2⟩
    clear nm sk fb fb12 K12
    obtain ⟨oS, nSn, eSn, sSn, bSn⟩ := x12.sn
    walk_at "q"
    refine wpAny_If ?_
    walk_at "q"
    walk_at "q"
    refine ld F12 nm12.seen ?_
    refine set_inR eSn sSn (sn_lt bSn hlen) ?_
    walk_at "q"
    by_cases hs : seen k = true
    · refine (if_pos hs).mpr ?_
      repeat walk_at "q"
      exact ⟨h12, _, _, rfl, F12, (fun b hb o e => e), nm12, sk12, x12.fb⟩
    · refine (if_neg hs).mpr ?_
      repeat walk_at "q"
      obtain ⟨K, hK⟩ : ∃ K : FcT, ∀ st seen h m, K st seen h m ↔ FcK w s g q r outer S I N D IT oI st seen h m := ⟨_, fun _ _ _ _ => Iff.rfl⟩
      refine wpAny_mono (Q := FcP s K) (E := fun _ _ => False)
        (whileR (FcW s q r K) ?wturn _
          ⟨h12, _, _, [], seen, k, t, rfl, (hK _ _ _ _).mpr ⟨F12, nm12, x12, sk12⟩, ⟨rfl, kin, List.forall_mem_nil _⟩, rfl⟩) ?wrest (fun _ _ x => x)
      case wrest =>
        rintro f s' ⟨rfl, h, tk, m, sn, rfl, kk⟩
        replace kk := (hK _ _ _ _).mp kk
        have F := kk.F
        have nm := kk.nm
        have x := kk.x
        have sk := kk.sk
        repeat walk_at "q"
        refine ⟨h, _, m, rfl, F, fun b hb o e => ?_, nm, sk, x.fb⟩
        have := mem1 hb
        subst this
        rw [hI12] at e
        cases e
        exact x.itr
      case wturn =>
        clear hs bSn sSn eSn x12 F12 nm12 sk12
        rintro n s' ⟨h, tk, m, st, seen, v, t, rfl, kk, kv, rfl⟩
        generalize eB : fcN q st seen = B
        replace kk := (hK _ _ _ _).mp kk
        have F := kk.F
        have nm := kk.nm
        have x := kk.x
        have sk := kk.sk
        have en := kv.en
        have vin := kv.vin
        have hrk := kv.hrk
        clear kk kv
        refine isTrue_plain ?_
        repeat walk_at "q"
        refine wpAny_mono (Q := FcQ s q K B) (E := fun _ _ => False) ?push ?inner (fun _ _ x => x)
        case push =>
          refine wpAny_If ?_
          walk_at "q"
          refine ld F en ?_
          refine ld F nm.seen ?_
          obtain ⟨oS, nSn, eSn, sSn, bSn⟩ := x.sn
          refine set_inR eSn sSn (sn_lt bSn hlen) ?_
          walk_at "q"
          by_cases hs : seen v = true
          · refine (if_pos hs).mpr ?_
            walk_at "q"
            refine wpAny_If ?_
            walk_at "q"
            refine ld F en ?_
            refine ld F nm.node2 ?_
            obtain ⟨kvs, eD', kD⟩ := x.dic
            refine dict_inR x.mods eD' ?_
            rw [valueAt_none (by
              rw [kD]
              intro c
              obtain ⟨y, hy, e⟩ := List.mem_map.mp c
              have := hrk y hy
              rw [e] at this
              exact absurd this (Nat.lt_irrefl _))]
            walk_at "q"
            refine (if_neg (by simp)).mpr ?_
            repeat walk_at "q"
            exact ⟨rfl, h, _, m, st, seen, rfl, (hK _ _ _ _).mpr ⟨F, nm, x, sk⟩, Nat.le_of_eq eB⟩
          · refine (if_neg hs).mpr ?_
            have a1 := nm.n2i
            have a2 := nm.stack
            have a3 := nm.itstack
            have a4 := nm.seen
            have a5 := nm.node2
            have hsf : seen v = false := by simpa using hs
            have hLh : @LT.lt Nat _ s.heap.objs.size h.objs.size := F.ns.lt
            obtain ⟨vS, kS, eSt, iSt⟩ := x.stk
            obtain ⟨kI, eIt⟩ := x.its
            obtain ⟨kvs, eDi, kD⟩ := x.dic
            have cN := sSn.1.1
            have cD : ∃ oD, h.get? D = some oD ∧ oD.cls = .type "dict" := by obtain ⟨oD, _, _, e, c, _⟩ := eDi; exact ⟨oD, e, c.1⟩
            obtain ⟨oD, eDo, cD⟩ := cD
            have hSN : S ≠ N := neCls eSt eSn (by rw [cN]; exact tyne (by decide))
            have hIN : I ≠ N := neCls eIt eSn (by rw [cN]; exact tyne (by decide))
            have hDN : D ≠ N := neCls eDo eSn (by rw [cN, cD]; exact tyne (by decide))
            have hSD : S ≠ D := neCls eSt eDo (by rw [cD]; exact tyne (by decide))
            have hID : I ≠ D := neCls eIt eDo (by rw [cD]; exact tyne (by decide))
            have frm : ∀ {h h' : Heap} {b : Addr}, Fr g s.heap.objs.size h m → @LT.lt Nat _ s.heap.objs.size b → Kept [b] h h' → Fr g s.heap.objs.size h' m := fun F hb K =>
              Mine.Fr.behind F (M := [_]) (none1 (Mine.Fr.high F (Nat.le_of_lt hb))) (not1 (Nat.ne_of_lt hb)) K
            have gS := x.lo S (.head _)
            have gI := x.lo I (.tail _ (.head _))
            have gN := x.lo N (.tail _ (.tail _ (.head _)))
            have gD := x.lo D (.tail _ (.tail _ (.tail _ (.head _))))
            walk_at "q"
            walk_at "q"
            walk_at "q"
            walk_at "q"
            refine set_addmR eSn sSn (sn_lt bSn hlen) ?_
            repeat walk_at "q"
            refine set_addR eSn sSn (sn_lt bSn hlen) ?_
            intro h2 o2 K2 e2 s2
            dsimp only at K2
            rw [hsf, if_neg (by decide)] at s2
            have F2 := frm F gN K2
            repeat walk_at "q"
            have I2 := K2 _ _ (not1 hIN) eIt
            refine getMethod_builtin ⟨_, I2, rfl⟩ PySem.F.plainAttrs_list PySem.F.slot_list_append PySem.F.type_list_append (fun a e => by cases e; exact ⟨_, I2, rfl⟩) ?_
            repeat walk_at "q"
            refine Attribute_any_ ?_
            repeat walk_at "q"
            refine Attribute_any_ ?_
            repeat walk_at "q"
            refine so_item (Sg F2) vin ?_ (by with_unfolding_all rfl)
            refine info_succ F2 X' (Sg F2) vin ?_
            repeat walk_at "q"
            obtain ⟨vl, nl, el, il⟩ := (Sg F2).lst v vin
            refine li_iter el ?_
            dsimp only
            have F3 := F2.push (liObj (q.il v) 0)
            have K3 := Kept.push h2 (liObj (q.il v) 0)
            have i3 : (h2.push (liObj (q.il v) 0)).get? h2.objs.size = some (liObj (q.il v) 0) := Heap.get?_push_size _ rfl
            have lL2 : @LT.lt Nat _ s.heap.objs.size h2.objs.size := F2.ns.lt
            have old2 : ∀ {b : Addr} {o : Obj}, h.get? b = some o → b ≠ N → @LT.lt Nat _ b h2.objs.size := fun e n => Heap.lt_size (K2 _ _ (not1 n) e)
            have lt3 : @LT.lt Nat _ h2.objs.size (h2.push (liObj (q.il v) 0)).objs.size := Heap.lt_size i3
            generalize h2.push (liObj (q.il v) 0) = h3 at *
            refine li_attr i3 ?_
            dsimp only
            have F4 := F3.push (nextW h2.objs.size)
            have K4 := Kept.push h3 (nextW h2.objs.size)
            have m4 : (h3.push (nextW h2.objs.size)).get? h3.objs.size = some (nextW h2.objs.size) := Heap.get?_push_size _ rfl
            have i4 := K4 _ _ List.not_mem_nil i3
            generalize h3.push (nextW h2.objs.size) = h4 at *
            generalize eit : h2.objs.size = it at *
            generalize emw : h3.objs.size = mw at *
            have I4 := K4 _ _ List.not_mem_nil (K3 _ _ List.not_mem_nil I2)
            repeat walk_at "q"
            have lst : st.length ≤ 90 := by have := x.sl; lia
            refine append_at I4 ?_ (by rw [List.size_toArray, sizeLine_eq, List.length_map]; lia)
            intro h5 B5 I5
            dsimp only at B5
            rw [List.push_toArray] at I5
            have K5 := Kept.one B5
            have F5 := frm F4 gI K5
            repeat walk_at "q"
            have S5 := K5 _ _ (not1 x.SI) (K4 _ _ List.not_mem_nil (K3 _ _ List.not_mem_nil (K2 _ _ (not1 hSN) eSt)))
            have D5 := DictOf.kept K5 (not1 (Ne.symm hID)) (DictOf.kept K4 List.not_mem_nil (DictOf.kept K3 List.not_mem_nil (DictOf.kept K2 (not1 hDN) eDi)))
            have lvS : vS.length = st.length := by rw [iSt.length, List.length_map]
            have lkv : kvs.length = st.length := by have := congrArg List.length kD; simpa using this
            refine len_list ⟨_, S5, rfl, _, rfl⟩ (by rw [List.size_toArray]; lia) ?_
            repeat walk_at "q"
            refine wpAny_setItem_pairs (intKind_is _ _ v t) D5 ?_ (by rw [sizeLine_eq]; lia)
            intro h6 D6 B6
            dsimp only at B6
            have K6 := Kept.one B6
            have F6 := frm F5 gD K6
            have S6 := K6 _ _ (not1 hSD) S5
            repeat walk_at "q"
            refine getMethod_builtin ⟨_, S6, rfl⟩ PySem.F.plainAttrs_list PySem.F.slot_list_append PySem.F.type_list_append (fun a e => by cases e; exact ⟨_, S6, rfl⟩) ?_
            repeat walk_at "q"
            refine append_at S6 ?_ (by rw [List.size_toArray, sizeLine_eq]; lia)
            intro h7 B7 S7
            dsimp only at B7
            rw [List.push_toArray] at S7
            have K7 := Kept.one B7
            have F7 := frm F6 gS K7
            repeat walk_at "q"
            have nk : v ∉ kvs.map (·.1) := by
              rw [kD]
              intro c
              obtain ⟨y, hy, e⟩ := List.mem_map.mp c
              have := hrk y hy
              rw [e] at this
              exact absurd this (Nat.lt_irrefl _)
            have hwt := wt_lt (fun k => (q.succ k).length + 1) seen v vin hsf
            have ltm : @LT.lt Nat _ I mw := emw ▸ Heap.lt_size (K3 _ _ List.not_mem_nil I2)
            have lti : @LT.lt Nat _ I it := eit ▸ Heap.lt_size I2
            have ltmS : @LT.lt Nat _ S it := eit ▸ old2 eSt hSN
            have ltmD : @LT.lt Nat _ D it := eit ▸ old2 eDo hDN
            have nmw : ∀ {b : Addr}, b = I ∨ b = S ∨ b = D → mw ≠ b ∧ it ≠ b := by
              rintro b (rfl | rfl | rfl)
              · exact ⟨Nat.ne_of_gt ltm, Nat.ne_of_gt lti⟩
              · exact ⟨neN (by lia), Nat.ne_of_gt ltmS⟩
              · exact ⟨neN (by lia), Nat.ne_of_gt ltmD⟩
            have up : ∀ {b : Addr} {o : Obj}, b ∉ [S, I, N, D] → h.get? b = some o → h7.get? b = some o := by
              intro b o hb e
              simp only [List.mem_cons, List.not_mem_nil, or_false, not_or] at hb
              exact K7 _ _ (not1 hb.1) (K6 _ _ (not1 hb.2.2.2) (K5 _ _ (not1 hb.2.1) (K4 _ _ List.not_mem_nil (K3 _ _ List.not_mem_nil (K2 _ _ (not1 hb.2.2.1) e)))))
            refine ⟨rfl, h7, _, m, st ++ [⟨v, 0, mw, it⟩], _, rfl, (hK _ _ _ _).mpr ⟨F7, nm, x.push hsf vin hrk (fun b o hb e => up hb e) ⟨_, _, S7, IntsAre.append iSt (.cons v t .nil)⟩ ⟨_, K7 _ _ (not1 (Ne.symm x.SI)) (K6 _ _ (not1 hID) I5)⟩
              ⟨o2, nSn, K7 _ _ (not1 (Ne.symm hSN)) (K6 _ _ (not1 (Ne.symm hDN)) (K5 _ _ (not1 (Ne.symm hIN)) (K4 _ _ List.not_mem_nil (K3 _ _ List.not_mem_nil e2)))), s2, bSn⟩
              ⟨_, DictOf.kept K7 (not1 (Ne.symm hSD)) D6, by rw [stored_keys nk, kD]⟩ (K7 _ _ (not1 (nmw (.inr (.inl rfl))).1) (K6 _ _ (not1 (nmw (.inr (.inr rfl))).1) (K5 _ _ (not1 (nmw (.inl rfl)).1) m4)))
              (K7 _ _ (not1 (nmw (.inr (.inl rfl))).2) (K6 _ _ (not1 (nmw (.inr (.inr rfl))).2) (K5 _ _ (not1 (nmw (.inl rfl)).2) i4))) ?_ (by show @LT.lt Nat _ _ _; lia) (by show @LT.lt Nat _ _ _; lia), ?_⟩, ?_⟩
            · intro y hy
              have e := (x.ent y hy).2.1
              have : @LT.lt Nat _ y.it it := eit ▸ old2 e (neCls e eSn (by rw [cN]; exact tyne (by decide)))
              exact Nat.ne_of_lt this
            · exact ((((((sk.step K2 (all1 (Nat.le_of_lt gN))).step K3 (List.forall_mem_nil _)).step K4 (List.forall_mem_nil _)).step K5 (all1 (Nat.le_of_lt gI))).step K6 (all1 (Nat.le_of_lt gD))).step K7 (all1 (Nat.le_of_lt gS)))
            · unfold fcN at eB ⊢
              rw [rem_append]
              simp only [rem]
              lia
        case inner =>
          rintro f s' ⟨rfl, h2, tk2, m2, st2, sn2, rfl, k2, hle⟩
          clear x F nm en vin hrk sk eB
          dsimp only
          walk_at "q"
          refine wpAny_mono (Q := FcU s q r K B sn2) (E := fun _ _ => False)
            (whileR (FcI s q K B sn2) ?iturn _
              ⟨h2, _, m2, st2, rfl, k2, hle, rfl⟩) ?irest (fun _ _ x => x)
          case irest =>
            rintro f s' (⟨rfl, h, tk, m, st, v, t, rfl, kk, kv, hlt⟩ | ⟨rfl, h, tk, m, rfl, kk⟩)
            · repeat walk_at "q"
              exact ⟨_, hlt, h, tk, m, st, sn2, v, t, rfl, kk, kv, rfl⟩
            · exact ⟨rfl, h, tk, m, sn2, rfl, kk⟩
          case iturn =>
            clear k2 hle
            rintro n s' ⟨h, tk, m, st, rfl, kk, hle, rfl⟩
            replace kk := (hK _ _ _ _).mp kk
            have F := kk.F
            have nm := kk.nm
            have x := kk.x
            have sk := kk.sk
            clear kk
            have a1 := nm.n2i
            have a2 := nm.stack
            have a3 := nm.itstack
            have a5 := nm.node2
            obtain ⟨vS, kS, eSt, iSt⟩ := x.stk
            have lvS : vS.length = st.length := by rw [iSt.length, List.length_map]
            have lst : st.length ≤ 90 := by have := x.sl; lia
            refine isTrue_plain ?_
            walk_at "q"
            refine wpAny_truthy_list ⟨_, eSt, rfl, _, rfl⟩ (by rw [List.size_toArray]; lia) ?_
            dsimp only
            rcases List.eq_nil_or_concat st with rfl | ⟨st, y, rfl⟩
            · cases iSt
              refine (if_neg (by simp)).mpr ?_
              repeat walk_at "q"
              exact .inr rfl h _ m rfl ((hK _ _ _ _).mpr ⟨F, nm, x, sk⟩)
            · rw [List.concat_eq_append] at *
              refine (if_pos (by cases vS with | nil => simp at lvS | cons a b => rfl)).mpr ?_
              walk_at "q"
              refine wpAny_Try_except ?_
              obtain ⟨kI, eIt⟩ := x.its
              rw [List.map_append, List.map_cons, List.map_nil] at eIt iSt
              have xe := x.ent y (List.mem_append_right _ (.head _))
              have eM := xe.1
              have eT' := xe.2.1
              have yin := xe.2.2.1
              have gT := xe.2.2.2.2
              obtain ⟨vl, nl, el, il⟩ := (Sg F).lst y.v yin
              have lvl : vl.length = (q.succ y.v).length := il.length
              have lin : @LT.lt Nat _ s.heap.objs.size y.it := gT
              repeat walk_at "q"
              refine UnaryOp_ ?_
              repeat walk_at "q"
              refine neg_int ?_
              refine list_lastR eIt ?_ (by with_unfolding_all rfl)
              refine li_callWith eM ?_
              by_cases hpos : y.pos < (q.succ y.v).length
              · obtain ⟨z, hz⟩ : ∃ z, vl[y.pos]? = some z := ⟨vl[y.pos]'(by lia), List.getElem?_eq_getElem _⟩
                obtain ⟨v, t, ev, rfl⟩ := ints_at il hz
                have vsu : v ∈ q.succ y.v := List.mem_of_getElem? ev
                refine li_call_item eM eT' el (by simpa using hz) ?_
                intro h3 B3 e3
                dsimp only at B3
                have x3 := x.next B3 e3
                have F3 := Mine.Fr.behind F (M := [y.it]) (none1 (Mine.Fr.high F (Nat.le_of_lt lin))) (not1 (Nat.ne_of_lt lin)) (Kept.one B3)
                walk_at "q"
                rename_i h4 F4 K4
                repeat walk_at "q"
                refine .inl rfl h4 _ _ _ v t rfl ((hK _ _ _ _).mpr ⟨F4, ⟨nm.n2i, nm.stack, nm.itstack, nm.seen, nm.node2⟩, x3.names K4, (sk.step (Kept.one B3) (all1 (Nat.le_of_lt lin))).step K4 one⟩) ⟨rfl, hin _ yin _ vsu, ?_⟩ ?_
                · intro a ha
                  have hyv := hr _ yin _ vsu
                  rcases List.mem_append.mp ha with ha | ha
                  · have := x.pw
                    rw [List.pairwise_append] at this
                    exact Nat.lt_trans (this.2.2 a ha y (by simp)) hyv
                  · rw [List.mem_singleton.mp ha]
                    exact hyv
                · unfold fcN at hle ⊢
                  rw [rem_append] at hle ⊢
                  simp only [rem] at hle ⊢
                  lia
              · refine li_call_end rfl eM eT' el (by simp; lia) ?_
                intro h3 e oe vs K3 en3 e3 c3 d3 f3
                dsimp only at K3 en3
                have F3 := Mine.Fr.behind F (M := [y.it]) (none1 (Mine.Fr.high F (Nat.le_of_lt lin))) (not1 (Nat.ne_of_lt lin)) K3
                have sk3 : SK (frs outer) s.heap h3 := sk.step K3 (all1 (Nat.le_of_lt lin))
                have heL : @LE.le Nat _ s.heap.objs.size e := Nat.le_trans (Nat.le_of_lt F.ns.lt) en3
                refine tryEnd F3 rfl (show ScopeKind.function ≠ ScopeKind.module by decide) rfl hgL (sk3.frames hfg) e3 (Mine.Fr.high F3 heL) c3 d3 f3 ?ev ?_
                case ev =>
                  intro s' A' E' Q' Fx hQ
                  exact nameX_B Fx X' T' (by k_is) boot_stop (by decide) hQ
                intro h5 F5 ff5 K5 sl5
                dsimp only at K5 sl5
                have hfrL : ∀ (env : Env) b, env.frame = some s.heap.objs.size → @LT.lt Nat _ s.heap.objs.size b → b ∉ frs (env :: outer) := by
                  intro env b hf hb c
                  unfold frs at c
                  rw [List.filterMap_cons, hf] at c
                  rcases List.mem_cons.mp c with c | c
                  · exact absurd c (Nat.ne_of_gt hb)
                  · obtain ⟨_, o, e, _⟩ := hfg.mem c
                    exact absurd (Heap.lt_size e) (Nat.not_lt.mpr (Nat.le_of_lt hb))
                have hfsub : ∀ (env : Env) b, env.frame = some s.heap.objs.size → b ∈ frs (env :: outer) → b ∈ frs outer ∨ @LE.le Nat _ s.heap.objs.size b := by
                  intro env b hf c
                  unfold frs at c
                  rw [List.filterMap_cons, hf] at c
                  rcases List.mem_cons.mp c with c | c
                  · exact .inr (Nat.le_of_eq c.symm)
                  · exact .inl c
                have up5 : ∀ {b : Addr} {o : Obj}, @LT.lt Nat _ s.heap.objs.size b → h.get? b = some o → b ≠ y.it → h5.get? b = some o := fun {b o} hb e n =>
                  K5 b o (hfrL _ b rfl hb) (fun c => absurd (Heap.lt_size e) (Nat.not_lt.mpr (c ▸ en3))) (K3 _ _ (not1 n) e)
                have sk5 : SK (frs outer) s.heap h5 := sk3.slots (M := e :: frs (_ :: outer)) (fun b o hb q => by
                    simp only [List.mem_cons, not_or] at hb
                    exact K5 b o hb.2 hb.1 q) (fun b o hb q => sl5 b o (fun c => absurd hb (Nat.not_lt.mpr (c ▸ heL))) q) (fun a ha => by
                    rcases List.mem_cons.mp ha with c | ha
                    · exact .inr (by rw [c]; exact heL)
                    · exact hfsub _ a rfl ha)
                have gS := x.lo S (.head _)
                have gI := x.lo I (.tail _ (.head _))
                have gD := x.lo D (.tail _ (.tail _ (.tail _ (.head _))))
                obtain ⟨kvs, eDi, kD⟩ := x.dic
                have cD : ∃ oD, h.get? D = some oD ∧ oD.cls = .type "dict" := by obtain ⟨oD, _, _, e, c, _⟩ := eDi; exact ⟨oD, e, c.1⟩
                obtain ⟨oD, eDo, cD⟩ := cD
                have hSD : S ≠ D := neCls eSt eDo (by rw [cD]; exact tyne (by decide))
                have hID : I ≠ D := neCls eIt eDo (by rw [cD]; exact tyne (by decide))
                have S5 := up5 gS eSt (neCls eSt eT' (tyne (by decide)))
                have I5 := up5 gI eIt (neCls eIt eT' (tyne (by decide)))
                have D5 : h5.DictOf (PySem.intKind prg w) D kvs := by
                  obtain ⟨o, es, ep, e, rr⟩ := eDi
                  exact ⟨o, es, ep, up5 gD e (neCls e eT' (by rw [rr.1.1]; exact tyne (by decide))), rr⟩
                have frm : ∀ {h h' : Heap} {b : Addr}, Fr g s.heap.objs.size h m → @LT.lt Nat _ s.heap.objs.size b → Kept [b] h h' → Fr g s.heap.objs.size h' m := fun F hb K =>
                  Mine.Fr.behind F (M := [_]) (none1 (Mine.Fr.high F (Nat.le_of_lt hb))) (not1 (Nat.ne_of_lt hb)) K
                obtain ⟨wS, tS, rfl, jS⟩ := ints_snoc iSt
                have lwS : wS.length = st.length := by rw [jS.length, List.length_map]
                have lkv : kvs.length = st.length + 1 := by have := congrArg List.length kD; simpa using this
                rw [List.map_append, List.map_cons, List.map_nil] at kD
                have ynd : y.v ∉ st.map En.v := by
                  intro c
                  obtain ⟨z, hz, ez⟩ := List.mem_map.mp c
                  have := x.pw
                  rw [List.pairwise_append] at this
                  have := this.2.2 z hz y (by simp)
                  rw [ez] at this
                  exact absurd this (Nat.lt_irrefl _)
                have lst' : st.length ≤ 90 := by rw [List.length_append] at lst; lia
                walk_at "q"
                refine wpAny_Delete (wpAny_deleteEach_cons (delete_Subscript ?_))
                repeat walk_at "q"
                refine getMethod_builtin ⟨_, S5, rfl⟩ PySem.F.plainAttrs_list PySem.F.slot_list_pop PySem.F.type_list_pop (fun a e => by cases e; exact ⟨_, S5, rfl⟩) ?_
                refine list_popR S5 (by lia) ?_
                intro h6 n6 K6 S6
                dsimp only at K6
                have F6 := frm F5 gS K6
                refine dict_delR (DictOf.kept K6 (not1 (Ne.symm hSD)) D5) (by rw [kD]; simp) (by lia) ?_
                intro h7 K7 D7
                dsimp only at K7
                have F7 := frm F6 gD K7
                have I7 := K7 _ _ (not1 hID) (K6 _ _ (not1 (Ne.symm x.SI)) I5)
                refine wpAny_deleteEach_nil ?_
                walk_at "q"
                refine wpAny_Expr_any ?_
                repeat walk_at "q"
                refine getMethod_builtin ⟨_, I7, rfl⟩ PySem.F.plainAttrs_list PySem.F.slot_list_pop PySem.F.type_list_pop (fun a e => by cases e; exact ⟨_, I7, rfl⟩) ?_
                refine list_popR I7 (by rw [List.length_map]; lia) ?_
                intro h8 n8 K8 I8
                dsimp only at K8
                have F8 := frm F7 gI K8
                repeat walk_at "q"
                refine ⟨st.length, by simp, h8, _, m, st, rfl, (hK _ _ _ _).mpr ⟨F8, nm, x.pop ?_ ⟨wS, n6, K8 _ _ (not1 x.SI) (K7 _ _ (not1 hSD) S6), jS⟩ ⟨n8, I8⟩ ⟨_, DictOf.kept K8 (not1 (Ne.symm hID)) D7, ?_⟩,
                  ((sk5.step K6 (all1 (Nat.le_of_lt gS))).step K7 (all1 (Nat.le_of_lt gD))).step K8 (all1 (Nat.le_of_lt gI))⟩, ?_, rfl⟩
                · intro b o hb h1 h2 e
                  simp only [List.mem_cons, List.not_mem_nil, or_false, not_or] at h1
                  have gb : @LT.lt Nat _ s.heap.objs.size b := x.gt (by
                    simp only [fsFoot, List.mem_cons, List.mem_flatMap, List.mem_append] at hb ⊢
                    rcases hb with h | h | h | h | h | ⟨z, hz, h⟩
                    · exact .inl h
                    · exact .inr (.inl h)
                    · exact .inr (.inr (.inl h))
                    · exact .inr (.inr (.inr (.inl h)))
                    · exact .inr (.inr (.inr (.inr (.inl h))))
                    · exact .inr (.inr (.inr (.inr (.inr ⟨z, .inl hz, h⟩)))))
                  exact K8 _ _ (not1 h1.2.1) (K7 _ _ (not1 h1.2.2) (K6 _ _ (not1 h1.1) (up5 gb e h2)))
                · rw [without_keys, kD, filter_snoc ynd]
                · unfold fcN at hle ⊢
                  rw [rem_append] at hle
                  lia
/-- what `prepare` puts ready -/
def readyP (q : So) (v : Value) : Bool := match v with | .ref a => q.keys.any fun k => decide (q.ia k = a ∧ q.np k = 0) | _ => false
theorem SoAt.iainj {w : World} {q : So} {h : Heap} (St : SoAt w q h) {k j : Int} (hk : k ∈ q.keys) (hj : j ∈ q.keys) (e : q.ia k = q.ia j) : k = j := by
  obtain ⟨_, _, a⟩ := St.info k hk
  obtain ⟨_, _, b⟩ := St.info j hj
  rw [e, b] at a
  have := congrArg Obj.slots (Option.some.inj a)
  simp [infoObj] at this
  exact this.1.1.symm
theorem readyP_eq {w : World} {q : So} {h : Heap} (St : SoAt w q h) {k : Int} (hk : k ∈ q.keys) : readyP q (.ref (q.ia k)) = decide (q.np k = 0) := by
  show (q.keys.any fun j => decide (q.ia j = q.ia k ∧ q.np j = 0)) = _
  rw [Bool.eq_iff_iff]
  simp only [List.any_eq_true, decide_eq_true_eq]
  constructor
  · rintro ⟨j, hj, e, n⟩
    rw [St.iainj hk hj e.symm]
    exact n
  · intro n
    exact ⟨k, hk, rfl, n⟩
theorem ready_ints {w : World} {q : So} {h : Heap} (St : SoAt w q h) : ∀ {ks : List Int} {vs ys : List Value}, (∀ k ∈ ks, k ∈ q.keys) → vs = ks.map (fun k => .ref (q.ia k)) → Paired (fun v y => ∃ k t, k ∈ q.keys ∧ v = .ref (q.ia k) ∧ y = .int k t) (vs.filter (readyP q)) ys →
    IntsAre ys (ks.filter fun k => decide (q.np k = 0))
  | [], _, ys, _, rfl, hp => by
    cases hp
    exact .nil
  | k :: ks, _, ys, hin, rfl, hp => by
    rw [List.map_cons, List.filter_cons, readyP_eq St (hin k (.head _))] at hp
    rw [List.filter_cons]
    by_cases e : q.np k = 0
    · rw [if_pos (by simp [e])] at hp ⊢
      cases hp with
      | cons hf hp =>
        obtain ⟨j, t, hj, ev, rfl⟩ := hf
        have := St.iainj (hin k (.head _)) hj (Value.ref.inj ev)
        subst this
        exact .cons k t (ready_ints St (fun j hj => hin j (.tail _ hj)) rfl hp)
    · rw [if_neg (by simp [e])] at hp ⊢
      exact ready_ints St (fun j hj => hin j (.tail _ hj)) rfl hp

theorem Fr.slots {g h h' : Heap} {L : Addr} {m : Str → Option Value} {fs : List Addr} (F : Fr g L h m) (x : SK fs h h') (hg : ∀ a ∈ fs, g.get? a = none) : Fr g L h' m :=
  ⟨Ns.slots F.ns (fun o e => x.2 L o e), fun b o e => x.1 b o (fun c => by rw [hg b c] at e; cases e) (F.keep b o e), F.above⟩

theorem so_setready' {w : World} {A : Around} {E : Value → Shared → Prop} {s : Shared} {L : Addr} {g : Heap} {m : Str → Option Value} {q : So} {v : Value} {Q : Unit → Shared → Prop} (F : Fr g L s.heap m) (X : (hd.heap_39 w.params).In g) (St : SoAt w q s.heap) (hL : ∀ a ∈ q.foot, a ≠ L) (hdS : g.get? q.dS = none)
    (h : ∀ h', Fr g L h' m → Kept [L, q.dS] s.heap h' → SoAt w { q with rv := v } h' → Q () { s with heap := h', toks := s.toks + 2 }) :
    wpAny (model prg w) A (setAttr (.ref q.S) (Str.ofString "_ready_nodes") v) Q E s := by
  obtain ⟨hs, ts, us, n, e⟩ := St.own
  refine attr_set F X St.inst e (hL _ q.fdS) hdS (by k_is) (by k_is) (by k_is) (by k_is) rfl rfl (Nat.le_of_ble_eq_true rfl) ?_
  intro h' F' K' H'
  exact h h' F' K' (St.setown (fun b hb hne o e => K' _ _ (not2 (hL b hb) hne) e) ⟨hs, ts, us, _, H'⟩)

theorem frames_kept {h h' b : Heap} {M : List Addr} (K : Kept M h h') : ∀ {l : List Env}, h.FunFrames b l → (∀ a ∈ frs l, a ∉ M) → h'.FunFrames b l
  | [], _, _ => trivial
  | env :: l, ⟨hk, ⟨L, o, hf, hn, ho, hd⟩, hr⟩, hM => ⟨hk, ⟨L, o, hf, hn, K _ _ (hM L (by unfold frs; rw [List.filterMap_cons, hf]; exact .head _)) ho, hd⟩, frames_kept K hr fun a ha => hM a (by unfold frs; rw [List.filterMap_cons, hf]; exact .tail _ ha)⟩
theorem frs_cons {env : Env} {l : List Env} {L a : Addr} (hf : env.frame = some L) (ha : a ∈ frs (env :: l)) : a = L ∨ a ∈ frs l := by
  unfold frs at ha
  rw [List.filterMap_cons, hf] at ha
  exact List.mem_cons.mp ha

theorem prep_spec {w : World} {s : Shared} {mg mb : Str → Option Value} {h₀ : Heap} {q : So} {r : Int → Nat} {outer : List Env} {RR : Result → Shared → Prop}
    (G : Gnd w mg mb h₀) (hk : ∀ b o, h₀.get? b = some o → s.heap.get? b = some o) (St : SoAt w q s.heap) (hrv : q.rv = .none) (hff : s.heap.FunFrames h₀ outer) (hdis : ∀ a ∈ q.foot, a ∉ frs outer) (hoff : h₀.get? q.dS = none) (hlen : q.keys.length ≤ 90) (hsl : ∀ k ∈ q.keys, (q.succ k).length ≤ 1000)
    (hin : ∀ k ∈ q.keys, ∀ j ∈ q.succ k, j ∈ q.keys) (hr : ∀ k ∈ q.keys, ∀ j ∈ q.succ k, r k < r j)
    (hR : ∀ h' tk R vs n, Kept (q.dS :: frs outer) s.heap h' → (∀ b o, b ≠ q.dS → s.heap.get? b = some o → ∃ sl, h'.get? b = some { o with slots := sl }) → SoAt w { q with rv := .ref R } h' → h'.get? R = some (listOf vs.toArray n) → IntsAre vs (q.keys.filter fun k => decide (q.np k = 0)) → s.heap.get? R = none →
      RR (.ok (.ret .none)) { s with heap := h', toks := tk }) :
    codeAny (model prg w) (AF 440 440 outer) (.call (.ref 120) ⟨[.ref q.S], []⟩) RR s := by
  refine enter (led := ledOf s.heap (q.dS :: frs outer)) G hk (fun p hp => ⟨(mem_ledOf hp).1, (List.mem_cons.mp (mem_ledOf hp).2).elim (fun e => e ▸ hoff) (fun e => (hff.mem e).1)⟩) (by k_is) (by k_is) (show 440 < recursionLimit by decide) (BindsTo.of_eq rfl) (locs rfl) ?_
  intro g h₁ Gg kg ks F N0
  have X' := Gg.X
  have T' := Gg.T
  have hfr0 : ∀ a ∈ frs outer, g.get? a = none := fun a ha => by
    obtain ⟨_, o, e, _⟩ := hff.mem ha
    exact (N0 _ (ledOf_addr (.tail _ ha) e)).2.2
  have hdS : g.get? q.dS = none := by
    obtain ⟨o, e⟩ := St.there q.fdS
    exact (N0 _ (ledOf_addr (.head _) e)).2.2
  have hfg : s.heap.FunFrames g outer := rebase hff hfr0
  have hLo : ∀ a ∈ q.foot, a ≠ s.heap.objs.size := fun a ha => Nat.ne_of_lt (St.lt ha)
  have hgL : g.get? s.heap.objs.size = none := Mine.Fr.high F (Nat.le_refl _)
  have St1 := St.kept ks (List.forall_mem_nil _)
  clear N0
  dsimp only
  walk_at "q"
  refine wpAny_If ?_
  repeat walk_at "q"
  refine so_attr (v := .none) F X' St1 (by k_is) (by k_is) (by k_is) (fun _ _ _ => by rw [hrv]; rfl) rfl ?_
  repeat walk_at "q"
  refine (if_neg (by decide)).mpr ?_
  repeat walk_at "q"
  refine wpAny_ListComp_free (cl := []) (readyP q) (fun v y => ∃ k t, k ∈ q.keys ∧ v = .ref (q.ia k) ∧ y = .int k t) rfl (by decide) rfl (by decide) rfl ?_
  repeat walk_at "q"
  refine so_attr (v := .ref q.D) F X' St1 (by k_is) (by k_is) (by k_is) (fun _ _ _ => rfl) rfl ?_
  refine getMethod_builtin St1.dic.typeIs PySem.F.plainAttrs_dict PySem.F.slot_dict_values PySem.F.type_dict_values St1.dic.mapOf.noDict ?_
  refine callWith_method0 ?_
  refine call_meetsIn PySem.F.slot_dict_values St1.dic.typeIs PySem.F.entry_dict_values (PySem.F.args_dict_values_1 _) (meets_dict_values (PySem.intKind prg w) q.D St1.mods) ⟨⟨_, St1.dic⟩, ?_⟩
  have F2 := F.push { cls := .type "dict_values", data := .fields #[.ref q.D] }
  have K2 := Kept.push h₁ { cls := .type "dict_values", data := .fields #[.ref q.D] }
  have v2 : (h₁.push { cls := .type "dict_values", data := .fields #[.ref q.D] }).get? h₁.objs.size = some { cls := .type "dict_values", data := .fields #[.ref q.D] } := Heap.get?_push_size _ rfl
  have lv2 : @LT.lt Nat _ s.heap.objs.size h₁.objs.size := F.ns.lt
  dsimp only [wants]
  generalize h₁.push { cls := .type "dict_values", data := .fields #[.ref q.D] } = h2 at *
  have St2 := St1.kept K2 (List.forall_mem_nil _)
  obtain ⟨oD, esD, epD, hoD, rD⟩ := id St2.dic
  refine wpAny_pyIter_values (knd := PySem.intKind prg w) (d := q.D) (kvs := q.kvs) (ep := epD) ⟨_, v2, rfl, rfl⟩ ⟨oD, esD, hoD, rD⟩ ?_
  have F3 := F2.push { cls := .type "dict_valueiterator", data := .fields #[.ref q.D, .int 0 0, .int q.kvs.length 0, .int epD 0] }
  have K3 := Kept.push h2 { cls := .type "dict_valueiterator", data := .fields #[.ref q.D, .int 0 0, .int q.kvs.length 0, .int epD 0] }
  have i3 : (h2.push { cls := .type "dict_valueiterator", data := .fields #[.ref q.D, .int 0 0, .int q.kvs.length 0, .int epD 0] }).get? h2.objs.size = some { cls := .type "dict_valueiterator", data := .fields #[.ref q.D, .int 0 0, .int q.kvs.length 0, .int epD 0] } := Heap.get?_push_size _ rfl
  have lv3 : @LT.lt Nat _ s.heap.objs.size h2.objs.size := F2.ns.lt
  have lD3 : @LT.lt Nat _ q.D h2.objs.size := Heap.lt_size hoD
  dsimp only
  generalize h2.push { cls := .type "dict_valueiterator", data := .fields #[.ref q.D, .int 0 0, .int q.kvs.length 0, .int epD 0] } = h3 at *
  generalize eI : h2.objs.size = I at *
  have St3 := St2.kept K3 (List.forall_mem_nil _)
  have kv : ∀ {j : Nat} {k : Int} {v : Value}, q.kvs[j]? = some (k, v) → q.keys[j]? = some k ∧ v = .ref (q.ia k) := by
    intro j k v e
    unfold So.kvs at e
    rw [List.getElem?_map] at e
    cases hj : q.keys[j]? with
    | none => rw [hj] at e; cases e
    | some k' => rw [hj] at e; cases e; exact ⟨rfl, rfl⟩
  have hklen : q.kvs.length = q.keys.length := by unfold So.kvs; exact List.length_map ..
  have frC : ∀ {C : Addr} {s₃ : Shared} {m₃ : Str → Option Value}, @LE.le Nat _ h3.objs.size C → s₃.heap.Ns C m₃ → (∀ b o, b ∉ [I] → h3.get? b = some o → s₃.heap.get? b = some o) → Fr g C s₃.heap m₃ ∧ SoAt w q s₃.heap := by
    intro C s₃ m₃ hC hn hkp
    have hIg : g.get? I = none := Mine.Fr.high F3 (Nat.le_of_lt lv3)
    have := F3.ns.lt
    exact ⟨⟨hn, fun b o e => hkp b o (not1 (fun c => by rw [c, hIg] at e; cases e)) (F3.keep b o e), Nat.le_trans F3.above (Nat.le_trans (Nat.le_of_lt this) hC)⟩,
      St3.kept (M := [I]) (fun b o hb e => hkp b o hb e) (fun a ha hf => by
        have e : @Eq Nat a I := mem1 ha
        have : @LT.lt Nat _ a s.heap.objs.size := St.lt hf
        lia)⟩
  refine ⟨I, [I, q.D], [I], q.kvs.length, _, _, rfl, Walks.dictValues (knd := PySem.intKind prg w) rfl I q.D (Nat.ne_of_lt lD3) q.kvs epD, by rw [hklen, sizeLine_eq]; lia, ⟨⟨_, i3, rfl, rfl⟩, ⟨oD, esD, K3 _ _ List.not_mem_nil hoD, rD⟩⟩, ?_, ⟨?tests, ?elt⟩, ?_⟩
  · intro b hb
    simp only [List.mem_cons, List.not_mem_nil, or_false] at hb
    rcases hb with rfl | rfl
    · exact Heap.lt_size i3
    · exact Heap.lt_size (K3 _ _ List.not_mem_nil hoD)
  case tests =>
    rintro C i v s₃ m₃ E' hC ⟨k, hkv⟩ hn hm hkp htk
    obtain ⟨ek, rfl⟩ := kv hkv
    have kin := List.mem_of_getElem? ek
    obtain ⟨FC, SC⟩ := frC hC hn hkp
    refine wpAny_tests_one ?_
    refine wpAny_isTrue_Compare1 ?_
    refine Attribute_name ?_
    refine wpAny_Name (wpAny_loadName_local rfl rfl hn hm ?_)
    refine info_np FC X' SC kin ?_
    intro t
    repeat walk_at "q"
    exact ⟨(readyP_eq SC kin).symm, _, _, rfl, fun _ _ e => e⟩
  case elt =>
    rintro C i v s₃ m₃ E' hC ⟨k, hkv⟩ hpv hn hm hkp htk
    obtain ⟨ek, rfl⟩ := kv hkv
    have kin := List.mem_of_getElem? ek
    obtain ⟨FC, SC⟩ := frC hC hn hkp
    refine Attribute_name ?_
    refine wpAny_Name (wpAny_loadName_local rfl rfl hn hm ?_)
    refine info_node FC X' SC kin ?_
    intro t
    exact ⟨⟨k, t, kin, rfl, rfl⟩, _, _, rfl, fun _ _ e => e⟩
  intro R h4 tk4 ys vs hRn hRl hRp hvl hvP hpair K4
  have hIg : g.get? I = none := Mine.Fr.high F3 (Nat.le_of_lt lv3)
  have K4' : Kept [I] h3 h4 := fun b o hb e => K4 b o hb e
  have F4 := Mine.Fr.behind F3 (M := [I]) (none1 hIg) (not1 (Nat.ne_of_lt lv3)) K4'
  have fI : ∀ a ∈ q.foot, a ≠ I := fun a ha => neN (by have : @LT.lt Nat _ a s.heap.objs.size := St.lt ha; lia)
  have St4 := St3.kept K4' (by intro a ha hf; exact fI a hf (mem1 ha))
  obtain ⟨nR, eR⟩ := hRp
  have K03 : Kept [] s.heap h3 := ks.trans (K2.trans K3)
  have hRs : s.heap.get? R = none := by
    cases e : s.heap.get? R with
    | none => rfl
    | some o => rw [K03 _ _ List.not_mem_nil e] at hRn; cases hRn
  have hRL : R ≠ s.heap.objs.size := by
    rintro rfl
    obtain ⟨o, _, _, e, _⟩ := F3.ns
    rw [e] at hRn
    cases hRn
  have hRf : R ∉ q.foot := fun c => by
    obtain ⟨o, e⟩ := St3.there c
    rw [e] at hRn
    cases hRn
  have hRg : g.get? R = none := by
    cases e : g.get? R with
    | none => rfl
    | some o => rw [F3.keep _ _ e] at hRn; cases hRn
  have hvs : vs = q.keys.map (fun k => .ref (q.ia k)) := by
    apply List.ext_getElem?
    intro j
    rw [List.getElem?_map]
    cases e : vs[j]? with
    | none =>
      have : q.keys[j]? = none := by
        rw [List.getElem?_eq_none_iff] at e ⊢
        lia
      rw [this]
      rfl
    | some v =>
      obtain ⟨k, hkv⟩ := hvP j v e
      obtain ⟨ek, rfl⟩ := kv hkv
      rw [ek]
      rfl
  have hys := ready_ints St3 (fun k hk => hk) hvs hpair
  repeat walk_at "q"
  refine so_setready' F4 X' St4 hLo hdS ?_
  intro h5 F5 K5 St5
  dsimp only at K5
  have eR5 := K5 _ _ (not2 hRL (fun c => hRf (c ▸ q.fdS))) eR
  repeat walk_at "q"
  refine so_meth (q := { q with rv := .ref R }) F5 X' St5 (by k_is) (by k_is) (by k_is) (fun _ _ _ => rfl) ?_
  refine callWith_K0 (K := hd.heap_39 w.params) (X'.keeps F5.keep) (by k_is) ?_
  have K05 : Kept [q.dS] s.heap h5 := by
    intro b o hb e
    have lb : @LT.lt Nat _ b s.heap.objs.size := Heap.lt_size e
    have lb' : b ≠ s.heap.objs.size := Nat.ne_of_lt lb
    have lbI : b ≠ I := neN (by lia)
    exact K5 _ _ (not2 lb' (fun c => hb (by rw [c]; exact .head _))) (K4' _ _ (not1 lbI) (K03 _ _ List.not_mem_nil e))
  have ff5 : h5.FunFrames g outer := frames_kept K05 hfg fun a ha c => hdis _ q.fdS (mem1 c ▸ ha)
  refine wpAny_call (codeAny_AF rfl (Nat.le_of_ble_eq_true rfl) (Nat.le_of_ble_eq_true rfl) rfl (fc_spec (q := { q with rv := .ref R }) (r := r) Gg F5.keep St5 (Heap.FunFrames.cons (show ScopeKind.function ≠ ScopeKind.module by decide) rfl F5.ns hgL ff5) ?dis hlen hsl hin hr ?_))
  case dis =>
    intro a ha c
    rcases frs_cons rfl c with c | c
    · exact hLo a ha c
    · exact hdis a ha c
  intro h6 tk6 sk6
  dsimp only at sk6 ⊢
  have hfL : ∀ (env : Env) a, env.frame = some s.heap.objs.size → a ∈ frs (env :: outer) → g.get? a = none := fun env a hf ha => by
    rcases frs_cons hf ha with c | c
    · rw [c]; exact hgL
    · exact hfr0 a c
  have F6 := Mine.Fr.slots F5 sk6 (fun a ha => hfL _ a rfl ha)
  have St6 := St5.kept sk6.1 (fun a ha hf => by
    rcases frs_cons rfl ha with c | c
    · exact hLo a hf c
    · exact hdis a hf c)
  have eR6 := sk6.1 _ _ (fun c => by
    rcases frs_cons rfl c with c | c
    · exact hRL c
    · rw [(hff.mem c).2.choose_spec.1] at hRs; cases hRs) eR5
  repeat walk_at "q"
  rename_i h7 F7 K7
  refine wpAny_If ?_
  refine isTrue_plain ?_
  repeat walk_at "q"
  refine wpAny_of_eq (a := false) rfl ?_
  repeat walk_at "q"
  have St7 := St6.kept K7 (fun a ha hf => hLo a hf (mem1 ha))
  refine hR h7 _ R ys.toList nR ?_ ?_ St7 (K7 _ _ (not1 hRL) eR6) hys hRs
  · intro b o hb e
    simp only [List.mem_cons, not_or] at hb
    have lb' : b ≠ s.heap.objs.size := Nat.ne_of_lt (Heap.lt_size e)
    exact K7 _ _ (not1 lb') (sk6.1 _ _ (fun c => by
      rcases frs_cons rfl c with c | c
      · exact lb' c
      · exact hb.2 c) (K05 _ _ (not1 hb.1) e))
  · intro b o hb e
    have lb' : b ≠ s.heap.objs.size := Nat.ne_of_lt (Heap.lt_size e)
    obtain ⟨sl, e6⟩ := sk6.2 _ _ (K05 _ _ (not1 hb) e)
    exact ⟨sl, K7 _ _ (not1 lb') e6⟩
/-! the law's own frame, and its first loop -/
def stBody : Stmt → List Stmt
  | .FunctionDef _ _ b _ _ _ _ _ _ _ => b
  | _ => []
def stScope : Stmt → Scope
  | .FunctionDef _ _ _ _ _ _ s _ _ _ => s
  | _ => default
abbrev lawBody : List Stmt := stBody (Challenge.pw_dn0074_01.main.body.getLast?.getD default)
abbrev lawScope : Scope := stScope (Challenge.pw_dn0074_01.main.body.getLast?.getD default)
abbrev lawStmt (i : Nat) : Stmt := lawBody.getD i default
abbrev envL (L fa : Addr) (cd : Value) : Env := envOfC (Str.ofString "law") lawScope L fa cd

section
variable {M : Model} {A : Around} {E : Value → Shared → Prop} {s : Shared} {g : Heap} {L fa : Addr} {m : Str → Option Value} {cd : Value}
theorem ldL {x : Str} {v : Value} {pos : Pos} {Q : Value → Shared → Prop} (F : Fr g L s.heap m) (hv : m x = some v) (h : Q v s) (hx : (envL L fa cd).kindOf x = some .local := by rfl) (hd : (x == ("__debug__" : Str)) = false := by decide) :
    wpAny M A (eval (.Name x pos) (envL L fa cd)) Q E s := wpAny_Name (wpAny_loadName_local rfl hx F.ns hv h) hd
theorem stL {x : Str} {v : Value} {Q : Unit → Shared → Prop} (F : Fr g L s.heap m)
    (h : ∀ tk' h', Fr g L h' (fun y => if y = x then some v else m y) → Kept [L] s.heap h' → Q () { s with heap := h', toks := tk' })
    (hx : (envL L fa cd).kindOf x = some .local := by rfl) : wpAny M A (storeName (envL L fa cd) x v) Q E s :=
  wpAny_storeName_local hx F.ns (fun h' hn hs => h _ h' (F.set hn hs) (Kept.one hs)) rfl
/-- a cell of the law's -/
theorem ldC {x : Str} {v : Value} {pos : Pos} {c : Addr} {o : Obj} {Q : Value → Shared → Prop} (hc : (envL L fa cd).cells.lookup x = some c) (ho : s.heap.get? c = some o) (hd : o.data = .cell (some v)) (h : Q v s) (hx : (envL L fa cd).kindOf x = some .cell := by rfl) (hb : (x == ("__debug__" : Str)) = false := by decide) :
    wpAny M A (eval (.Name x pos) (envL L fa cd)) Q E s := wpAny_Name (wpAny_loadName_cell rfl hx hc ⟨o, ho, hd⟩ h) hb
theorem stC {x : Str} {v : Value} {c : Addr} {o : Obj} {v₀ : Option Value} {Q : Unit → Shared → Prop} (F : Fr g L s.heap m) (hc : (envL L fa cd).cells.lookup x = some c) (ho : s.heap.get? c = some o) (hd : o.data = .cell v₀) (hcL : @LT.lt Nat _ L c)
    (h : ∀ h' o', Fr g L h' m → Kept [c] s.heap h' → h'.get? c = some o' → o'.data = .cell (some v) → Q () { s with heap := h' }) (hx : (envL L fa cd).kindOf x = some .cell := by rfl) : wpAny M A (storeName (envL L fa cd) x v) Q E s := by
  refine wpAny_storeName_cell rfl hx hc ⟨o, ho, hd⟩ fun h' hv hs => ?_
  obtain ⟨o', ho', hd'⟩ := hv
  exact h h' o' (Mine.Fr.behind F (M := [c]) (all1 (Mine.Fr.high F (Nat.le_of_lt hcL))) (not1 (Nat.ne_of_lt hcL)) (Kept.one hs)) (Kept.one hs) ho' hd'
theorem cell_stays : (envL L fa cd).cells.lookup (Str.ofString "stays") = some (L + 1) := rfl
theorem cell_j : (envL L fa cd).cells.lookup (Str.ofString "j") = some (L + 1 + 1) := rfl
end

/-- a for over range(n) -/
theorem iterRange {w : World} {A : Around} {E : Value → Shared → Prop} {s : Shared} {env : Env} {g : Heap} {x : Str} {px : Pos} {body : List Stmt} {Q : Flow → Shared → Prop} {r : Addr} {n : Nat} {t u v : Tok} {m : Str → Option Value}
    (J : Nat → (Str → Option Value) → Heap → Prop) (hh : A.handled = none) (hx : env.kindOf x = some .local) (hp : (env.scope.kind == .class || (env.scope.kind == .module && env.locals != env.globals)) = false)
    (hr : IsRange s.heap r 0 n 1 t u v) (hn : n ≤ 1000) (F : Fr g env.locals s.heap m) (h0 : ∀ h', Kept [] s.heap h' → J 0 m h')
    (turn : ∀ i t m₁ h₁ h tk, i < n → J i m₁ h₁ → Kept [env.locals, s.heap.objs.size] h₁ h → (∃ o, h.get? s.heap.objs.size = some o ∧ o.cls = .type "range_iterator") → Fr g env.locals h (fun y => if y = x then some (.int (i : Int) t) else m₁ y) →
      wpAny (model prg w) A (execs body env) (TurnR g env.locals [s.heap.objs.size] (J (i + 1)) s h Q) E { s with heap := h, toks := tk })
    (done : ∀ m' h₁ h tk, J n m' h₁ → Kept [s.heap.objs.size] h₁ h → Fr g env.locals h m' → Q .next { s with heap := h, toks := tk })
    (hE : PassesOwn (model prg w) A env E) :
    wpAny (model prg w) A (pyIter (.ref r)) (fun it s₂ => codeAny (model prg w) A (.forLoop (.Name x px) it body [] env) (fun r s' => match r with | .ok f => Q f s' | .error e => cameBackBy (model prg w) A env E e s') s₂) E s := by
  have hsz : Builtin.Range.rangeSize 0 (n : Int) 1 = n := by
    unfold Builtin.Range.rangeSize
    rw [if_pos (by decide)]
    split <;> lia
  refine wpAny_pyIter_range hr (by
    have hs := hsz
    have fl : ∀ x : Int, 0 ≤ x → x ≤ 1000 → Builtin.Range.rangeFitsLong x = true := by
      intro x h1 h2
      unfold Builtin.Range.rangeFitsLong
      simp
      lia
    unfold Builtin.Range.small
    rw [hs, fl 0 (by lia) (by lia), fl n (by lia) (by lia), fl 1 (by lia) (by lia), if_pos (by decide), show (n : Int) + (1 - 1) = n by lia, fl n (by lia) (by lia)]
    simp) ?_
  have W := Walks.range (prog := prg) (w := w) hh s.heap.objs.size 0 1 n
  have F1 := F.push { cls := .type "range_iterator", data := .fields #[rawInt 0, rawInt (Builtin.Range.rangeSize 0 n 1), rawInt 1] }
  refine loopR (s := { s with heap := s.heap.push _ }) J W hx hp ?_ ?_ ?_ F1 (h0 _ (Kept.push _ _)) ?_ ?_ hE
  · simp only [List.mem_cons, List.not_mem_nil, or_false, not_or]
    exact Nat.ne_of_lt F.ns.lt
  · intro b hb
    simp only [List.mem_cons, List.not_mem_nil, or_false] at hb
    subst hb
    exact Mine.Fr.high F (Nat.le_of_lt F.ns.lt)
  · rw [hsz]
    have e := Heap.get?_push_size s.heap (o := { cls := .type "range_iterator", data := .fields #[rawInt 0, rawInt (n : Int), rawInt 1] }) rfl
    show IsRangeIter _ _ (0 + ((0 : Nat) : Int) * 1) ((n : Int) - ((0 : Nat) : Int)) 1
    rw [show (0 + ((0 : Nat) : Int) * 1) = 0 by simp, show ((n : Int) - ((0 : Nat) : Int)) = n by simp]
    exact e
  · intro i v m₁ h₁ h tk hlt hP hJ K hst Fh
    obtain ⟨t, ev⟩ := hP
    rw [Int.zero_add, Int.mul_one] at ev
    subst ev
    exact turn i t m₁ h₁ h tk hlt hJ K ⟨_, hst, rfl⟩ Fh
  · intro m' h₁ h tk hJ K Fh
    exact done m' h₁ h tk hJ K Fh
/-- `range(n)` -/
theorem rangeR {w : World} {A : Around} {E : Value → Shared → Prop} {s : Shared} {g : Heap} {L : Addr} {m : Str → Option Value} {n : Int} {t : Tok} {Q : Value → Shared → Prop} (F : Fr g L s.heap m)
    (h : ∀ h' tk a b, Fr g L h' m → Kept [] s.heap h' → IsRange h' s.heap.objs.size 0 n 1 a t b → Q (.ref s.heap.objs.size) { s with heap := h', toks := tk }) :
    wpAny (model prg w) A (call (.type "range") [.int n t]) Q E s :=
  call_range_1 (h _ _ _ _ (F.push _) (Kept.push _ _) (Heap.get?_push_size _ rfl))
local macro_rules | `(tactic| walk_at "q") => `(tactic| first
  | ((with_reducible show wpAny _ _ (eval (Expr.Name _ _) (envL _ _ _)) _ _ _); first | refine ldL (by assumption) (by rfl) ?_ | refine ldL (by assumption) (by assumption) ?_)
  | ((with_reducible show wpAny _ _ (storeName (envL _ _ _) _ _) _ _ _); (refine stL (by assumption) ?_; intro tx hx Fx Kx; (try dsimp only at Kx))))
/-- the stays: a list of pairs -/
structure Stays (h : Heap) (L T : Addr) (ts : List Addr) (be : List (Int × Int)) : Prop where
  cell : ∃ o, h.get? (L + 1) = some o ∧ o.data = .cell (some (.ref T))
  lst : ∃ n, h.get? T = some (listOf (ts.map Value.ref).toArray n)
  len : ts.length = be.length
  tup : ∀ (i : Nat) (a : Addr) (p : Int × Int), ts[i]? = some a → be[i]? = some p → ∃ t u, h.get? a = some (tupOf [.int p.1 t, .int p.2 u])
  ok : ∀ p : Int × Int, p ∈ be → 0 ≤ p.1 ∧ p.1 < p.2 ∧ p.2 < 64
  gT : @LT.lt Nat _ (L + 2) T
  gt : ∀ a ∈ ts, @LT.lt Nat _ (L + 2) a
  neT : ∀ a ∈ ts, a ≠ T

theorem Stays.kept {h h' : Heap} {L T : Addr} {ts : List Addr} {be : List (Int × Int)} {M : List Addr} (x : Stays h L T ts be) (K : Kept M h h') (h1 : L + 1 ∉ M) (hT : T ∉ M) (hts : ∀ a ∈ ts, a ∉ M) : Stays h' L T ts be := by
  refine ⟨?_, ?_, x.len, ?_, x.ok, x.gT, x.gt, x.neT⟩
  · obtain ⟨o, a, b⟩ := x.cell; exact ⟨o, K _ _ h1 a, b⟩
  · obtain ⟨n, a⟩ := x.lst; exact ⟨n, K _ _ hT a⟩
  · intro i a p ha hp
    obtain ⟨t, u, e⟩ := x.tup i a p ha hp
    exact ⟨t, u, K _ _ (hts a (List.mem_of_getElem? ha)) e⟩

theorem newTupR {w : World} {A : Around} {E : Value → Shared → Prop} {s : Shared} {L : Addr} {g : Heap} {m : Str → Option Value} {vs : List Value} {Q : Value → Shared → Prop} (F : Fr g L s.heap m)
    (h : ∀ h', Fr g L h' m → Kept [] s.heap h' → h'.get? s.heap.objs.size = some (tupOf vs) → Q (.ref s.heap.objs.size) { s with heap := h' }) (hsz : vs.length ≤ 1000000 := by simp) :
    wpAny (model prg w) A (newTuple vs) Q E s :=
  wpAny_newObj_type (h _ (F.push _) (Kept.push _ _) (Heap.get?_push_size _ rfl)) (by show vs.toArray.size ≤ sizeLine; rw [List.size_toArray, sizeLine_eq]; lia)

theorem ints_get {vs : List Value} {ns : List Int} (hi : IntsAre vs ns) : ∀ {i : Nat}, i < ns.length → ∃ t, vs[i]? = some (.int (ns.getD i 0) t) := by
  induction hi with
  | nil => intro i h; cases h
  | cons n t _ ih =>
    intro i h
    cases i with
    | zero => exact ⟨t, rfl⟩
    | succ i =>
      obtain ⟨t', e⟩ := ih (i := i) (by simpa using h)
      exact ⟨t', by simpa using e⟩
theorem getItem_tupR {w : World} {A : Around} {E : Value → Shared → Prop} {s : Shared} {T : Addr} {vs : List Value} {v : Value} {i : Nat} {u : Tok} {Q : Value → Shared → Prop} (ht : s.heap.get? T = some (tupOf vs)) (e : vs[i]? = some v) (hn : vs.length ≤ 1000) (h : Q v s) :
    wpAny (model prg w) A (getItem (.ref T) (.int (i : Int) u)) Q E s := by
  have hi : i < vs.length := (List.getElem?_eq_some_iff.mp e).1
  exact getItem_tuple (j := i) ⟨_, ht, rfl, _, rfl⟩ (by lia) (by lia) (by rw [List.size_toArray]; exact seqIndex_of (Int.natCast_nonneg _) (Int.ofNat_lt.mpr hi)) (by simpa using e) h
theorem sliceR {w : World} {A : Around} {E : Value → Shared → Prop} {s : Shared} {env : Env} {e1 e2 : Expr} {p : Pos} {Q : Value → Shared → Prop}
    (h : wpAny (model prg w) A (eval e1 env) (fun l s₁ => wpAny (model prg w) A (eval e2 env) (fun st s₂ => ∀ h', Kept [] s₂.heap h' → (∀ g L m, Fr g L s₂.heap m → Fr g L h' m) → h'.get? s₂.heap.objs.size = some { cls := .type "slice", data := .fields #[l, .none, st] } → Q (.ref s₂.heap.objs.size) { s₂ with heap := h' }) E s₁) E s) :
    wpAny (model prg w) A (eval (.Slice (some e1) none (some e2) p) env) Q E s :=
  wpAny_Slice (evalPart_some_step (wpAny_mono h (fun l s₁ h₁ => evalPart_none_step (evalPart_some_step (wpAny_mono h₁ (fun st s₂ h₂ => h₂ _ (Kept.push _ _) (fun _ _ _ F => F.push _) (Heap.get?_push_size _ rfl)) fun _ _ x => x))) fun _ _ x => x))
theorem sliceListR {w : World} {A : Around} {E : Value → Shared → Prop} {s : Shared} {l sl : Addr} {vs : List Value} {a b : Int} {t u : Tok} {value slice : Expr} {Q : Value → Shared → Prop} (hl : s.heap.IsList l vs.toArray) (hs : s.heap.get? sl = some { cls := .type "slice", data := .fields #[.int a t, .none, .int b u] }) (hb : b ≠ 0) (hn : vs.length ≤ 1000)
    (h : ∀ h' xs, Kept [] s.heap h' → (∀ g L m, Fr g L s.heap m → Fr g L h' m) → h'.get? s.heap.objs.size = some (listOf xs 0) → xs = slicePick vs.toArray (some a) none (some b) → Q (.ref s.heap.objs.size) { s with heap := h' })
    (hsub : subscripted slice false (.ref l) (.ref sl) = operate [.ref l, .ref sl] (getItem (.ref l) (.ref sl)) := by with_unfolding_all rfl) :
    wpAny (model prg w) A (subscriptTail value slice (.ref l) (.ref sl)) Q E s :=
  tail_any hl.typeIs PySem.slot_list_getitem.lookup (wpAny_getItem_list_slice hl ⟨_, hs, rfl, rfl⟩ (.int a t) .none (.int b u) (by simpa using hb) (h _ _ (Kept.push _ _) (fun _ _ _ F => F.push _) (Heap.get?_push_size _ rfl) rfl) (by rw [List.size_toArray, sizeLine_eq]; lia)) hsub
theorem item_tupR {w : World} {A : Around} {E : Value → Shared → Prop} {s : Shared} {T : Addr} {vs : List Value} {ns : List Int} {i : Nat} {u : Tok} {value slice : Expr} {Q : Value → Shared → Prop} (ht : s.heap.get? T = some (tupOf vs)) (hi : IntsAre vs ns) (hlt : i < ns.length) (hn : ns.length ≤ 1000) (h : ∀ t, Q (.int (ns.getD i 0) t) s)
    (hs : subscripted slice false (.ref T) (.int (i : Int) u) = operate [.ref T, .int (i : Int) u] (getItem (.ref T) (.int (i : Int) u)) := by with_unfolding_all rfl) :
    wpAny (model prg w) A (subscriptTail value slice (.ref T) (.int (i : Int) u)) Q E s := by
  obtain ⟨t, e⟩ := ints_get hi hlt
  have hn' : vs.length ≤ 1000 := by rw [hi.length]; exact hn
  exact tail_any ⟨_, ht, rfl⟩ PySem.F.slot_tuple_getitem.lookup (getItem_tupR ht e hn' (h t)) hs

inductive Ph1J (L T scr I : Addr) (i : Nat) (m : Str → Option Value) (h : Heap) : Prop
  | mk (e1 : m (Str.ofString "script") = some (.ref scr)) (ts : List Addr) (be : List (Int × Int)) (hb : be.length = i) (st : Stays h L T ts be) (hts : ∀ a ∈ ts, a ≠ I) (o : Obj) (ho : h.get? (L + 2) = some o) (hc : o.data = .cell none) : Ph1J L T scr I i m h
theorem ph1 {w : World} {s : Shared} {mg mb : Str → Option Value} {g : Heap} {L fa : Addr} {cd : Value} {m : Str → Option Value} {T scr : Addr} {vs : List Value} {ns : List Int} {nn : Nat} {Q : Flow → Shared → Prop}
    (Gg : Gnd w mg mb g) (F : Fr g L s.heap m) (hscr : m (Str.ofString "script") = some (.ref scr)) (hl : g.IsList scr vs.toArray) (hi : IntsAre vs ns) (hlen : ns.length ≤ 63) (hst : Stays s.heap L T [] []) (hj : ∃ o, s.heap.get? (L + 2) = some o ∧ o.data = .cell none)
    (hQ : ∀ h' tk m' ts be, Fr g L h' m' → be.length = 8 → Stays h' L T ts be → (∃ o, h'.get? (L + 2) = some o ∧ o.data = .cell none) → Q .next { s with heap := h', toks := tk }) :
    wpAny (model prg w) (callerA.deeper (envL L fa cd)) (exec (lawStmt 1) (envL L fa cd)) Q (fun _ _ => False) s := by
  have X' := Gg.X
  have T' := Gg.T
  refine wpAny_For ?_
  repeat walk_at "q"
  refine rangeR F ?_
  intro h1 tk1 ta tb F1 K1 r1
  dsimp only at K1 r1 ⊢
  replace r1 : IsRange h1 s.heap.objs.size 0 ((8 : Nat) : Int) 1 ta _ tb := r1
  have l1 : @LT.lt Nat _ s.heap.objs.size h1.objs.size := Heap.lt_size r1
  have hst1 := hst.kept K1 List.not_mem_nil List.not_mem_nil (fun a ha => by cases ha)
  have hj1 : ∃ o, h1.get? (L + 2) = some o ∧ o.data = .cell none := by obtain ⟨o, a, b⟩ := hj; exact ⟨o, K1 _ _ List.not_mem_nil a, b⟩
  have lT : @LT.lt Nat _ T h1.objs.size := by obtain ⟨n, e⟩ := hst1.lst; exact Heap.lt_size e
  have lj : @LT.lt Nat _ (L + 2) h1.objs.size := by obtain ⟨o, a, _⟩ := hj1; exact Heap.lt_size a
  generalize eI : h1.objs.size = I at *
  have hgT := hst.gT
  have x2 : @LT.lt Nat _ L (L + 2) := Nat.lt_succ_of_lt (Nat.lt_succ_self L)
  have y1 : L + 1 ≠ I := Nat.ne_of_lt (Nat.lt_of_succ_lt lj)
  have y2 : L + 2 ≠ I := Nat.ne_of_lt lj
  have y3 : T ≠ I := Nat.ne_of_lt lT
  have y4 : L + 1 ≠ L := Nat.ne_of_gt (Nat.lt_succ_self L)
  have y5 : L + 2 ≠ L := Nat.ne_of_gt x2
  have y6 : T ≠ L := Nat.ne_of_gt (Nat.lt_trans x2 hgT)
  have y7 : I ≠ L := Nat.ne_of_gt (Nat.lt_trans x2 lj)
  have y8 : L + 1 ≠ T := Nat.ne_of_lt (Nat.lt_of_succ_lt hgT)
  have y9 : L + 2 ≠ T := Nat.ne_of_lt hgT
  clear F hst hj K1
  refine iterRange (n := 8) (Ph1J L T scr I) rfl rfl rfl r1 (by decide) F1 ?start ?turn ?done PassesOwn.never
  case start =>
    intro h' K'
    obtain ⟨o, a, b⟩ := hj1
    exact ⟨hscr, [], [], rfl, hst1.kept K' List.not_mem_nil List.not_mem_nil (fun a ha => by cases ha), (fun a ha => by cases ha), o, K' _ _ List.not_mem_nil a, b⟩
  case done =>
    rintro m' h2 h3 tk ⟨_, ts, be, hb, st, hts, o, ho, hc⟩ K3 F3
    dsimp only at K3
    rw [eI] at K3
    exact hQ h3 tk m' ts be F3 hb (st.kept K3 (not1 (by first | assumption | exact neN (by lia))) (not1 (by first | assumption | exact neN (by lia))) (fun a ha => not1 (hts a ha))) ⟨o, K3 _ _ (not1 (by first | assumption | exact neN (by lia))) ho, hc⟩
  case turn =>
    rintro i t m2 h2 h3 tk3 hlt ⟨e1, ts, be, hb, st, hts, o, ho, hc⟩ K3 ⟨oI, hoI, cI⟩ F3
    dsimp only at K3 hoI F3 ⊢
    rw [eI] at K3 hoI ⊢
    have e1' : (fun y => if y = Str.ofString "k" then some (Value.int (i : Int) t) else m2 y) (Str.ofString "script") = some (.ref scr) := e1
    replace F3 : Fr g L h3 (fun y => if y = Str.ofString "k" then some (Value.int (i : Int) t) else m2 y) := F3
    replace K3 : Kept [L, I] h2 h3 := K3
    have st3 := st.kept K3 (not2 (by first | assumption | exact neN (by lia)) (by first | assumption | exact neN (by lia))) (not2 (by first | assumption | exact neN (by lia)) (by first | assumption | exact neN (by lia))) (fun a ha => not2 (Nat.ne_of_gt (Nat.lt_trans x2 (st.gt a ha))) (hts a ha))
    have ho3 := K3 _ _ (not2 (by first | assumption | exact neN (by lia)) (by first | assumption | exact neN (by lia))) ho
    clear st K3 ho
    repeat walk_at "q"
    refine Tuple_ ?_
    repeat walk_at "q"
    refine newTupR F3 ?_
    intro h4 F4 K4 t4
    dsimp only at K4 t4
    repeat walk_at "q"
    refine item_tupR (ns := [60, 13, 15, 6, 7, 20, 9, 10]) t4 (.cons _ _ (.cons _ _ (.cons _ _ (.cons _ _ (.cons _ _ (.cons _ _ (.cons _ _ (.cons _ _ .nil)))))))) (by show i < 8; lia) (by decide) ?_ (by with_unfolding_all rfl)
    intro t5
    generalize ([60, 13, 15, 6, 7, 20, 9, 10] : List Int).getD i 0 = c0
    repeat walk_at "q"
    refine sliceR ?_
    repeat walk_at "q"
    intro h6 K6 G6 s6
    dsimp only at K6 G6 s6 ⊢
    have F6 := G6 _ _ _ F4
    have hl6 : h6.IsList scr vs.toArray := by obtain ⟨o, a, b⟩ := hl; exact ⟨o, F6.keep _ _ a, b⟩
    refine sliceListR hl6 s6 (by decide) (by rw [hi.length]; lia) ?_ (by with_unfolding_all rfl)
    intro h7 xs K7 G7 l7 ex
    dsimp only at K7 G7 l7 ⊢
    have F7 := G7 _ _ _ F6
    have ix := hi.pick (some (i : Int)) none (some 8)
    rw [← ex] at ix
    repeat walk_at "q"
    refine LSm.sum_ints (vs := xs.toList) F7 all_raw rfl ⟨_, l7, rfl, 0, by simp⟩ ix ?_
    intro h8 tk8 t8 F8 N8
    have K8 : Kept [L] h7 h8 := all_back F7 F8 N8 (fun p hp => hp)
    generalize (pickNums ns (some (i : Int)) none (some 8)).sum = sm
    walk_at "q"
    walk_at "q"
    rename_i h9 F9 K9
    walk_at "q"
    walk_at "q"
    walk_at "q"
    generalize c0 + sm = sv at *
    have L8 : Kept [L] h3 h9 := ((((K4.mono (List.forall_mem_nil _)).trans (K6.mono (List.forall_mem_nil _))).trans (K7.mono (List.forall_mem_nil _))).trans K8).trans K9
    have st9 := st3.kept L8 (not1 (by first | assumption | exact neN (by lia))) (not1 (by first | assumption | exact neN (by lia))) (fun a ha => not1 (Nat.ne_of_gt (Nat.lt_trans x2 (st3.gt a ha))))
    have ho9 := L8 _ _ (not1 (by first | assumption | exact neN (by lia))) ho3
    have hI9 := L8 _ _ (not1 (by first | assumption | exact neN (by lia))) hoI
    clear st3 ho3 hoI F8 N8 F7 F6 F4 F3 K4 K6 K7 K8 K9 t4 l7 ex ix s6 hl6
    obtain ⟨oc, hoc, hdc⟩ := st9.cell
    obtain ⟨nT, hT9⟩ := st9.lst
    refine ldC cell_stays hoc hdc ?_
    refine getMethod_builtin ⟨_, hT9, rfl⟩ PySem.F.plainAttrs_list PySem.F.slot_list_append PySem.F.type_list_append (fun a e => by cases e; exact ⟨_, hT9, rfl⟩) ?_
    repeat walk_at "q"
    refine Tuple_ ?_
    repeat walk_at "q"
    have hnl := T'.nolimit
    refine mod_int (by decide) ?_
    repeat walk_at "q"
    refine mod_int (by decide) ?_
    repeat walk_at "q"
    refine floordiv_int (by decide) ?_
    repeat walk_at "q"
    refine mod_int (by decide) ?_
    repeat walk_at "q"
    refine newTupR F9 ?_
    intro h10 F10 K10 t10
    dsimp only at K10 t10 ⊢
    have hT10 := K10 _ _ List.not_mem_nil hT9
    have hTsz : (ts.map Value.ref).toArray.size ≤ sizeLine := by rw [List.size_toArray, sizeLine_eq, List.length_map, st9.len]; lia
    repeat walk_at "q"
    refine append_at (D := T) (its := (ts.map Value.ref).toArray) (n := nT) hT10 ?_ hTsz
    intro h11 B11 l11
    dsimp only at B11
    rw [List.push_toArray] at l11
    have K11 := Kept.one B11
    have F11 := Mine.Fr.behind F10 (M := [T]) (none1 (Mine.Fr.high F10 (Nat.le_of_lt (Nat.lt_trans x2 hgT)))) (not1 (by first | assumption | exact neN (by lia))) K11
    repeat walk_at "q"
    have lI9 : @LT.lt Nat _ I h9.objs.size := Heap.lt_size hI9
    have lT9 : @LT.lt Nat _ T h9.objs.size := Heap.lt_size hT9
    have hb0 : (0 : Int) ≤ sv.fmod 12 := Int.fmod_nonneg_of_pos _ (by decide)
    have he0 : (0 : Int) ≤ (sv.fdiv 12).fmod 6 := Int.fmod_nonneg_of_pos _ (by decide)
    have hb1 : sv.fmod 12 < 12 := Int.fmod_lt_of_pos _ (by decide)
    have he1 : (sv.fdiv 12).fmod 6 < 6 := Int.fmod_lt_of_pos _ (by decide)
    refine ⟨h11, _, _, rfl, F11, ?_, ?_, ts ++ [h9.objs.size], be ++ [(sv.fmod 12, sv.fmod 12 + 1 + (sv.fdiv 12).fmod 6)], ?_, ⟨?_, ?_, ?_, ?_, ?_, st9.gT, ?_, ?_⟩, ?_, o, K11 _ _ (not1 (by first | assumption | exact neN (by lia))) (K10 _ _ List.not_mem_nil ho9), hc⟩
    · intro b hbb o e
      rw [mem1 hbb] at e ⊢
      exact K11 _ _ (not1 (by first | assumption | exact neN (by lia))) (K10 _ _ List.not_mem_nil (L8 _ _ (not1 (by first | assumption | exact neN (by lia))) e))
    · exact e1
    · rw [List.length_append, hb]; rfl
    · exact ⟨oc, K11 _ _ (not1 (by first | assumption | exact neN (by lia))) (K10 _ _ List.not_mem_nil hoc), hdc⟩
    · exact ⟨_, by rw [List.map_append]; exact l11⟩
    · rw [List.length_append, List.length_append, st9.len]; rfl
    · intro i' a p ha hp
      rcases Nat.lt_or_ge i' ts.length with hlt' | hge
      · rw [List.getElem?_append_left hlt'] at ha
        rw [List.getElem?_append_left (by rw [← st9.len]; exact hlt')] at hp
        obtain ⟨t', u', e⟩ := st9.tup i' a p ha hp
        exact ⟨t', u', K11 _ _ (not1 (st9.neT a (List.mem_of_getElem? ha))) (K10 _ _ List.not_mem_nil e)⟩
      · rw [List.getElem?_append_right hge] at ha
        rw [List.getElem?_append_right (by rw [← st9.len]; exact hge), ← st9.len] at hp
        cases hz : i' - ts.length with
        | zero =>
          rw [hz] at ha hp
          cases ha
          cases hp
          exact ⟨_, _, K11 _ _ (not1 (Nat.ne_of_gt lT9)) t10⟩
        | succ k => rw [hz] at ha; cases ha
    · intro p hp
      rcases List.mem_append.mp hp with hp | hp
      · exact st9.ok p hp
      · rw [List.mem_singleton.mp hp]
        exact ⟨hb0, by show sv.fmod 12 < sv.fmod 12 + 1 + (sv.fdiv 12).fmod 6; lia, by show sv.fmod 12 + 1 + (sv.fdiv 12).fmod 6 < 64; lia⟩
    · intro a ha
      rcases List.mem_append.mp ha with ha | ha
      · exact st9.gt a ha
      · rw [List.mem_singleton.mp ha]; show @LT.lt Nat _ _ _; lia
    · intro a ha
      rcases List.mem_append.mp ha with ha | ha
      · exact st9.neT a ha
      · rw [List.mem_singleton.mp ha]; exact Nat.ne_of_gt lT9
    · intro a ha
      rcases List.mem_append.mp ha with ha | ha
      · exact hts a ha
      · rw [List.mem_singleton.mp ha]; exact Nat.ne_of_gt lI9
/-- a for over any iterator whose target is a cell -/
theorem loopRC {w : World} {A : Around} {E : Value → Shared → Prop} {s : Shared} {env : Env} {g : Heap} {x : Str} {px : Pos} {body : List Stmt} {Q : Flow → Shared → Prop} {I c : Addr} {fp wr : List Addr} {n : Nat} {P : Nat → Value → Prop} {St : Nat → Heap → Prop} {m : Str → Option Value}
    (J : Nat → (Str → Option Value) → Heap → Prop)
    (W : Walks prg w A I fp wr n P St) (hx : env.kindOf x = some .cell) (hp : env.scope.kind = .function) (hc : env.cells.lookup x = some c) (hcf : c ∉ fp) (hcg : g.get? c = none) (hcL : c ≠ env.locals)
    (hLf : env.locals ∉ fp) (hwr : ∀ b ∈ wr, g.get? b = none) (hst : St 0 s.heap) (F : Fr g env.locals s.heap m) (h0 : J 0 m s.heap) (hcell : ∀ i m h, J i m h → ∃ o v, h.get? c = some o ∧ o.data = .cell v)
    (turn : ∀ i v m₁ h₁ h tk, i < n → P i v → J i m₁ h₁ → Kept (c :: wr) h₁ h → St (i + 1) h → (∃ o, h.get? c = some o ∧ o.data = .cell (some v)) → Fr g env.locals h m₁ →
      wpAny (model prg w) A (execs body env) (TurnR g env.locals fp (J (i + 1)) s h Q) E { s with heap := h, toks := tk })
    (done : ∀ m' h₁ h tk, J n m' h₁ → Kept wr h₁ h → Fr g env.locals h m' → Q .next { s with heap := h, toks := tk })
    (hE : PassesOwn (model prg w) A env E) :
    codeAny (model prg w) A (.forLoop (.Name x px) (.ref I) body [] env) (fun r s' => match r with | .ok f => Q f s' | .error e => cameBackBy (model prg w) A env E e s') s := by
  have hLw : env.locals ∉ wr := fun h => hLf (W.sub _ h)
  have hcw : c ∉ wr := fun h => hcf (W.sub _ h)
  refine codeAny_forLoop (LoopI s g env.locals J St n) ?_ (n + 1) ⟨s.heap, s.toks, m, 0, rfl, hst, F, h0, Nat.zero_le _, rfl⟩
  rintro k s' ⟨h', tk, m', i, rfl, hst', F', hJ, hi, rfl⟩
  have next : ∀ h₁ : Heap, (∀ b o, b ∉ wr → h'.get? b = some o → h₁.get? b = some o) → Fr g env.locals h₁ m' := fun h₁ hk₁ => Mine.Fr.behind F' hwr hLw hk₁
  by_cases hlt : i < n
  · refine W.item i _ _ _ hlt hst' fun v h₁ tk₁ hP hst₁ hk₁ => ?_
    have F₁ := next h₁ hk₁
    obtain ⟨oc, v₀, hoc, hdc⟩ := hcell i m' h' hJ
    refine wpAny_assign_Name (wpAny_storeName_cell hp hx hc ⟨oc, hk₁ _ _ hcw hoc, hdc⟩ (fun h₂ hv₂ hs₂ => ?_))
    have F₂ : Fr g env.locals h₂ m' := Mine.Fr.behind F₁ (M := [c]) (all1 (hcg)) (not1 (Ne.symm hcL)) (Kept.one hs₂)
    have hst₂ : St (i + 1) h₂ := W.frame _ _ _ hst₁ fun b hb o e => (hs₂.2 b fun q => hcf (q ▸ hb)).trans e
    have K₂ : Kept (c :: wr) h' h₂ := fun b o hb e => by
      simp only [List.mem_cons, not_or] at hb
      exact (hs₂.2 b hb.1).trans (hk₁ b o hb.2 e)
    refine wpAny_passesOwn hE (wpAny_mono (turn i v m' h' h₂ _ hlt hP hJ K₂ hst₂ hv₂ F₂) (fun f s₃ h₃ => ?_) fun _ _ e => e)
    cases f with
    | ret v => exact h₃
    | brk => exact h₃
    | cont =>
      obtain ⟨h₃', tk₃, m₂, rfl, F₃, ha₃, hJ₃⟩ := h₃
      exact ⟨n + 1 - (i + 1), fuel_lt hlt, h₃', tk₃, m₂, i + 1, rfl, W.frame _ _ _ hst₂ ha₃, F₃, hJ₃, hlt, rfl⟩
    | next =>
      obtain ⟨h₃', tk₃, m₂, rfl, F₃, ha₃, hJ₃⟩ := h₃
      exact ⟨n + 1 - (i + 1), fuel_lt hlt, h₃', tk₃, m₂, i + 1, rfl, W.frame _ _ _ hst₂ ha₃, F₃, hJ₃, hlt, rfl⟩
  · have hin : i = n := by lia
    subst hin
    refine W.done _ _ _ hst' fun h₁ tk₁ hk₁ => wpAny_execs_nil ?_
    exact done m' h' h₁ tk₁ hJ hk₁ (next h₁ hk₁)

theorem range_size (n : Nat) : Builtin.Range.rangeSize 0 (n : Int) 1 = n := by
  unfold Builtin.Range.rangeSize
  rw [if_pos (by decide)]
  split <;> lia
theorem range_small {n : Nat} (hn : n ≤ 1000) : Builtin.Range.small 0 (n : Int) 1 = true := by
  have fl : ∀ x : Int, 0 ≤ x → x ≤ 1000 → Builtin.Range.rangeFitsLong x = true := by
    intro x h1 h2
    unfold Builtin.Range.rangeFitsLong
    simp
    lia
  unfold Builtin.Range.small
  rw [range_size, fl 0 (by lia) (by lia), fl n (by lia) (by lia), fl 1 (by lia) (by lia), if_pos (by decide), show (n : Int) + (1 - 1) = n by lia, fl n (by lia) (by lia)]
  simp

/-- a for over range(n) whose target is a cell -/
theorem iterRangeC {w : World} {A : Around} {E : Value → Shared → Prop} {s : Shared} {env : Env} {g : Heap} {x : Str} {px : Pos} {body : List Stmt} {Q : Flow → Shared → Prop} {r c : Addr} {n : Nat} {t u v : Tok} {m : Str → Option Value}
    (J : Nat → (Str → Option Value) → Heap → Prop) (hh : A.handled = none) (hx : env.kindOf x = some .cell) (hp : env.scope.kind = .function) (hc : env.cells.lookup x = some c) (hcs : @LT.lt Nat _ c s.heap.objs.size) (hcg : g.get? c = none) (hcL : c ≠ env.locals)
    (hr : IsRange s.heap r 0 n 1 t u v) (hn : n ≤ 1000) (F : Fr g env.locals s.heap m) (h0 : ∀ h', Kept [] s.heap h' → J 0 m h') (hcell : ∀ i m h, J i m h → ∃ o v, h.get? c = some o ∧ o.data = .cell v)
    (turn : ∀ i t m₁ h₁ h tk, i < n → J i m₁ h₁ → Kept [c, s.heap.objs.size] h₁ h → (∃ o, h.get? s.heap.objs.size = some o ∧ o.cls = .type "range_iterator") → (∃ o, h.get? c = some o ∧ o.data = .cell (some (.int (i : Int) t))) → Fr g env.locals h m₁ →
      wpAny (model prg w) A (execs body env) (TurnR g env.locals [s.heap.objs.size] (J (i + 1)) s h Q) E { s with heap := h, toks := tk })
    (done : ∀ m' h₁ h tk, J n m' h₁ → Kept [s.heap.objs.size] h₁ h → Fr g env.locals h m' → Q .next { s with heap := h, toks := tk })
    (hE : PassesOwn (model prg w) A env E) :
    wpAny (model prg w) A (pyIter (.ref r)) (fun it s₂ => codeAny (model prg w) A (.forLoop (.Name x px) it body [] env) (fun r s' => match r with | .ok f => Q f s' | .error e => cameBackBy (model prg w) A env E e s') s₂) E s := by
  refine wpAny_pyIter_range hr (range_small hn) ?_
  have W := Walks.range (prog := prg) (w := w) hh s.heap.objs.size 0 1 n
  have F1 := F.push { cls := .type "range_iterator", data := .fields #[rawInt 0, rawInt (Builtin.Range.rangeSize 0 n 1), rawInt 1] }
  refine loopRC (s := { s with heap := s.heap.push _ }) J W hx hp hc ?_ hcg hcL ?_ ?_ ?_ F1 (h0 _ (Kept.push _ _)) hcell ?_ ?_ hE
  · exact not1 (Nat.ne_of_lt hcs)
  · exact not1 (Nat.ne_of_lt F.ns.lt)
  · intro b hb
    rw [mem1 hb]
    exact Mine.Fr.high F (Nat.le_of_lt F.ns.lt)
  · rw [range_size]
    have e := Heap.get?_push_size s.heap (o := { cls := .type "range_iterator", data := .fields #[rawInt 0, rawInt (n : Int), rawInt 1] }) rfl
    show IsRangeIter _ _ (0 + ((0 : Nat) : Int) * 1) ((n : Int) - ((0 : Nat) : Int)) 1
    rw [show (0 + ((0 : Nat) : Int) * 1) = 0 by simp, show ((n : Int) - ((0 : Nat) : Int)) = n by simp]
    exact e
  · intro i v m₁ h₁ h tk hlt hP hJ K hst hcl Fh
    obtain ⟨t, ev⟩ := hP
    rw [Int.zero_add, Int.mul_one] at ev
    subst ev
    exact turn i t m₁ h₁ h tk hlt hJ K ⟨_, hst, rfl⟩ hcl Fh
  · intro m' h₁ h tk hJ K Fh
    exact done m' h₁ h tk hJ K Fh
/-- a sorter made anew -/
theorem ph2 {w : World} {s : Shared} {mg mb : Str → Option Value} {g : Heap} {L fa : Addr} {cd : Value} {m : Str → Option Value} {Q : Flow → Shared → Prop}
    (Gg : Gnd w mg mb g) (F : Fr g L s.heap m)
    (hQ : ∀ h' tk q, Fr g L h' (fun y => if y = Str.ofString "sorter" then some (.ref q.S) else m y) → Kept [L] s.heap h' → SoAt w q h' → q.rv = .none → q.npo = 0 → q.nfi = 0 → q.keys = [] → (∀ k, q.succ k = []) → (∀ k, q.np k = 0) → (∀ a ∈ q.foot, @LE.le Nat _ s.heap.objs.size a) → Q .next { s with heap := h', toks := tk }) :
    wpAny (model prg w) (callerA.deeper (envL L fa cd)) (exec (lawStmt 2) (envL L fa cd)) Q (fun _ _ => False) s := by
  have X' := Gg.X
  have T' := Gg.T
  refine wpAny_Assign_Name ?_
  repeat walk_at "q"
  refine callWith_K0 (K := hd.heap_39 w.params) (X'.keeps F.keep) (by k_is) ?_
  refine wpAny_call (makeR F X' (by k_is) (by k_is) (by k_is) ?_)
  intro h2 F2 K2 d2 x2
  have lL : @LT.lt Nat _ L s.heap.objs.size := F.ns.lt
  have lx2 : @LT.lt Nat _ (s.heap.objs.size + 1) h2.objs.size := Heap.lt_size x2
  refine codeAny_AS rfl (Nat.le_of_ble_eq_true rfl) (Nat.le_of_ble_eq_true rfl) (init_spec Gg F2.keep x2 (Mine.Fr.high F2 (Nat.le_of_lt (Nat.lt_succ_of_lt lL))) d2 (Mine.Fr.high F2 (Nat.le_of_lt lL)) ?_)
  intro h3 tk3 D hs ts us n K3 lD mD dD e3
  dsimp only at K3 lD ⊢
  generalize ex : s.heap.objs.size + 1 = x at *
  generalize ed : s.heap.objs.size = dx at *
  have ex : @Eq Nat (dx + 1) x := ex
  have F3 := Mine.Fr.behind F2 (M := [dx]) (all1 (Mine.Fr.high F2 (Nat.le_of_lt lL))) (not1 (Nat.ne_of_lt lL)) K3
  have x3 := K3 _ _ (not1 (neN (by lia))) x2
  have lD' : @LE.le Nat _ h2.objs.size D := lD
  have S3 : SoAt w ⟨x, dx, D, .none, 0, 0, [], fun _ => 0, fun _ => 0, fun _ => 0, fun _ => 0, fun _ => []⟩ h3 := by
    exact ⟨x3, ⟨hs, ts, us, n, e3⟩, mD, dD, List.forall_mem_nil _, List.forall_mem_nil _, List.forall_mem_nil _, List.forall_mem_nil _, neN (by show @Ne Nat D dx; lia), List.forall_mem_nil _⟩
  refine ⟨rfl, ?_⟩
  dsimp only
  walk_at "q"
  rename_i h4 F4 K4
  have K04 : Kept [L] s.heap h4 := by
    intro b o hb e
    have lb : @LT.lt Nat _ b dx := by rw [← ed]; exact Heap.lt_size e
    exact K4 _ _ hb (K3 _ _ (not1 (Nat.ne_of_lt lb)) (K2 _ _ List.not_mem_nil e))
  refine hQ h4 _ ⟨x, dx, D, .none, 0, 0, [], fun _ => 0, fun _ => 0, fun _ => 0, fun _ => 0, fun _ => []⟩ F4 K04 (S3.kept K4 ?_) rfl rfl rfl rfl (fun _ => rfl) (fun _ => rfl) ?_
  · intro a ha hf
    rw [mem1 ha] at hf
    simp only [So.foot, List.flatMap_nil, List.mem_cons, List.not_mem_nil, or_false] at hf
    have hf : @Eq Nat L x ∨ @Eq Nat L dx ∨ @Eq Nat L D := hf
    have lx : @LT.lt Nat _ L x := by rw [← ex]; exact Nat.lt_succ_of_lt lL
    rcases hf with c | c | c
    · exact absurd c (Nat.ne_of_lt lx)
    · exact absurd c (Nat.ne_of_lt lL)
    · exact absurd c (Nat.ne_of_lt (Nat.lt_of_lt_of_le (Nat.lt_trans lx lx2) lD'))
  · intro a ha
    simp only [So.foot, List.flatMap_nil, List.mem_cons, List.not_mem_nil, or_false] at ha
    have ha : @Eq Nat a x ∨ @Eq Nat a dx ∨ @Eq Nat a D := ha
    lia

theorem ints_rep : ∀ (n : Nat) (t : Tok), IntsAre (List.replicate n (.int 0 t)) (List.replicate n 0)
  | 0, _ => .nil
  | n + 1, t => .cons 0 t (ints_rep n t)

/-- `[0] * 8` -/
theorem ph2b {w : World} {s : Shared} {mg mb : Str → Option Value} {g : Heap} {L fa : Addr} {cd : Value} {m : Str → Option Value} {Q : Flow → Shared → Prop}
    (Gg : Gnd w mg mb g) (F : Fr g L s.heap m)
    (hQ : ∀ h' tk AP vs n, Fr g L h' (fun y => if y = Str.ofString "apart" then some (.ref AP) else m y) → Kept [L] s.heap h' → h'.get? AP = some (listOf vs.toArray n) → IntsAre vs (List.replicate 8 0) → @LE.le Nat _ s.heap.objs.size AP → Q .next { s with heap := h', toks := tk }) :
    wpAny (model prg w) (callerA.deeper (envL L fa cd)) (exec (lawStmt 3) (envL L fa cd)) Q (fun _ _ => False) s := by
  have X' := Gg.X
  have T' := Gg.T
  refine wpAny_Assign_Name ?_
  repeat walk_at "q"
  refine newListR F ?_
  intro h2 F2 K2 l2
  dsimp only at K2 l2 ⊢
  repeat walk_at "q"
  refine mul_list F2 all_raw l2 (by decide) (by decide) (by show 1 * 8 ≤ 2 ^ 24; decide) ?_
  intro h3 F3 N3
  have K3 : Kept [L] h2 h3 := all_back F2 F3 N3 (fun p hp => .tail _ hp)
  have a3 := (N3 _ (.head _)).1
  have le2 : @LT.lt Nat _ s.heap.objs.size h2.objs.size := Heap.lt_size l2
  have lL2 : @LT.lt Nat _ L h2.objs.size := F2.ns.lt
  dsimp only at a3 K3 ⊢
  walk_at "q"
  rename_i h4 F4 K4
  refine hQ h4 _ h2.objs.size (List.replicate 8 (.int 0 s.toks)) 0 F4 (((K2.mono (List.forall_mem_nil _)).trans K3).trans K4) (K4 _ _ (not1 (Nat.ne_of_gt lL2)) a3) (ints_rep 8 s.toks) (Nat.le_of_lt le2)
abbrev forBody (st : Stmt) : List Stmt := match st with | .For _ _ b _ _ => b | _ => []
abbrev lawB (i k : Nat) : Stmt := (forBody (lawStmt i)).getD k default
/-- who is over when `j` begins -/
def ovs (be : List (Int × Int)) (j : Nat) : List Nat := (List.range 8).filter fun i => decide ((be.getD i (0, 0)).2 ≤ (be.getD j (0, 0)).1)

theorem item_listR {w : World} {A : Around} {E : Value → Shared → Prop} {s : Shared} {l : Addr} {vs : List Value} {n i : Nat} {v : Value} {u : Tok} {value slice : Expr} {Q : Value → Shared → Prop} (hl : s.heap.get? l = some (listOf vs.toArray n)) (e : vs[i]? = some v) (hn : vs.length ≤ 100000) (h : Q v s)
    (hs : subscripted slice false (.ref l) (.int (i : Int) u) = operate [.ref l, .int (i : Int) u] (getItem (.ref l) (.int (i : Int) u)) := by with_unfolding_all rfl) :
    wpAny (model prg w) A (subscriptTail value slice (.ref l) (.int (i : Int) u)) Q E s := by
  have hi : s.heap.IsList l vs.toArray := ⟨_, hl, rfl, _, rfl⟩
  have hlt : i < vs.length := (List.getElem?_eq_some_iff.mp e).1
  exact tail_any hi.typeIs PySem.slot_list_getitem.lookup (wpAny_getItem_list hi (by lia) (by lia) (by simpa using e) h) hs
theorem item_pairR {w : World} {A : Around} {E : Value → Shared → Prop} {s : Shared} {a : Addr} {vs : List Value} {i : Nat} {v : Value} {u : Tok} {value slice : Expr} {Q : Value → Shared → Prop} (ht : s.heap.get? a = some (tupOf vs)) (e : vs[i]? = some v) (hn : vs.length ≤ 1000) (h : Q v s)
    (hs : subscripted slice false (.ref a) (.int (i : Int) u) = operate [.ref a, .int (i : Int) u] (getItem (.ref a) (.int (i : Int) u)) := by with_unfolding_all rfl) :
    wpAny (model prg w) A (subscriptTail value slice (.ref a) (.int (i : Int) u)) Q E s :=
  tail_any ⟨_, ht, rfl⟩ PySem.F.slot_tuple_getitem.lookup (getItem_tupR ht e hn h) hs
theorem Stays.at {h : Heap} {L T : Addr} {ts : List Addr} {be : List (Int × Int)} (x : Stays h L T ts be) {i : Nat} (hi : i < be.length) : ∃ a t u, ts[i]? = some a ∧ h.get? a = some (tupOf [.int (be.getD i (0, 0)).1 t, .int (be.getD i (0, 0)).2 u]) := by
  have hi' : i < ts.length := by rw [x.len]; exact hi
  have e1 : ts[i]? = some ts[i] := List.getElem?_eq_getElem hi'
  have e2 : be[i]? = some (be.getD i (0, 0)) := by rw [List.getD_eq_getElem?_getD, List.getElem?_eq_getElem hi]; rfl
  obtain ⟨t, u, e⟩ := x.tup i _ _ e1 e2
  exact ⟨_, t, u, e1, e⟩

theorem walks_lt {w : World} {A : Around} {I : Addr} {fp wr : List Addr} {n : Nat} {P : Nat → Value → Prop} {St : Nat → Heap → Prop} (W : Walks prg w A I fp wr n P St) : Walks prg w A I fp wr n (fun i v => i < n ∧ P i v) St where
  sub := W.sub
  frame := W.frame
  item := fun i s Q E hi st hQ => W.item i s Q E hi st fun v h' tk hP hs hk => hQ v h' tk ⟨hi, hP⟩ hs hk
  done := W.done
  self := W.self
def ovP (be : List (Int × Int)) (j : Nat) (v : Value) : Bool := match v with | .int i _ => decide ((be.getD i.toNat (0, 0)).2 ≤ (be.getD j (0, 0)).1) | _ => false
theorem ovs_ints {be : List (Int × Int)} {j : Nat} : ∀ {is : List Nat} {vs ys : List Value}, vs.length = is.length → (∀ (k : Nat) (v : Value), vs[k]? = some v → ∃ (i : Nat) (t : Tok), is[k]? = some i ∧ v = Value.int (i : Int) t) → Paired (fun v y => v = y) (vs.filter (ovP be j)) ys →
    IntsAre ys ((is.filter fun i => decide ((be.getD i (0, 0)).2 ≤ (be.getD j (0, 0)).1)).map Int.ofNat)
  | [], vs, ys, hl, _, hp => by
    have : vs = [] := List.length_eq_zero_iff.mp hl
    subst this
    cases hp
    exact .nil
  | i :: is, [], ys, hl, _, _ => by simp at hl
  | i :: is, v :: vs, ys, hl, hv, hp => by
    obtain ⟨i', t, e, rfl⟩ := hv 0 v rfl
    cases e
    have ih := fun {ys : List Value} hp => ovs_ints (be := be) (j := j) (is := is) (vs := vs) (ys := ys) (by simpa using hl) (fun k v e => hv (k + 1) v e) hp
    rw [List.filter_cons] at hp ⊢
    have ep : ovP be j (.int (i : Int) t) = decide ((be.getD i (0, 0)).2 ≤ (be.getD j (0, 0)).1) := by
      show decide ((be.getD (i : Int).toNat (0, 0)).2 ≤ (be.getD j (0, 0)).1) = _
      rw [Int.toNat_natCast]
    rw [ep] at hp
    by_cases c : (be.getD i (0, 0)).2 ≤ (be.getD j (0, 0)).1
    · rw [if_pos (decide_eq_true c)] at hp ⊢
      cases hp with
      | cons hf hp =>
        subst hf
        exact .cons _ t (ih hp)
    · rw [if_neg (by rw [decide_eq_true_eq]; exact c)] at hp ⊢
      exact ih hp

theorem ph4a {w : World} {s : Shared} {mg mb : Str → Option Value} {g : Heap} {L fa : Addr} {cd : Value} {m : Str → Option Value} {T : Addr} {ts : List Addr} {be : List (Int × Int)} {j : Nat} {tj : Tok} {Q : Flow → Shared → Prop}
    (Gg : Gnd w mg mb g) (F : Fr g L s.heap m) (st : Stays s.heap L T ts be) (hbe : be.length = 8) (hj : j < 8) (hcj : ∃ o, s.heap.get? (L + 1 + 1) = some o ∧ o.data = .cell (some (.int (j : Int) tj)))
    (hQ : ∀ h' tk O vs n, Fr g L h' (fun y => if y = Str.ofString "over" then some (.ref O) else m y) → Kept [L] s.heap h' → h'.get? O = some (listOf vs.toArray n) → IntsAre vs ((ovs be j).map Int.ofNat) → s.heap.get? O = none → O ≠ L → Q .next { s with heap := h', toks := tk }) :
    wpAny (model prg w) (callerA.deeper (envL L fa cd)) (exec (lawB 4 0) (envL L fa cd)) Q (fun _ _ => False) s := by
  have X' := Gg.X
  have T' := Gg.T
  refine wpAny_Assign_ListComp_free (cl := [(Str.ofString "stays", L + 1), (Str.ofString "j", L + 1 + 1)]) (ovP be j) (fun v y => v = y) rfl rfl (by decide) rfl (by decide) rfl rfl rfl ?_
  repeat walk_at "q"
  refine rangeR F ?_
  intro h1 tk1 ta tb F1 K1 r1
  dsimp only at K1 r1 ⊢
  replace r1 : IsRange h1 s.heap.objs.size 0 ((8 : Nat) : Int) 1 ta _ tb := r1
  refine wpAny_pyIter_range r1 (range_small (by decide)) ?_
  have F2 := F1.push { cls := .type "range_iterator", data := .fields #[rawInt 0, rawInt (Builtin.Range.rangeSize 0 ((8 : Nat) : Int) 1), rawInt 1] }
  have K2 := Kept.push h1 { cls := .type "range_iterator", data := .fields #[rawInt 0, rawInt (Builtin.Range.rangeSize 0 ((8 : Nat) : Int) 1), rawInt 1] }
  have i2 : IsRangeIter (h1.push { cls := .type "range_iterator", data := .fields #[rawInt 0, rawInt (Builtin.Range.rangeSize 0 ((8 : Nat) : Int) 1), rawInt 1] }) h1.objs.size (0 + ((0 : Nat) : Int) * 1) (((8 : Nat) : Int) - ((0 : Nat) : Int)) 1 := by
    rw [range_size]
    exact Heap.get?_push_size _ rfl
  have lI : @LT.lt Nat _ L h1.objs.size := F1.ns.lt
  have lI0 : @LT.lt Nat _ s.heap.objs.size h1.objs.size := Heap.lt_size r1
  dsimp only
  generalize h1.push { cls := .type "range_iterator", data := .fields #[rawInt 0, rawInt (Builtin.Range.rangeSize 0 ((8 : Nat) : Int) 1), rawInt 1] } = h2 at *
  generalize eI : h1.objs.size = I at *
  have K02 : Kept [] s.heap h2 := K1.trans K2
  have lI2 : @LT.lt Nat _ I h2.objs.size := Heap.lt_size i2
  refine ⟨I, [I], [I], 8, _, _, _, rfl, walks_lt (Walks.range rfl I 0 1 8), by decide, i2, (all1 (lI2)), not1 (Nat.ne_of_lt lI), F2.ns, ⟨?tests, ?elt⟩, ?_⟩
  case elt =>
    rintro C i v s₃ m₃ E' hC hP hpv hn hm hkp htk
    refine wpAny_Name (wpAny_loadName_local rfl rfl hn hm ?_)
    exact ⟨rfl, _, _, rfl, fun _ _ e => e⟩
  case tests =>
    rintro C i v s₃ m₃ E' hC ⟨hi8, t, ev⟩ hn hm hkp htk
    rw [Int.zero_add, Int.mul_one] at ev
    subst ev
    have up : ∀ {b : Addr} {o : Obj}, s.heap.get? b = some o → s₃.heap.get? b = some o := fun {b o} e => hkp b o (not1 (neN (by have : @LT.lt Nat _ b s.heap.objs.size := Heap.lt_size e; lia))) (K02 _ _ List.not_mem_nil e)
    obtain ⟨oc, hoc, hdc⟩ := st.cell
    obtain ⟨oj, hoj, hdj⟩ := hcj
    obtain ⟨nT, hT⟩ := st.lst
    obtain ⟨ai, t1, u1, ea, hai⟩ := st.at (i := i) (by lia)
    obtain ⟨aj, t2, u2, eb, haj⟩ := st.at (i := j) (by lia)
    have ltl : (ts.map Value.ref).length ≤ 100000 := by rw [List.length_map, st.len]; lia
    refine wpAny_tests_one ?_
    refine wpAny_isTrue_Compare1 ?_
    refine Subscript_ ?_
    refine Subscript_ ?_
    refine wpAny_Name (wpAny_loadName_cell rfl rfl rfl ⟨oc, up hoc, hdc⟩ ?_)
    refine wpAny_Name (wpAny_loadName_local rfl rfl hn hm ?_)
    refine item_listR (up hT) (by rw [List.getElem?_map, ea]; rfl) ltl ?_ (by with_unfolding_all rfl)
    refine wpAny_Constant_int ?_
    refine item_pairR (i := 1) (up hai) rfl (by simp) ?_ (by with_unfolding_all rfl)
    refine Subscript_ ?_
    refine Subscript_ ?_
    refine wpAny_Name (wpAny_loadName_cell rfl rfl rfl ⟨oc, up hoc, hdc⟩ ?_)
    refine wpAny_Name (wpAny_loadName_cell rfl rfl rfl ⟨oj, up hoj, hdj⟩ ?_)
    refine item_listR (up hT) (by rw [List.getElem?_map, eb]; rfl) ltl ?_ (by with_unfolding_all rfl)
    refine wpAny_Constant_int ?_
    refine item_pairR (i := 0) (up haj) rfl (by simp) ?_ (by with_unfolding_all rfl)
    repeat walk_at "q"
    exact ⟨by simp [ovP], _, _, rfl, fun _ _ e => e⟩
  intro O h3 tk3 ys vs hOn hOl hOp hvl hvP hpair hns K3
  have hys := ovs_ints (be := be) (j := j) (is := List.range 8) (by rw [hvl]; rfl) (fun k v e => by
    obtain ⟨hk8, t, ev⟩ := hvP k v e
    rw [Int.zero_add, Int.mul_one] at ev
    exact ⟨k, t, List.getElem?_range hk8, ev⟩) hpair
  obtain ⟨nO, eO⟩ := hOp
  have hOs : s.heap.get? O = none := by
    cases e : s.heap.get? O with
    | none => rfl
    | some o => rw [K02 _ _ List.not_mem_nil e] at hOn; cases hOn
  have hOL : O ≠ L := by
    rintro rfl
    obtain ⟨o, _, _, e, _⟩ := F2.ns
    rw [e] at hOn
    cases hOn
  have hIg : g.get? I = none := Mine.Fr.high F2 (Nat.le_of_lt lI)
  have hgL : g.get? L = none := Mine.Fr.high F2 (Nat.le_refl _)
  have F3 : Fr g L h3 (fun y => if y = Str.ofString "over" then some (.ref O) else m y) := ⟨hns, fun b o e => K3 b o (fun c => by have c : b = L := c; rw [c, hgL] at e; cases e) (not1 (fun c => by rw [c, hIg] at e; cases e)) (F2.keep b o e), F2.above⟩
  refine hQ h3 tk3 O ys.toList nO F3 ?_ eO hys hOs hOL
  intro b o hb e
  have lb : @LT.lt Nat _ b s.heap.objs.size := Heap.lt_size e
  exact K3 b o (fun c => hb (by have c : b = L := c; rw [c]; exact .head _)) (not1 (neN (by lia))) (K02 _ _ List.not_mem_nil e)
/-- a bound method of the sorter's -/
theorem so_bound {w : World} {A : Around} {E : Value → Shared → Prop} {s : Shared} {L f : Addr} {g : Heap} {m : Str → Option Value} {q : So} {nm : Str} {expr : Bool} {Q : Value → Shared → Prop} (F : Fr g L s.heap m) (X : (hd.heap_39 w.params).In g) (St : SoAt w q s.heap)
    (hg : plainGet (hd.heap_39 w.params) 165 nm = true) (hh : hasDictIn (hd.heap_39 w.params) 165 = true) (ha : findIn (hd.heap_39 w.params) (.ref 165) nm = some (some (.ref f))) (hf : isFn (hd.heap_39 w.params) (.ref f) = true) (hgf : specialIn (hd.heap_39 w.params) (.ref f) "__get__" = some (some (.builtin "function.__get__"))) (ht : takesIn (hd.heap_39 w.params) (.ref f) = some false)
    (hc : copiedNames.contains nm = false) (hl : ∀ hs ts us, getL nm (soEs hs ts q.D q.rv q.npo q.nfi us) = some none)
    (h : ∀ B h', Fr g L h' m → Kept [L] s.heap h' → h'.get? B = some (methodObj (.ref f) (.ref q.S)) → B ≠ L → g.get? B = none → Q (.ref B) { s with heap := h', toks := s.toks + 1 }) :
    wpAny (model prg w) A (getAttr (.ref q.S) nm expr) Q E s := by
  obtain ⟨hs, ts, us, n, e⟩ := St.own
  refine kbm_bound F X (all_raw (g := g) (L := L)) ⟨St.inst, rfl, rfl, e⟩ hg hh ha hf hgf ht hc (hl hs ts us) ?_
  intro B h' F' N' _
  exact h B h' F' (all_back F F' N' (fun p hp => .tail _ hp)) (N' _ (.head _)).1 (N' _ (.head _)).2.1 (N' _ (.head _)).2.2

/-- a method's call with a star -/
theorem StarCall_ {M : Model} {A : Around} {E : Value → Shared → Prop} {s : Shared} {env : Env} {o : Expr} {name : Str} {apos pos : Pos} {args : List Expr} {Q : Value → Shared → Prop}
    (h : wpAny M A (eval o env) (fun ov s₁ => wpAny M A (getAttr ov name true) (fun f s₂ => wpAny M A (callWith pos f [] (backTo pos (starEach args env)) []) Q E s₂) E s₁) E s)
    (he : eval (.Call (.Attribute o name apos) args [] pos) env = (do
      let ov ← eval o env
      standAt apos.atName
      let (f, first) ← holding [ov] (do pure (← getAttr ov name true, []))
      callWith pos f first (backTo pos (starEach args env)) []) := by rfl) :
    wpAny M A (eval (.Call (.Attribute o name apos) args [] pos) env) Q E s := by
  rw [he]
  exact wpAny_bind (wpAny_mono h (fun ov s₁ h₁ => wpAny_bind (wpAny_standAt (wpAny_bind (wpAny_holding (wpAny_bind (wpAny_mono h₁ (fun f s₂ h₂ => wpAny_pure h₂) fun _ _ x => x)))))) fun _ _ x => x)

section
variable {w : World} {A : Around} {E : Value → Shared → Prop} {s : Shared} {env : Env} {pos p : Pos} {B f : Addr} {self : Value} {Q : Value → Shared → Prop} {e : Expr} {rest : List Expr}
theorem callWith_B2 (hf : fnIn (hd.heap_39 w.params) f = true) (h : wpAny (model prg w) A (spliced (backTo pos (starEach (e :: rest) env))) (fun vs s₁ => MethP (hd.heap_39 w.params) B f self s₁.heap ∧ wpAny (model prg w) A (call (.ref B) ([] ++ vs)) Q E s₁) E s)
    (he : starEach (e :: rest) env = (false, eval e env) :: starEach rest env := by rfl) (hst : (backTo pos (starEach rest env)).any (·.1) = true := by rfl) :
    wpAny (model prg w) A (callWith pos (.ref B) [] (backTo pos (starEach (e :: rest) env)) []) Q E s := by
  rw [he] at h ⊢
  exact ks_call (by show (false || (backTo pos (starEach rest env)).any (·.1)) = true; rw [hst]; rfl) (keeps_M hf) (evalArgs_plain h)
theorem callWith_B1 (hf : fnIn (hd.heap_39 w.params) f = true) (h : wpAny (model prg w) A (eval e env) (fun v s₁ => StarOf (model prg w) A E v (fun vs s₂ => MethP (hd.heap_39 w.params) B f self s₂.heap ∧ wpAny (model prg w) A (call (.ref B) ([] ++ vs)) Q E s₂) s₁) E s)
    (he : starEach [.Starred e p] env = [(true, eval e env)] := by rfl) :
    wpAny (model prg w) A (callWith pos (.ref B) [] (backTo pos (starEach [.Starred e p] env)) []) Q E s := by
  rw [he]
  exact ks_call rfl (keeps_M hf) (ks_lone h)
end

/-- `sorter.add(j, *over)` -/
theorem ph4b {w : World} {s : Shared} {mg mb : Str → Option Value} {g : Heap} {L fa : Addr} {cd : Value} {m : Str → Option Value} {q : So} {j : Nat} {tj : Tok} {O : Addr} {vs : List Value} {n : Nat} {ps : List Int} {Q : Flow → Shared → Prop}
    (Gg : Gnd w mg mb g) (F : Fr g L s.heap m) (hsr : m (Str.ofString "sorter") = some (.ref q.S)) (hov : m (Str.ofString "over") = some (.ref O)) (hcj : ∃ o, s.heap.get? (L + 1 + 1) = some o ∧ o.data = .cell (some (.int (j : Int) tj)))
    (St : SoAt w q s.heap) (hrv : q.rv = .none) (hgt : ∀ a ∈ q.foot, @LT.lt Nat _ L a) (hO : s.heap.get? O = some (listOf vs.toArray n)) (hOL : O ≠ L) (hOg : g.get? O = none) (hi : IntsAre vs ps) (hlen : q.keys.length + ps.length ≤ 90) (hsl : ∀ k, (q.succ k).length ≤ 100)
    (hQ : ∀ h' tk q', q'.gr = q.gr.addN j ps → SameSo q q' → SoAt w q' h' → Fr g L h' m → Kept (L :: q.foot) s.heap h' → (∀ a ∈ q'.foot, a ∈ q.foot ∨ (s.heap.get? a = none ∧ @LT.lt Nat _ L a)) → Q .next { s with heap := h', toks := tk }) :
    wpAny (model prg w) (callerA.deeper (envL L fa cd)) (exec (lawB 4 1) (envL L fa cd)) Q (fun _ _ => False) s := by
  have X' := Gg.X
  have T' := Gg.T
  obtain ⟨oj, hoj, hdj⟩ := hcj
  refine wpAny_Expr ?_
  refine StarCall_ ?_
  refine ldL F hsr ?_
  refine so_bound F X' St (by k_is) (by k_is) (by k_is) (by k_is) (by k_is) (by k_is) (by decide +kernel) (fun _ _ _ => rfl) ?_
  intro B h1 F1 K1 b1 hBL hBg
  refine callWith_B2 (f := 115) (self := .ref q.S) (by k_is) ?_
  refine args_cons ?_
  have lj : @LT.lt Nat _ L (L + 1 + 1) := Nat.lt_succ_of_lt (Nat.lt_succ_self L)
  refine ldC cell_j (K1 _ _ (not1 (Nat.ne_of_gt lj)) hoj) hdj ?_
  refine items_star ?_
  refine ldL F1 hov ?_
  refine star_seq (o := listOf vs.toArray n) (ws := vs) F1 (all_raw (g := g) (L := L)) (mem_restOf.mpr ⟨K1 _ _ (not1 hOL) hO, hOL, hOL, hOg⟩) rfl rfl (.inl rfl) rfl (by rw [List.size_toArray, sizeLine_eq, hi.length]; lia) ?_
  intro h2 F2 N2
  have K2 : Kept [L] h1 h2 := all_back F1 F2 N2 (fun p hp => hp)
  refine args_nil ?_
  have b2 := K2 _ _ (not1 hBL) b1
  refine ⟨⟨b2, X'.keeps F2.keep⟩, ?_⟩
  have St2 := (St.kept K1 (offs1 (fun hf => absurd (hgt _ hf) (Nat.lt_irrefl _)))).kept K2 (offs1 (fun hf => absurd (hgt _ hf) (Nat.lt_irrefl _)))
  simp only [List.cons_append, List.nil_append, List.append_nil]
  refine wpAny_call (method_call b2 (codeAny_AS rfl (Nat.le_of_ble_eq_true rfl) (Nat.le_of_ble_eq_true rfl) (add_spec Gg F2.keep St2 hrv (fun a ha => Mine.Fr.high F2 (Nat.le_of_lt (hgt a ha))) hi hlen hsl ?_)))
  intro h3 tk3 q' e3 s3 St3 K3 f3
  dsimp only at K3 f3 ⊢
  have F3 := Mine.Fr.behind F2 (M := q.foot) (fun a ha => Mine.Fr.high F2 (Nat.le_of_lt (hgt a ha))) (fun c => absurd (hgt _ c) (Nat.lt_irrefl _)) K3
  have lL2 : @LT.lt Nat _ L h2.objs.size := F2.ns.lt
  refine hQ h3 tk3 q' e3 s3 St3 F3 ?_ ?_
  · intro b o hb e
    simp only [List.mem_cons, not_or] at hb
    exact K3 _ _ hb.2 (K2 _ _ (not1 hb.1) (K1 _ _ (not1 hb.1) e))
  · intro a ha
    rcases f3 a ha with c | c
    · exact .inl c
    · refine .inr ⟨?_, Nat.lt_of_lt_of_le lL2 c⟩
      cases e : s.heap.get? a with
      | none => rfl
      | some o =>
        have hne : a ≠ L := Nat.ne_of_gt (Nat.lt_of_lt_of_le lL2 c)
        exact absurd (Heap.lt_size (K2 _ _ (not1 hne) (K1 _ _ (not1 hne) e))) (Nat.not_lt.mpr c)
/-! the tree of questions that a sort asks, answered by a key -/
abbrev KeyAt (f : Nat → Int) (p : Array Nat) (i : Nat) : Int := f (p.getD i 0)
def Srt (f : Nat → Int) (p : Array Nat) (k : Nat) : Prop := ∀ i j, i ≤ j → j < k → KeyAt f p i ≤ KeyAt f p j
def NonI (f : Nat → Int) (p : Array Nat) (k : Nat) : Prop := ∀ i j, i ≤ j → j < k → KeyAt f p j ≤ KeyAt f p i
def Asks (N : Nat) (f : Nat → Int) (I : Shared → Prop) (cmp : Nat → Nat → (Bool → Shared → Prop) → Shared → Prop) : Prop :=
  ∀ (i j : Nat) (C : Bool → Shared → Prop) (s : Shared), i < N → j < N → I s → (∀ s', I s' → C (decide (f i < f j)) s') → cmp i j C s
def OkP (N : Nat) (p : Array Nat) : Prop := p.toList.Perm (List.range N)

theorem OkP.size {N : Nat} {p : Array Nat} (h : OkP N p) : p.size = N := by
  have := h.length_eq
  rw [List.length_range] at this
  exact this
theorem OkP.lt {N : Nat} {p : Array Nat} (h : OkP N p) (hN : 0 < N) (k : Nat) : p.getD k 0 < N := by
  rw [Array.getD_eq_getD_getElem?]
  cases e : p[k]? with
  | none => exact hN
  | some x =>
    have hx : x ∈ p.toList := by
      obtain ⟨hk, e⟩ := Array.getElem?_eq_some_iff.mp e
      rw [← e]
      simp
    exact List.mem_range.mp (h.mem_iff.mp hx)
theorem OkP.rev {N : Nat} {p : Array Nat} (h : OkP N p) (i j : Nat) : OkP N (kas_rev p i j) := (Array.perm_iff_toList_perm.mp (mirror_perm p i j _)).trans h
theorem OkP.bub {N : Nat} {p : Array Nat} (h : OkP N p) (i j : Nat) : OkP N (bubble p i j) := (Array.perm_iff_toList_perm.mp (bubble_perm p i j)).trans h

theorem key_congr {f : Nat → Int} {p q : Array Nat} {i j : Nat} (h : p[i]? = q[j]?) : KeyAt f p i = KeyAt f q j := by
  unfold KeyAt
  rw [Array.getD_eq_getD_getElem?, Array.getD_eq_getD_getElem?, h]
theorem key_rev {f : Nat → Int} {p : Array Nat} {i j : Nat} (hj : j ≤ p.size) (k : Nat) : KeyAt f (kas_rev p i j) k = if i ≤ k ∧ k < j then KeyAt f p (i + j - 1 - k) else KeyAt f p k := by
  have e := getElem?_mirror_all (i := i) hj k
  by_cases h1 : i ≤ k ∧ k < j
  · rw [if_pos h1] at e ⊢; exact key_congr e
  · rw [if_neg h1] at e ⊢; exact key_congr e
theorem key_rev_eq {f : Nat → Int} {p : Array Nat} {i j : Nat} (hj : j ≤ p.size) (heq : ∀ k, i ≤ k → k < j → KeyAt f p k = KeyAt f p (j - 1)) (k : Nat) : KeyAt f (kas_rev p i j) k = KeyAt f p k := by
  rw [key_rev hj]
  split
  · rename_i h
    obtain ⟨d, rfl⟩ := Nat.exists_eq_add_of_lt h.2
    have e : i + (k + d + 1) - 1 - k = i + d := by
      show i + (k + d) - k = i + d
      rw [Nat.add_left_comm, Nat.add_sub_cancel_left]
    rw [e, heq _ (Nat.le_add_right _ _) (Nat.lt_succ_of_le (Nat.add_le_add_right h.1 d)), heq k h.1 h.2]
  · rfl
theorem key_bub {f : Nat → Int} {p : Array Nat} {src d : Nat} (hs : src < p.size) (hd : d ≤ src) (k : Nat) :
    KeyAt f (bubble p src d) k = if k = src - d then KeyAt f p src else if src - d < k ∧ k ≤ src then KeyAt f p (k - 1) else KeyAt f p k := by
  have e := getElem?_bubble hs d hd k
  by_cases h1 : k = src - d
  · rw [if_pos h1] at e ⊢; exact key_congr e
  · rw [if_neg h1] at e ⊢
    by_cases h2 : src - d < k ∧ k ≤ src
    · rw [if_pos h2] at e ⊢; exact key_congr e
    · rw [if_neg h2] at e ⊢; exact key_congr e

section
variable {N : Nat} {f : Nat → Int} {I : Shared → Prop} {cmp : Nat → Nat → (Bool → Shared → Prop) → Shared → Prop}

theorem Srt.succ {p : Array Nat} {n : Nat} (h : Srt f p n) (hn : 1 ≤ n) (c : KeyAt f p (n - 1) ≤ KeyAt f p n) : Srt f p (n + 1) := by
  intro i j hij hj
  by_cases e : j = n
  · subst e
    by_cases e2 : i = j
    · rw [e2]; exact Int.le_refl _
    · exact Int.le_trans (h i (j - 1) (Nat.le_sub_one_of_lt (Nat.lt_of_le_of_ne hij e2)) (Nat.sub_lt hn Nat.one_pos)) c
  · exact h i j hij (Nat.lt_of_le_of_ne (Nat.le_of_lt_succ hj) e)
theorem NonI.succ {p : Array Nat} {n : Nat} (h : NonI f p n) (hn : 1 ≤ n) (c : KeyAt f p n ≤ KeyAt f p (n - 1)) : NonI f p (n + 1) := by
  intro i j hij hj
  by_cases e : j = n
  · subst e
    by_cases e2 : i = j
    · rw [e2]; exact Int.le_refl _
    · exact Int.le_trans c (h i (j - 1) (Nat.le_sub_one_of_lt (Nat.lt_of_le_of_ne hij e2)) (Nat.sub_lt hn Nat.one_pos))
  · exact h i j hij (Nat.lt_of_le_of_ne (Nat.le_of_lt_succ hj) e)

theorem asc_wp (hA : Asks N f I cmp) {p : Array Nat} (hp : OkP N p) (hN : 0 < N) : ∀ (fu n : Nat) {Q : Nat → Shared → Prop} {s : Shared}, 1 ≤ n → Srt f p n → I s →
    (∀ m s', n ≤ m → m ≤ n + fu → Srt f p m → (m < n + fu → KeyAt f p m < KeyAt f p (m - 1)) → I s' → Q m s') → (kas_asc p fu n).kasWp cmp Q s
  | 0, n, Q, s, h1, hs, hI, h => h n s (Nat.le_refl _) (Nat.le_refl _) hs (fun c => absurd c (Nat.lt_irrefl _)) hI
  | fu + 1, n, Q, s, h1, hs, hI, h => by
    refine hA _ _ _ _ (hp.lt hN _) (hp.lt hN _) hI fun s' hI' => ?_
    dsimp only
    by_cases c : f (p.getD n 0) < f (p.getD (n - 1) 0)
    · rw [if_pos (decide_eq_true c)]
      exact h n s' (Nat.le_refl _) (by lia) hs (fun _ => c) hI'
    · rw [if_neg (fun x => c (of_decide_eq_true x))]
      exact asc_wp hA hp hN fu (n + 1) (by lia) (hs.succ h1 (by show f _ ≤ f _; lia)) hI' fun m s'' a b d e g => h m s'' (by lia) (by lia) d (fun x => e (by lia)) g

theorem desc_wp (hA : Asks N f I cmp) (hN : 0 < N) : ∀ (fu : Nat) (p : Array Nat) (n q : Nat) {Q : Array Nat × Nat × Nat → Shared → Prop} {s : Shared}, OkP N p → NonI f p n → (∀ j, n - (q + 1) ≤ j → j < n → KeyAt f p j = KeyAt f p (n - 1)) → q + 1 ≤ n → n + fu ≤ N → I s →
    (∀ p' n' q' s', OkP N p' → NonI f p' n' → (∀ j, n' - (q' + 1) ≤ j → j < n' → KeyAt f p' j = KeyAt f p' (n' - 1)) → q' + 1 ≤ n' → n ≤ n' → n' ≤ n + fu → I s' → Q (p', n', q') s') → (kas_desc fu p n q).kasWp cmp Q s
  | 0, p, n, q, Q, s, hp, hs, he, hq, hn, hI, h => h p n q s hp hs he hq (Nat.le_refl _) (Nat.le_refl _) hI
  | fu + 1, p, n, q, Q, s, hp, hs, he, hq, hn, hI, h => by
    refine hA _ _ _ _ (hp.lt hN _) (hp.lt hN _) hI fun s' hI' => ?_
    dsimp only
    have hz := hp.size
    have nx : n + 1 + fu ≤ N := by rw [Nat.add_right_comm]; exact hn
    have n1 : 1 ≤ n := Nat.le_trans (Nat.succ_le_succ (Nat.zero_le q)) hq
    have one : ∀ j, n + 1 - (0 + 1) ≤ j → j < n + 1 → j = n := fun j a b => Nat.le_antisymm (Nat.le_of_lt_succ b) a
    have fin : ∀ p' n' q' s'', OkP N p' → NonI f p' n' → (∀ j, n' - (q' + 1) ≤ j → j < n' → KeyAt f p' j = KeyAt f p' (n' - 1)) → q' + 1 ≤ n' → n + 1 ≤ n' → n' ≤ n + 1 + fu → I s'' → Q (p', n', q') s'' := fun p' n' q' s'' a1 a2 a3 a4 a5 a6 a7 => h p' n' q' s'' a1 a2 a3 a4 (Nat.le_of_succ_le a5) (by rw [Nat.add_right_comm] at a6; exact a6) a7
    by_cases c : f (p.getD n 0) < f (p.getD (n - 1) 0)
    · rw [if_pos (decide_eq_true c)]
      have c' : KeyAt f p n < KeyAt f p (n - 1) := c
      by_cases hq0 : q > 0
      · rw [if_pos hq0]
        have ek := key_rev_eq (f := f) (p := p) (i := n - (q + 1)) (j := n) (by rw [hz]; exact Nat.le_trans (Nat.le_add_right _ _) hn) he
        refine desc_wp hA hN fu _ (n + 1) 0 (hp.rev _ _) (NonI.succ ?_ n1 ?_) (fun j a b => ?_) (Nat.succ_le_succ (Nat.zero_le _)) nx hI' fin
        · intro i j hij hj
          rw [ek, ek]; exact hs i j hij hj
        · rw [ek, ek]; exact Int.le_of_lt c'
        · rw [one j a b]; rfl
      · rw [if_neg hq0]
        refine desc_wp hA hN fu _ (n + 1) 0 hp (NonI.succ hs n1 (Int.le_of_lt c')) (fun j a b => ?_) (Nat.succ_le_succ (Nat.zero_le _)) nx hI' fin
        rw [one j a b]; rfl
    · rw [if_neg (fun x => c (of_decide_eq_true x))]
      refine hA _ _ _ _ (hp.lt hN _) (hp.lt hN _) hI' fun s2 hI2 => ?_
      dsimp only
      by_cases d : f (p.getD (n - 1) 0) < f (p.getD n 0)
      · rw [if_pos (decide_eq_true d)]
        exact h p n q s2 hp hs he hq (Nat.le_refl _) (Nat.le_add_right _ _) hI2
      · rw [if_neg (fun x => d (of_decide_eq_true x))]
        have eq : KeyAt f p n = KeyAt f p (n - 1) := Int.le_antisymm (Int.not_lt.mp d) (Int.not_lt.mp c)
        refine desc_wp hA hN fu p (n + 1) (q + 1) hp (hs.succ n1 (Int.le_of_eq eq)) (fun j a b => ?_) (Nat.succ_le_succ hq) nx hI2 fin
        by_cases e : j = n
        · subst e; rfl
        · rw [he j (by rw [Nat.add_sub_add_right] at a; exact a) (Nat.lt_of_le_of_ne (Nat.le_of_lt_succ b) e), ← eq]; rfl

theorem tail3_wp (hA : Asks N f I cmp) (hN : 0 < N) {p : Array Nat} {n : Nat} {Q : Nat × Array Nat → Shared → Prop} {s : Shared} (hp : OkP N p) (hs : NonI f p n) (h1 : 1 ≤ n) (hn : n ≤ N) (hI : I s)
    (h : ∀ m p' s', OkP N p' → Srt f p' m → 1 ≤ m → m ≤ N → I s' → Q (m, p') s') : (kas_tail3 n N p).kasWp cmp Q s := by
  unfold kas_tail3
  rw [KasT.kasWp_bind]
  refine asc_wp hA (hp.rev _ _) hN _ _ h1 ?_ hI fun m s' a b c _ e => h m _ s' (hp.rev _ _) c (Nat.le_trans h1 a) (by rw [Nat.add_sub_cancel' hn] at b; exact b) e
  intro i j hij hj
  have hz : n ≤ p.size := by rw [hp.size]; exact hn
  rw [key_rev hz, key_rev hz, if_pos ⟨Nat.zero_le _, Nat.lt_of_le_of_lt hij hj⟩, if_pos ⟨Nat.zero_le _, hj⟩, Nat.zero_add]
  exact hs _ _ (Nat.sub_le_sub_left hij _) (Nat.lt_of_le_of_lt (Nat.sub_le _ _) (Nat.sub_lt h1 Nat.one_pos))

theorem descPart_wp (hA : Asks N f I cmp) (hN : 0 < N) {p : Array Nat} {n : Nat} {Q : Nat × Array Nat → Shared → Prop} {s : Shared} (hp : OkP N p) (hs : ∀ j, j < n → KeyAt f p j = KeyAt f p (n - 1)) (h1 : 1 ≤ n) (hn : n + 1 ≤ N) (hlt : KeyAt f p n < KeyAt f p (n - 1)) (hI : I s)
    (h : ∀ m p' s', OkP N p' → Srt f p' m → 1 ≤ m → m ≤ N → I s' → Q (m, p') s') : (kas_descPart n N p).kasWp cmp Q s := by
  unfold kas_descPart
  rw [KasT.kasWp_bind]
  refine desc_wp hA hN _ _ _ _ hp (NonI.succ (fun i j hij hj => ?_) h1 (Int.le_of_lt hlt)) (fun j a b => ?_) (Nat.succ_le_succ (Nat.zero_le _)) (by rw [Nat.add_sub_cancel' hn]; exact Nat.le_refl _) hI fun p' n' q' s' a1 a2 a3 a4 a5 a6 a7 => ?_
  · rw [hs i (Nat.lt_of_le_of_lt hij hj), hs j hj]; exact Int.le_refl _
  · rw [show j = n from Nat.le_antisymm (Nat.le_of_lt_succ b) a]; rfl
  · dsimp only
    have hz := a1.size
    rw [Nat.add_sub_cancel' hn] at a6
    have n1 : 1 ≤ n' := Nat.le_trans (Nat.succ_le_succ (Nat.zero_le _)) a4
    split
    · have ek := key_rev_eq (f := f) (p := p') (i := n' - (q' + 1)) (j := n') (by rw [hz]; exact a6) a3
      refine tail3_wp hA hN (a1.rev _ _) (fun i j hij hj => ?_) n1 a6 a7 h
      rw [ek, ek]; exact a2 i j hij hj
    · exact tail3_wp hA hN a1 a2 n1 a6 a7 h

theorem count_wp (hA : Asks N f I cmp) (hN : 0 < N) {p : Array Nat} {Q : Nat × Array Nat → Shared → Prop} {s : Shared} (hp : OkP N p) (hI : I s)
    (h : ∀ m p' s', OkP N p' → Srt f p' m → 1 ≤ m → m ≤ N → I s' → Q (m, p') s') : (kas_count N p).kasWp cmp Q s := by
  unfold kas_count
  rw [KasT.kasWp_bind]
  have hz := hp.size
  refine asc_wp hA hp hN _ _ (Nat.le_refl _) (fun i j hij hj => ?_) hI fun m s' a b c d e => ?_
  · rw [Nat.le_antisymm hij (Nat.le_trans (Nat.le_of_lt_succ hj) (Nat.zero_le _))]; exact Int.le_refl _
  · have mN : m ≤ N := by rw [Nat.add_sub_cancel' hN] at b; exact b
    by_cases hm : m = N
    · rw [if_pos (show (m == N) = true from by rw [hm]; exact beq_self_eq_true N)]
      exact h m p s' hp c a mN e
    · rw [if_neg (show ¬ (m == N) = true from fun x => hm (eq_of_beq x))]
      have hlt := Nat.lt_of_le_of_ne mN hm
      have hd := d (by rw [Nat.add_sub_cancel' hN]; exact hlt)
      by_cases h1 : m > 1
      · rw [if_pos h1]
        refine hA _ _ _ _ (hp.lt hN _) (hp.lt hN _) e fun s2 hI2 => ?_
        dsimp only
        by_cases cc : f (p.getD 0 0) < f (p.getD (m - 1) 0)
        · rw [if_pos (decide_eq_true cc)]
          exact h m p s2 hp c a mN hI2
        · rw [if_neg (fun x => cc (of_decide_eq_true x))]
          have alle : ∀ k, 0 ≤ k → k < m → KeyAt f p k = KeyAt f p (m - 1) := by
            intro k _ hk
            exact Int.le_antisymm (c k (m - 1) (Nat.le_sub_one_of_lt hk) (Nat.sub_lt a Nat.one_pos)) (Int.le_trans (Int.not_lt.mp cc) (c 0 k (Nat.zero_le _) hk))
          have ek := key_rev_eq (f := f) (p := p) (i := 0) (j := m) (by rw [hz]; exact mN) alle
          refine descPart_wp hA hN (hp.rev _ _) (fun j hj => ?_) a hlt ?_ hI2 h
          · rw [ek, ek]; exact alle j (Nat.zero_le _) hj
          · rw [ek, ek]; exact hd
      · rw [if_neg h1]
        have : m = 1 := Nat.le_antisymm (Nat.not_lt.mp h1) a
        subst this
        refine descPart_wp hA hN hp (fun j hj => ?_) (Nat.le_refl _) hlt hd e h
        rw [Nat.lt_one_iff.mp hj]

theorem place_wp (hA : Asks N f I cmp) (hN : 0 < N) {p : Array Nat} {k : Nat} (hp : OkP N p) (hk : k < N) (hs : Srt f p k) : ∀ (fu l r : Nat) {Q : Nat → Shared → Prop} {s : Shared}, l ≤ r → r ≤ k → r - l ≤ fu → (∀ i, i < l → KeyAt f p i ≤ KeyAt f p k) → (∀ i, r ≤ i → i < k → KeyAt f p k ≤ KeyAt f p i) → I s →
    (∀ l' s', l' ≤ k → (∀ i, i < l' → KeyAt f p i ≤ KeyAt f p k) → (∀ i, l' ≤ i → i < k → KeyAt f p k ≤ KeyAt f p i) → I s' → Q l' s') → (kas_place p k fu l r).kasWp cmp Q s
  | 0, l, r, Q, s, hlr, hrk, hf, hlo, hhi, hI, h => h l s (by lia) hlo (fun i a b => hhi i (by lia) b) hI
  | fu + 1, l, r, Q, s, hlr, hrk, hf, hlo, hhi, hI, h => by
    unfold kas_place
    by_cases hge : l ≥ r
    · rw [if_pos hge]
      exact h l s (by lia) hlo (fun i a b => hhi i (by lia) b) hI
    · rw [if_neg hge]
      have m1 : l ≤ (l + r) / 2 := (Nat.le_div_iff_mul_le Nat.two_pos).mpr (by rw [Nat.mul_two]; exact Nat.add_le_add_left hlr l)
      have m2 : (l + r) / 2 < r := Nat.div_lt_of_lt_mul (by rw [Nat.two_mul]; exact Nat.add_lt_add_right (Nat.not_le.mp hge) r)
      generalize (l + r) / 2 = md at m1 m2 ⊢
      have mk : md < k := Nat.lt_of_lt_of_le m2 hrk
      have mf : md - l ≤ fu ∧ r - (md + 1) ≤ fu := ⟨Nat.le_of_lt_succ (Nat.lt_of_lt_of_le (Nat.sub_lt_sub_right m1 m2) hf), Nat.le_of_lt_succ (Nat.lt_of_lt_of_le (Nat.sub_lt_sub_left (Nat.lt_of_le_of_lt m1 m2) (Nat.lt_succ_of_le m1)) hf)⟩
      refine hA _ _ _ _ (hp.lt hN _) (hp.lt hN _) hI fun s' hI' => ?_
      dsimp only
      by_cases c : f (p.getD k 0) < f (p.getD md 0)
      · rw [if_pos (decide_eq_true c)]
        exact place_wp hA hN hp hk hs fu l md m1 (Nat.le_of_lt mk) mf.1 hlo (fun i a b => Int.le_trans (Int.le_of_lt c) (hs md i a b)) hI' h
      · rw [if_neg (fun x => c (of_decide_eq_true x))]
        exact place_wp hA hN hp hk hs fu (md + 1) r m2 hrk mf.2 (fun i a => Int.le_trans (hs i md (Nat.le_of_lt_succ a) mk) (Int.not_lt.mp c)) hhi hI' h

theorem bin_wp (hA : Asks N f I cmp) (hN : 0 < N) : ∀ (fu : Nat) (p : Array Nat) (k : Nat) {Q : Array Nat → Shared → Prop} {s : Shared}, OkP N p → Srt f p k → k + fu = N → I s → (∀ p' s', OkP N p' → Srt f p' N → I s' → Q p' s') → (kas_bin fu p k).kasWp cmp Q s
  | 0, p, k, Q, s, hp, hs, hk, hI, h => h p s hp (by rw [← hk]; exact hs) hI
  | fu + 1, p, k, Q, s, hp, hs, hk, hI, h => by
    unfold kas_bin
    rw [KasT.kasWp_bind]
    refine place_wp hA hN hp (by lia) hs _ _ _ (Nat.zero_le _) (Nat.le_refl _) (by lia) (fun i a => absurd a (Nat.not_lt_zero _)) (fun i a b => by lia) hI fun l s' hl hlo hhi hI' => ?_
    refine bin_wp hA hN fu _ (k + 1) (hp.bub _ _) ?_ (by lia) hI' h
    have hk' : k < p.size := by rw [hp.size, ← hk]; exact Nat.lt_add_of_pos_right (Nat.succ_pos fu)
    have e : ∀ x, x < k + 1 → KeyAt f (bubble p k (k - l)) x = if x < l then KeyAt f p x else if x = l then KeyAt f p k else KeyAt f p (x - 1) := fun x hx => by
      rw [key_bub hk' (Nat.sub_le _ _), Nat.sub_sub_self hl]
      by_cases h1 : x < l
      · rw [if_neg (Nat.ne_of_lt h1), if_neg (fun c => Nat.lt_asymm h1 c.1), if_pos h1]
      · rw [if_neg h1]
        by_cases h2 : x = l
        · rw [if_pos h2, if_pos h2]
        · rw [if_neg h2, if_neg h2, if_pos ⟨Nat.lt_of_le_of_ne (Nat.not_lt.mp h1) (Ne.symm h2), Nat.le_of_lt_succ hx⟩]
    intro i j hij hj
    rw [e i (Nat.lt_of_le_of_lt hij hj), e j hj]
    by_cases j1 : j < l
    · rw [if_pos (Nat.lt_of_le_of_lt hij j1), if_pos j1]
      exact hs i j hij (Nat.lt_of_lt_of_le j1 hl)
    · rw [if_neg j1]
      by_cases j2 : j = l
      · rw [if_pos j2]
        by_cases i1 : i < l
        · rw [if_pos i1]; exact hlo i i1
        · rw [if_neg i1, if_pos (Nat.le_antisymm (j2 ▸ hij) (Nat.not_lt.mp i1))]; exact Int.le_refl _
      · rw [if_neg j2]
        have hlj := Nat.lt_of_le_of_ne (Nat.not_lt.mp j1) (Ne.symm j2)
        have j3 : l ≤ j - 1 ∧ j - 1 < k := ⟨Nat.le_sub_one_of_lt hlj, Nat.lt_of_lt_of_le (Nat.sub_lt (Nat.zero_lt_of_lt hlj) Nat.one_pos) (Nat.le_of_lt_succ hj)⟩
        by_cases i1 : i < l
        · rw [if_pos i1]; exact hs i (j - 1) (Nat.le_trans (Nat.le_of_lt i1) j3.1) j3.2
        · rw [if_neg i1]
          by_cases i2 : i = l
          · rw [if_pos i2]; exact hhi (j - 1) j3.1 j3.2
          · rw [if_neg i2]; exact hs (i - 1) (j - 1) (Nat.sub_le_sub_right hij 1) j3.2

theorem sort_wp (hA : Asks N f I cmp) (hN : 0 < N) {Q : Array Nat → Shared → Prop} {s : Shared} (hI : I s) (h : ∀ p s', OkP N p → Srt f p N → I s' → Q p s') : (kas_sort N).kasWp cmp Q s := by
  unfold kas_sort
  rw [KasT.kasWp_bind]
  refine count_wp hA hN (show OkP N (List.toArray (List.range N)) from List.Perm.refl _) hI fun m p' s' a b c d e => ?_
  dsimp only
  split
  · refine bin_wp hA hN _ _ _ a ?_ (by lia) e h
    rw [show max m 1 = m by lia]
    exact b
  · have : m = N := by lia
    subst this
    exact h p' s' a b e
end
section
variable {w : World} {A : Around} {E : Value → Shared → Prop} {s : Shared} {L l : Addr} {g : Heap} {m : Str → Option Value} {vs : List Value} {ns : List Int} {n i : Nat} {u : Tok}
theorem list_getR {Q : Value → Shared → Prop} (hl : s.heap.get? l = some (listOf vs.toArray n)) (hi : IntsAre vs ns) (hlt : i < ns.length) (hsz : ns.length ≤ 1000) (h : ∀ t, Q (.int (ns.getD i 0) t) s) :
    wpAny (model prg w) A (getItem (.ref l) (.int (i : Int) u)) Q E s := getItem_intsK (k := (i : Int)) ⟨_, hl, rfl, _, rfl⟩ hi (Int.natCast_nonneg _) (Int.ofNat_lt.mpr hlt) (idxf hlt hsz) (by simpa using h)
theorem list_itemR {value slice : Expr} {Q : Value → Shared → Prop} (hl : s.heap.get? l = some (listOf vs.toArray n)) (hi : IntsAre vs ns) (hlt : i < ns.length) (hsz : ns.length ≤ 1000) (h : ∀ t, Q (.int (ns.getD i 0) t) s)
    (hs : subscripted slice false (.ref l) (.int (i : Int) u) = operate [.ref l, .int (i : Int) u] (getItem (.ref l) (.int (i : Int) u)) := by with_unfolding_all rfl) :
    wpAny (model prg w) A (subscriptTail value slice (.ref l) (.int (i : Int) u)) Q E s := item_anyK (k := (i : Int)) ⟨_, hl, rfl, _, rfl⟩ hi (Int.natCast_nonneg _) (Int.ofNat_lt.mpr hlt) (idxf hlt hsz) (by simpa using h) hs
theorem list_setR {x : Int} {v : Tok} {Q : Unit → Shared → Prop} (F : Fr g L s.heap m) (hl : s.heap.get? l = some (listOf vs.toArray n)) (hlL : l ≠ L) (hlg : g.get? l = none) (hi : IntsAre vs ns) (hlt : i < ns.length) (hsz : ns.length ≤ 1000)
    (h : ∀ h', Fr g L h' m → Kept [L, l] s.heap h' → h'.get? l = some (listOf (vs.set i (.int x v)).toArray n) → IntsAre (vs.set i (.int x v)) (ns.set i x) → Q () { s with heap := h' }) :
    wpAny (model prg w) A (setItem (.ref l) (.int (i : Int) u) (.int x v)) Q E s := by
  refine ksa_set (k := (i : Int)) F (upd_raw hl hlL hlg) (.head rest_ne) hi (Int.natCast_nonneg _) (Int.ofNat_lt.mpr hlt) (idxf hlt hsz) ?_
  intro h' F' N' hi' _ _
  rw [Int.toNat_natCast] at N' hi'
  exact h h' F' (upd_back F F' N').2 (upd_back F F' N').1 hi'
theorem two_powR {t : Tok} {Q : Value → Shared → Prop} (hi : i ≤ 60) (h : ∀ t', Q (.int ((2 ^ i : Nat) : Int) t') { s with toks := s.toks + 1 }) :
    wpAny (model prg w) A (binaryOp .Pow (.int 2 t) (.int (i : Int) u)) Q E s := by
  by_cases h0 : i = 0
  · subst h0
    refine AutoIntOps.pow_0 (by decide) (by decide) ?_
    dsimp only [Made.post]
    exact h _
  · refine AutoIntOps.pow_4 (by lia) (by simpa using h0) (by decide) (by decide) ?_ ?_
    · have : (Builtin.Int.intBits 2 : Nat) = 2 := by decide
      rw [this]
      have hb : bitsLine = 134217728 := by decide
      unfold Builtin.Int.intTooBig
      rw [hb]
      simp
      lia
    · dsimp only [Made.post]
      rw [Int.toNat_natCast, show ((2 : Int) ^ i) = ((2 ^ i : Nat) : Int) by simp]
      exact h _
end

theorem Kept.past {M M' : List Addr} {a b c : Heap} (x : Kept M a b) (y : Kept M' b c) (h : ∀ d ∈ M', d ∈ M ∨ @LE.le Nat _ a.objs.size d) : Kept M a c := fun d o n e => y d o (fun q => by
  rcases h d q with h | h
  · exact n h
  · exact absurd (Heap.lt_size e) (Nat.not_lt.mpr h)) (x d o n e)

/-- one pair more that is apart -/
def apStep (j : Nat) (ap : List Int) (i : Nat) : List Int :=
  let a := ap.set i (ap.getD i 0 + ((2 ^ j : Nat) : Int))
  a.set j (a.getD j 0 + ((2 ^ i : Nat) : Int))
theorem apStep_len (j : Nat) (ap : List Int) (i : Nat) : (apStep j ap i).length = ap.length := by simp [apStep]
theorem aps_len (j : Nat) : ∀ (l : List Nat) (ap : List Int), (l.foldl (apStep j) ap).length = ap.length
  | [], _ => rfl
  | i :: l, ap => by rw [List.foldl_cons, aps_len j l, apStep_len]
theorem takeN {is : List Nat} {i k : Nat} (h : is[i]? = some k) : is.take (i + 1) = is.take i ++ [k] := by rw [List.take_add_one, h]; rfl

inductive Ph4cJ (s : Shared) (sv : Option Value) (L AP : Addr) (is : List Nat) (j : Nat) (ap : List Int) (k : Nat) (m : Str → Option Value) (h : Heap) : Prop
  | mk (e1 : m (Str.ofString "sorter") = sv) (e2 : m (Str.ofString "apart") = some (.ref AP)) (K : Kept [L, AP] s.heap h) (va' : List Value) (na' : Nat) (hA : h.get? AP = some (listOf va'.toArray na')) (hi : IntsAre va' ((is.take k).foldl (apStep j) ap)) : Ph4cJ s sv L AP is j ap k m h
/-- `for i in over:` -/
theorem ph4c {w : World} {s : Shared} {mg mb : Str → Option Value} {g : Heap} {L fa : Addr} {cd : Value} {m : Str → Option Value} {j : Nat} {tj : Tok} {O AP : Addr} {vs va : List Value} {n na : Nat} {is : List Nat} {ap : List Int} {Q : Flow → Shared → Prop} {sv : Option Value}
    (Gg : Gnd w mg mb g) (F : Fr g L s.heap m) (hsr : m (Str.ofString "sorter") = sv) (hap : m (Str.ofString "apart") = some (.ref AP)) (hov : m (Str.ofString "over") = some (.ref O)) (hcj : ∃ o, s.heap.get? (L + 1 + 1) = some o ∧ o.data = .cell (some (.int (j : Int) tj)))
    (hO : s.heap.get? O = some (listOf vs.toArray n)) (hOL : O ≠ L) (hi : IntsAre vs (is.map Int.ofNat)) (hA : s.heap.get? AP = some (listOf va.toArray na)) (hAL : AP ≠ L) (hAg : g.get? AP = none) (hia : IntsAre va ap) (hal : ap.length = 8) (hAO : AP ≠ O) (hAj : L + 1 + 1 ≠ AP)
    (hj : j < 8) (his : ∀ i ∈ is, i < 8)
    (hQ : ∀ h' tk m' va' na', Fr g L h' m' → m' (Str.ofString "sorter") = sv → m' (Str.ofString "apart") = some (.ref AP) → Kept [L, AP] s.heap h' → h'.get? AP = some (listOf va'.toArray na') → IntsAre va' (is.foldl (apStep j) ap) → Q .next { s with heap := h', toks := tk }) :
    wpAny (model prg w) (callerA.deeper (envL L fa cd)) (exec (lawB 4 2) (envL L fa cd)) Q (fun _ _ => False) s := by
  have X' := Gg.X
  have T' := Gg.T
  obtain ⟨oj, hoj, hdj⟩ := hcj
  have lj : @LT.lt Nat _ L (L + 1 + 1) := Nat.lt_succ_of_lt (Nat.lt_succ_self L)
  refine wpAny_For ?_
  refine ldL F hov ?_
  refine iterList (Ph4cJ s sv L AP is j ap) rfl rfl rfl hO hi hOL F ?start ?turn ?done PassesOwn.never
  case start =>
    intro h' K'
    exact ⟨hsr, hap, K'.mono (List.forall_mem_nil _), va, na, K' _ _ List.not_mem_nil hA, hia⟩
  case done =>
    rintro m' h1 h2 tk ⟨e1, e2, K1, va', na', hA', hi'⟩ K2 F2
    rw [List.length_map, List.take_length] at hi'
    have lA : @LT.lt Nat _ AP s.heap.objs.size := Heap.lt_size hA
    exact hQ h2 tk m' va' na' F2 e1 e2 (K1.past K2 (fun d hd => .inr (by rw [mem1 hd]; exact Nat.le_refl _))) (K2 _ _ (not1 (Nat.ne_of_lt lA)) hA') hi'
  case turn =>
    rintro k ki t m1 h1 h2 tk hk ⟨e1, e2, K1, va', na', hA', hi'⟩ K2 hO2 ⟨oI, hoI, cI⟩ F2
    rw [List.getElem?_map] at hk
    obtain ⟨i, hik, rfl⟩ := Option.map_eq_some_iff.mp hk
    have hi8 : i < 8 := his i (List.mem_of_getElem? hik)
    replace F2 : Fr g L h2 (fun y => if y = Str.ofString "i" then some (Value.int (i : Int) t) else m1 y) := F2
    replace K2 : Kept [L, s.heap.objs.size] h1 h2 := K2
    have lA : @LT.lt Nat _ AP s.heap.objs.size := Heap.lt_size hA
    have ljs : @LT.lt Nat _ (L + 1 + 1) s.heap.objs.size := Heap.lt_size hoj
    have A2 := K2 _ _ (not2 hAL (Nat.ne_of_lt lA)) hA'
    have j2 := K2 _ _ (not2 (Nat.ne_of_gt lj) (Nat.ne_of_lt ljs)) (K1 _ _ (not2 (Nat.ne_of_gt lj) hAj) hoj)
    have e2' : (fun y => if y = Str.ofString "i" then some (Value.int (i : Int) t) else m1 y) (Str.ofString "apart") = some (.ref AP) := e2
    have e1' : (fun y => if y = Str.ofString "i" then some (Value.int (i : Int) t) else m1 y) (Str.ofString "sorter") = sv := e1
    have e3' : (fun y => if y = Str.ofString "i" then some (Value.int (i : Int) t) else m1 y) (Str.ofString "i") = some (.int (i : Int) t) := rfl
    have lz : ((is.take k).foldl (apStep j) ap).length = 8 := by rw [aps_len, hal]
    generalize eap : (is.take k).foldl (apStep j) ap = ak at *
    generalize (fun y => if y = Str.ofString "i" then some (Value.int (i : Int) t) else m1 y) = m2 at *
    refine wpAny_execs_cons ?_
    refine wpAny_AugAssign_SubscriptAny ?_
    refine ldL F2 e2' ?_
    refine ldL F2 e3' ?_
    refine list_getR A2 hi' (by rw [lz]; exact hi8) (by rw [lz]; decide) ?_
    intro t3
    walk_at "q"
    walk_at "q"
    refine ldC cell_j j2 hdj ?_
    refine two_powR (Nat.le_trans (Nat.le_of_lt hj) (by decide)) ?_
    intro t4
    walk_at "q"
    refine list_setR F2 A2 hAL hAg hi' (by rw [lz]; exact hi8) (by rw [lz]; decide) ?_
    intro h3 F3 K3 A3 hi3
    dsimp only at K3 A3 ⊢
    generalize ea1 : ak.set i (ak.getD i 0 + ((2 ^ j : Nat) : Int)) = a1 at *
    have l1 : a1.length = 8 := by rw [← ea1, List.length_set, lz]
    have j3 := K3 _ _ (not2 (Nat.ne_of_gt lj) hAj) j2
    refine wpAny_execs_cons ?_
    refine wpAny_AugAssign_SubscriptAny ?_
    refine ldL F3 e2' ?_
    refine ldC cell_j j3 hdj ?_
    refine list_getR A3 hi3 (by rw [l1]; exact hj) (by rw [l1]; decide) ?_
    intro t5
    walk_at "q"
    walk_at "q"
    refine ldL F3 e3' ?_
    refine two_powR (Nat.le_trans (Nat.le_of_lt hi8) (by decide)) ?_
    intro t6
    walk_at "q"
    refine list_setR F3 A3 hAL hAg hi3 (by rw [l1]; exact hj) (by rw [l1]; decide) ?_
    intro h4 F4 K4 A4 hi4
    dsimp only at K4 A4 ⊢
    refine wpAny_execs_nil ?_
    refine ⟨h4, _, m2, rfl, F4, ?_, e1', e2', ?_, _, _, A4, ?_⟩
    · intro b hb o e
      have nb : b ∉ [L, AP] := by
        rcases mem2 hb with c | c
        · rw [c]; exact not2 (Nat.ne_of_gt F.ns.lt) (Nat.ne_of_gt lA)
        · rw [c]; exact not2 hOL (Ne.symm hAO)
      exact K4 _ _ nb (K3 _ _ nb e)
    · refine (((K1.past K2 ?_).trans K3).trans K4)
      intro d hd
      rcases mem2 hd with c | c
      · exact .inl (c ▸ .head _)
      · exact .inr (Nat.le_of_eq c.symm)
    · rw [takeN hik, List.foldl_append, eap]
      show IntsAre _ (apStep j ak i)
      unfold apStep
      rw [ea1]
      exact hi4
def grAt (be : List (Int × Int)) (j : Nat) : Gr := (List.range j).foldl (fun G (j : Nat) => G.addN (j : Int) ((ovs be j).map Int.ofNat)) ⟨[], fun _ => 0, fun _ => []⟩
def apAt (be : List (Int × Int)) (j : Nat) : List Int := (List.range j).foldl (fun ap (j : Nat) => (ovs be j).foldl (apStep j) ap) (List.replicate 8 0)
theorem grAt_succ (be : List (Int × Int)) (j : Nat) : grAt be (j + 1) = (grAt be j).addN (j : Int) ((ovs be j).map Int.ofNat) := by unfold grAt; rw [List.range_succ, List.foldl_append]; rfl
theorem apAt_succ (be : List (Int × Int)) (j : Nat) : apAt be (j + 1) = (ovs be j).foldl (apStep j) (apAt be j) := by unfold apAt; rw [List.range_succ, List.foldl_append]; rfl
theorem apAt_len (be : List (Int × Int)) : ∀ j, (apAt be j).length = 8
  | 0 => rfl
  | j + 1 => by rw [apAt_succ, aps_len, apAt_len be j]
theorem ovs_len (be : List (Int × Int)) (j : Nat) : (ovs be j).length ≤ 8 := by
  have := List.length_filter_le (fun i => decide ((be.getD i (0, 0)).2 ≤ (be.getD j (0, 0)).1)) (List.range 8)
  rw [List.length_range] at this
  exact this
theorem ovs_lt {be : List (Int × Int)} {j i : Nat} (h : i ∈ ovs be j) : i < 8 := List.mem_range.mp (List.mem_filter.mp h).1
theorem Gr.link_len (j : Int) (G : Gr) (p : Int) : (Gr.link j G p).keys.length ≤ G.keys.length + 1 := G.touch_len p
theorem Gr.links_len (j : Int) : ∀ (ps : List Int) (G : Gr), (ps.foldl (Gr.link j) G).keys.length ≤ G.keys.length + ps.length
  | [], G => Nat.le_refl _
  | p :: ps, G => by
    have h1 := Gr.links_len j ps (Gr.link j G p)
    have h2 := Gr.link_len j G p
    rw [List.foldl_cons, List.length_cons]
    lia
theorem Gr.addN_len (G : Gr) (j : Int) (ps : List Int) : (G.addN j ps).keys.length ≤ G.keys.length + 1 + ps.length := by
  have h1 := Gr.links_len j ps (G.count j ps.length)
  have h2 : (G.count j ps.length).keys.length ≤ G.keys.length + 1 := G.touch_len j
  unfold Gr.addN
  lia
theorem Gr.link_sl (j : Int) {G : Gr} {B : Nat} (h : ∀ k, (G.succ k).length ≤ B) (p k : Int) : ((Gr.link j G p).succ k).length ≤ B + 1 := by
  have h1 := Gr.touch_sl h p
  unfold Gr.link
  dsimp only
  split
  · rw [List.length_append]; have := h1 p; simp; lia
  · have := h1 k; lia
theorem Gr.links_sl (j : Int) : ∀ (ps : List Int) {G : Gr} {B : Nat}, (∀ k, (G.succ k).length ≤ B) → ∀ k, ((ps.foldl (Gr.link j) G).succ k).length ≤ B + ps.length
  | [], G, B, h, k => h k
  | p :: ps, G, B, h, k => by
    have h1 := Gr.links_sl j ps (Gr.link_sl j h p) k
    rw [List.foldl_cons, List.length_cons]
    lia
theorem Gr.addN_sl {G : Gr} {B : Nat} (h : ∀ k, (G.succ k).length ≤ B) (j : Int) (ps : List Int) (k : Int) : ((G.addN j ps).succ k).length ≤ B + ps.length :=
  Gr.links_sl j ps (G := G.count j ps.length) (fun k => Gr.touch_sl h j k) k
theorem grAt_len (be : List (Int × Int)) : ∀ j, (grAt be j).keys.length ≤ 9 * j
  | 0 => Nat.le_refl _
  | j + 1 => by
    rw [grAt_succ]
    have h1 := Gr.addN_len (grAt be j) (j : Int) ((ovs be j).map Int.ofNat)
    have h2 := grAt_len be j
    have h3 := ovs_len be j
    rw [List.length_map] at h1
    lia
theorem grAt_sl (be : List (Int × Int)) : ∀ j k, ((grAt be j).succ k).length ≤ 8 * j
  | 0, k => Nat.le_refl _
  | j + 1, k => by
    rw [grAt_succ]
    have h1 := Gr.addN_sl (grAt_sl be j) (j : Int) ((ovs be j).map Int.ofNat) k
    have h3 := ovs_len be j
    rw [List.length_map] at h1
    lia

theorem So.gr_keys {q : So} {G : Gr} (e : q.gr = G) : q.keys = G.keys := by rw [← e]; rfl
theorem So.gr_succ {q : So} {G : Gr} (e : q.gr = G) : q.succ = G.succ := by rw [← e]; rfl
theorem So.gr_np {q : So} {G : Gr} (e : q.gr = G) : q.np = G.np := by rw [← e]; rfl

/-- the objects that stand apart from the sorter -/
def Prot (L T AP : Addr) (ts : List Addr) : List Addr := L :: (L + 1) :: (L + 1 + 1) :: T :: AP :: ts

inductive Ph4J (w : World) (L T AP I : Addr) (ts : List Addr) (be : List (Int × Int)) (q : So) (i : Nat) (m : Str → Option Value) (h : Heap) : Prop
  | mk (e1 : m (Str.ofString "apart") = some (.ref AP)) (st : Stays h L T ts be) (cj : ∃ o v, h.get? (L + 1 + 1) = some o ∧ o.data = .cell v) (q' : So) (va' : List Value) (na' : Nat) (e2 : m (Str.ofString "sorter") = some (.ref q'.S)) (St : SoAt w q' h) (sq : SameSo q q') (eg : q'.gr = grAt be i) (hA : h.get? AP = some (listOf va'.toArray na')) (hi : IntsAre va' (apAt be i)) (hg : ∀ a ∈ q'.foot, @LT.lt Nat _ L a) (hp : ∀ a ∈ q'.foot, a ∉ I :: Prot L T AP ts) : Ph4J w L T AP I ts be q i m h
/-- `for j in range(8):` -/
theorem ph4 {w : World} {s : Shared} {mg mb : Str → Option Value} {g : Heap} {L fa : Addr} {cd : Value} {m : Str → Option Value} {T AP : Addr} {ts : List Addr} {be : List (Int × Int)} {q : So} {va : List Value} {na : Nat} {Q : Flow → Shared → Prop}
    (Gg : Gnd w mg mb g) (F : Fr g L s.heap m) (hsr : m (Str.ofString "sorter") = some (.ref q.S)) (hap : m (Str.ofString "apart") = some (.ref AP)) (st : Stays s.heap L T ts be) (hbe : be.length = 8) (hcj : ∃ o v, s.heap.get? (L + 1 + 1) = some o ∧ o.data = .cell v)
    (St : SoAt w q s.heap) (hrv : q.rv = .none) (hgr : q.gr = grAt be 0) (hA : s.heap.get? AP = some (listOf va.toArray na)) (hia : IntsAre va (apAt be 0)) (hAL : @LT.lt Nat _ (L + 2) AP) (hAt : AP ∉ T :: ts) (hgt : ∀ a ∈ q.foot, @LT.lt Nat _ L a) (hpr : ∀ a ∈ q.foot, a ∉ Prot L T AP ts)
    (hQ : ∀ h' tk m' q' va' na', Fr g L h' m' → m' (Str.ofString "sorter") = some (.ref q'.S) → m' (Str.ofString "apart") = some (.ref AP) → Stays h' L T ts be → SoAt w q' h' → SameSo q q' → q'.gr = grAt be 8 → h'.get? AP = some (listOf va'.toArray na') → IntsAre va' (apAt be 8) → (∀ a ∈ q'.foot, @LT.lt Nat _ L a) → (∀ a ∈ q'.foot, a ∉ Prot L T AP ts) → Q .next { s with heap := h', toks := tk }) :
    wpAny (model prg w) (callerA.deeper (envL L fa cd)) (exec (lawStmt 4) (envL L fa cd)) Q (fun _ _ => False) s := by
  have X' := Gg.X
  have T' := Gg.T
  refine wpAny_For ?_
  repeat walk_at "q"
  refine rangeR F ?_
  intro h1 tk1 ta tb F1 K1 r1
  dsimp only at K1 r1 ⊢
  replace r1 : IsRange h1 s.heap.objs.size 0 ((8 : Nat) : Int) 1 ta _ tb := r1
  have st1 := st.kept K1 List.not_mem_nil List.not_mem_nil (fun _ _ => List.not_mem_nil)
  have cj1 : ∃ o v, h1.get? (L + 1 + 1) = some o ∧ o.data = .cell v := by obtain ⟨o, v, a, b⟩ := hcj; exact ⟨o, v, K1 _ _ List.not_mem_nil a, b⟩
  have S1 := St.kept K1 (List.forall_mem_nil _)
  have A1 := K1 _ _ List.not_mem_nil hA
  clear F St hA st hcj K1
  have lj : @LT.lt Nat _ (L + 1 + 1) h1.objs.size := by obtain ⟨o, v, a, _⟩ := cj1; exact Heap.lt_size a
  have lT : @LT.lt Nat _ T h1.objs.size := by obtain ⟨n, e⟩ := st1.lst; exact Heap.lt_size e
  have lts : ∀ a ∈ ts, @LT.lt Nat _ a h1.objs.size := by
    intro a ha
    obtain ⟨i, hi⟩ := List.getElem?_of_mem ha
    have hlt : i < be.length := by rw [← st1.len]; exact (List.getElem?_eq_some_iff.mp hi).1
    obtain ⟨_, _, e⟩ := st1.tup i a _ hi (List.getElem?_eq_getElem hlt)
    exact Heap.lt_size e
  have lA : @LT.lt Nat _ AP h1.objs.size := Heap.lt_size A1
  have lf : ∀ a ∈ q.foot, @LT.lt Nat _ a h1.objs.size := fun a ha => S1.lt ha
  generalize eI : h1.objs.size = I at *
  have lLI : @LT.lt Nat _ L I := by rw [← eI]; exact F1.ns.lt
  have hgT := st1.gT
  have hgts := st1.gt
  have nAT : AP ≠ T := fun c => hAt (c ▸ .head _)
  have x2 : @LT.lt Nat _ L (L + 1 + 1) := Nat.lt_succ_of_lt (Nat.lt_succ_self L)
  have y1 : L + 1 ≠ I := Nat.ne_of_lt (Nat.lt_of_succ_lt lj)
  have y2 : L + 1 ≠ L + 1 + 1 := Nat.ne_of_lt (Nat.lt_succ_self _)
  have y3 : T ≠ L + 1 + 1 := Nat.ne_of_gt hgT
  have y4 : L + 1 ≠ L := Nat.ne_of_gt (Nat.lt_succ_self L)
  have y5 : L + 1 + 1 ≠ L := Nat.ne_of_gt x2
  have y6 : T ≠ L := Nat.ne_of_gt (Nat.lt_trans x2 hgT)
  have y7 : AP ≠ L := Nat.ne_of_gt (Nat.lt_trans x2 hAL)
  have y8 : AP ≠ L + 1 + 1 := Nat.ne_of_gt hAL
  have y9 : L + 1 + 1 ≠ AP := Nat.ne_of_lt hAL
  have y0 : L + 1 ≠ AP := Nat.ne_of_lt (Nat.lt_of_succ_lt hAL)
  have nAts : ∀ a ∈ ts, AP ≠ a := fun a ha c => hAt (c ▸ .tail _ ha)
  refine iterRangeC (n := 8) (c := L + 1 + 1) (Ph4J w L T AP I ts be q)
    rfl rfl rfl cell_j (by rw [eI]; exact lj) (Mine.Fr.high F1 (Nat.le_of_lt (Nat.lt_succ_of_lt (Nat.lt_succ_self L)))) y5 r1 (by decide) F1 ?start ?cell ?turn ?done PassesOwn.never
  case start =>
    intro h' K'
    refine ⟨hap, st1.kept K' List.not_mem_nil List.not_mem_nil (fun _ _ => List.not_mem_nil), ?_, q, va, na, hsr, S1.kept K' (List.forall_mem_nil _), SameSo.refl q, hgr, K' _ _ List.not_mem_nil A1, hia, hgt, ?_⟩
    · obtain ⟨o, v, a, b⟩ := cj1; exact ⟨o, v, K' _ _ List.not_mem_nil a, b⟩
    · intro a ha hc
      rcases List.mem_cons.mp hc with c | hc
      · exact absurd (lf a ha) (by rw [c]; exact Nat.lt_irrefl _)
      · exact hpr a ha hc
  case cell =>
    rintro i m h ⟨_, _, c, _, _, _, _, _, _, _, _, _, _, _⟩
    exact c
  case done =>
    rintro m' h2 h3 tk ⟨e1, s2, _, q', va', na', e2, S2, sq, eg, A2, hi2, hg2, hp2⟩ K3 F3
    dsimp only at K3
    rw [eI] at K3
    refine hQ h3 tk m' q' va' na' F3 e2 e1 (s2.kept K3 (not1 (by first | assumption | exact neN (by lia))) (not1 (Nat.ne_of_lt lT)) (fun a ha => not1 (Nat.ne_of_lt (lts a ha)))) (S2.kept K3 ?_) sq eg (K3 _ _ (not1 (Nat.ne_of_lt lA)) A2) hi2 hg2 (fun a ha hc => hp2 a ha (.tail _ hc))
    intro a ha hf
    rw [mem1 ha] at hf
    exact hp2 _ hf (.head _)
  case turn =>
    rintro j t m2 h2 h3 tk3 hj ⟨e1, s2, _, q', va', na', e2, S2, sq, eg, A2, hi2, hg2, hp2⟩ K3 ⟨oI, hoI, cI⟩ hcj F3
    dsimp only at K3 hoI F3 hcj ⊢
    rw [eI] at K3 hoI ⊢
    replace F3 : Fr g L h3 m2 := F3
    replace K3 : Kept [L + 1 + 1, I] h2 h3 := K3
    have nL1 : L + 1 ∉ [L + 1 + 1, I] := not2 (by first | assumption | exact neN (by lia)) (by first | assumption | exact neN (by lia))
    have s3 := s2.kept K3 nL1 (not2 (by first | assumption | exact neN (by lia)) (Nat.ne_of_lt lT)) (fun a ha => not2 (Nat.ne_of_gt (hgts a ha)) (Nat.ne_of_lt (lts a ha)))
    have S3 := S2.kept K3 (offs2 (fun a ha c => hp2 a ha (by rw [c]; exact .tail _ (.tail _ (.tail _ (.head _))))) (fun a ha c => hp2 a ha (by rw [c]; exact .head _)))
    have A3 := K3 _ _ (not2 (by first | assumption | exact neN (by lia)) (Nat.ne_of_lt lA)) A2
    clear s2 S2 A2 K3
    refine wpAny_execs_cons ?_
    refine ph4a Gg F3 s3 hbe hj hcj ?_
    intro h4 tk4 O vs nO F4 K4 hO hvs hOn hOL
    dsimp only at K4 hOn ⊢
    have nO : ∀ {a : Addr} {o : Obj}, h3.get? a = some o → a ≠ O := fun {a o} e c => by rw [c, hOn] at e; cases e
    have s4 := s3.kept K4 (not1 (by first | assumption | exact neN (by lia))) (not1 (by first | assumption | exact neN (by lia))) (fun a ha => not1 (Nat.ne_of_gt (Nat.lt_trans x2 (hgts a ha))))
    have S4 := S3.kept K4 (offs1 (fun hf => absurd (hg2 _ hf) (Nat.lt_irrefl _)))
    have A4 := K4 _ _ (not1 (by first | assumption | exact neN (by lia))) A3
    have I4 := K4 _ _ (not1 (Nat.ne_of_gt lLI)) hoI
    have cj4 : ∃ o, h4.get? (L + 1 + 1) = some o ∧ o.data = .cell (some (.int (j : Int) t)) := by obtain ⟨o, a, b⟩ := hcj; exact ⟨o, K4 _ _ (not1 (by first | assumption | exact neN (by lia))) a, b⟩
    have hOg : g.get? O = none := by
      cases e : g.get? O with
      | none => rfl
      | some o => rw [F3.keep _ _ e] at hOn; cases hOn
    have hOA : AP ≠ O := nO A3
    have hOf : O ∉ q'.foot := fun c => by obtain ⟨o, e⟩ := S3.there c; exact nO e rfl
    have hOj : L + 1 + 1 ≠ O := by obtain ⟨o, a, _⟩ := hcj; exact nO a
    clear hOn nO K4 S3 A3 s3 hcj
    refine wpAny_execs_cons ?_
    have kl := grAt_len be j
    have sl := grAt_sl be j
    have ol := ovs_len be j
    refine ph4b (q := q') Gg F4 e2 (show (fun y => if y = Str.ofString "over" then some (Value.ref O) else m2 y) (Str.ofString "over") = some (.ref O) from rfl) cj4 S4 (sq.rv.trans hrv) hg2 hO hOL hOg hvs (by rw [List.length_map, So.gr_keys eg]; lia) (fun k => by rw [So.gr_succ eg]; have := sl k; lia) ?_
    intro h5 tk5 q5 eg5 sq5 S5 F5 K5 f5
    dsimp only at K5 f5 ⊢
    have nf : ∀ {a : Addr}, a ∈ I :: Prot L T AP ts → a ≠ L → a ∉ L :: q'.foot := fun {a} ha hL c => by
      rcases List.mem_cons.mp c with c | c
      · exact hL c
      · exact hp2 _ c ha
    have mI : I ∈ I :: Prot L T AP ts := .head _
    have mA : AP ∈ I :: Prot L T AP ts := .tail _ (.tail _ (.tail _ (.tail _ (.tail _ (.head _)))))
    have mT : T ∈ I :: Prot L T AP ts := .tail _ (.tail _ (.tail _ (.tail _ (.head _))))
    have m1 : L + 1 ∈ I :: Prot L T AP ts := .tail _ (.tail _ (.head _))
    have mj : L + 1 + 1 ∈ I :: Prot L T AP ts := .tail _ (.tail _ (.tail _ (.head _)))
    have mts : ∀ a ∈ ts, a ∈ I :: Prot L T AP ts := fun a ha => .tail _ (.tail _ (.tail _ (.tail _ (.tail _ (.tail _ ha)))))
    have s5 := s4.kept K5 (nf m1 (by first | assumption | exact neN (by lia))) (nf mT (by first | assumption | exact neN (by lia))) (fun a ha => nf (mts a ha) (Nat.ne_of_gt (Nat.lt_trans x2 (hgts a ha))))
    have A5 := K5 _ _ (nf mA (by first | assumption | exact neN (by lia))) A4
    have I5 := K5 _ _ (nf mI (Nat.ne_of_gt lLI)) I4
    have O5 := K5 _ _ (fun c => by rcases List.mem_cons.mp c with c | c; exact hOL c; exact hOf c) hO
    have cj5 : ∃ o, h5.get? (L + 1 + 1) = some o ∧ o.data = .cell (some (.int (j : Int) t)) := by obtain ⟨o, a, b⟩ := cj4; exact ⟨o, K5 _ _ (nf mj (by first | assumption | exact neN (by lia))) a, b⟩
    have hg5 : ∀ a ∈ q5.foot, @LT.lt Nat _ L a := fun a ha => by
      rcases f5 a ha with c | c
      · exact hg2 a c
      · exact c.2
    have hp5 : ∀ a ∈ q5.foot, a ∉ I :: Prot L T AP ts := fun a ha hc => by
      rcases f5 a ha with c | ⟨c, c2⟩
      · exact hp2 a c hc
      · have here : ∃ o, h4.get? a = some o := by
          simp only [Prot, List.mem_cons] at hc
          rcases hc with e | e | e | e | e | e | hc
          · rw [e]; exact ⟨_, I4⟩
          · exact absurd c2 (by rw [e]; exact Nat.lt_irrefl _)
          · rw [e]; obtain ⟨o, a, _⟩ := s4.cell; exact ⟨o, a⟩
          · rw [e]; obtain ⟨o, a, _⟩ := cj4; exact ⟨o, a⟩
          · rw [e]; obtain ⟨n, a⟩ := s4.lst; exact ⟨_, a⟩
          · rw [e]; exact ⟨_, A4⟩
          · obtain ⟨i, hi⟩ := List.getElem?_of_mem hc
            have hlt : i < be.length := by rw [← s4.len]; exact (List.getElem?_eq_some_iff.mp hi).1
            obtain ⟨_, _, e⟩ := s4.tup i a _ hi (List.getElem?_eq_getElem hlt)
            exact ⟨_, e⟩
        obtain ⟨o, e⟩ := here
        rw [c] at e
        cases e
    clear s4 A4 I4 hO cj4 K5 S4 f5
    refine wpAny_execs_cons ?_
    refine ph4c (AP := AP) (is := ovs be j) Gg F5 (show _ = some (Value.ref q'.S) from e2) (show _ = some (Value.ref AP) from e1) (show (fun y => if y = Str.ofString "over" then some (Value.ref O) else m2 y) (Str.ofString "over") = some (.ref O) from rfl) cj5 O5 hOL hvs A5 (by first | assumption | exact neN (by lia)) (Mine.Fr.high F5 (by lia)) hi2 (apAt_len be j) hOA (by first | assumption | exact neN (by lia)) hj (fun i hi => ovs_lt hi) ?_
    intro h6 tk6 m6 va6 na6 F6 e6s e6a K6 A6 hi6
    dsimp only at K6 ⊢
    refine wpAny_execs_nil ?_
    refine ⟨h6, tk6, m6, rfl, F6, ?_, e6a, s5.kept K6 (not2 (by first | assumption | exact neN (by lia)) (by first | assumption | exact neN (by lia))) (not2 (by first | assumption | exact neN (by lia)) (Ne.symm nAT)) (fun a ha => not2 (Nat.ne_of_gt (Nat.lt_trans x2 (hgts a ha))) (Ne.symm (nAts a ha))), ?_, q5, va6, na6, e6s.trans (by rw [sq5.S]), S5.kept K6 ?_, sq.trans sq5, ?_, A6, ?_, hg5, hp5⟩
    · intro b hb o e
      rw [mem1 hb] at e ⊢
      rw [hoI] at e
      cases e
      exact K6 _ _ (not2 (Nat.ne_of_gt lLI) (Nat.ne_of_gt lA)) I5
    · obtain ⟨o, a, b⟩ := cj5; exact ⟨o, _, K6 _ _ (not2 (by first | assumption | exact neN (by lia)) (by first | assumption | exact neN (by lia))) a, b⟩
    · exact offs2 (fun a ha => Nat.ne_of_gt (hg5 a ha)) (fun a ha c => hp5 a ha (by rw [c]; exact mA))
    · rw [grAt_succ, eg5, eg]
    · rw [apAt_succ]; exact hi6
/-- `sorter.prepare()` -/
theorem ph5 {w : World} {s : Shared} {mg mb : Str → Option Value} {g : Heap} {L fa : Addr} {cd : Value} {m : Str → Option Value} {q : So} {r : Int → Nat} {Q : Flow → Shared → Prop}
    (Gg : Gnd w mg mb g) (F : Fr g L s.heap m) (hsr : m (Str.ofString "sorter") = some (.ref q.S)) (St : SoAt w q s.heap) (hrv : q.rv = .none) (hgt : ∀ a ∈ q.foot, @LT.lt Nat _ L a) (hlen : q.keys.length ≤ 90) (hsl : ∀ k ∈ q.keys, (q.succ k).length ≤ 1000)
    (hin : ∀ k ∈ q.keys, ∀ j ∈ q.succ k, j ∈ q.keys) (hr : ∀ k ∈ q.keys, ∀ j ∈ q.succ k, r k < r j)
    (hQ : ∀ h' tk R vs n, Fr g L h' m → Kept [q.dS, L] s.heap h' → SoAt w { q with rv := .ref R } h' → h'.get? R = some (listOf vs.toArray n) → IntsAre vs (q.keys.filter fun k => decide (q.np k = 0)) → s.heap.get? R = none → Q .next { s with heap := h', toks := tk }) :
    wpAny (model prg w) (callerA.deeper (envL L fa cd)) (exec (lawStmt 5) (envL L fa cd)) Q (fun _ _ => False) s := by
  have X' := Gg.X
  have T' := Gg.T
  have hgL : g.get? L = none := Mine.Fr.high F (Nat.le_refl _)
  refine wpAny_Expr ?_
  refine MethodCall_ ?_
  refine ldL F hsr ?_
  refine so_meth F X' St (by k_is) (by k_is) (by k_is) (fun _ _ _ => rfl) ?_
  refine callWith_K0 (K := hd.heap_39 w.params) (X'.keeps F.keep) (by k_is) ?_
  refine wpAny_call (codeAny_AF (fs := [envL L fa cd]) rfl (Nat.le_of_ble_eq_true rfl) (Nat.le_of_ble_eq_true rfl) rfl (prep_spec (r := r) Gg F.keep St hrv (Heap.FunFrames.cons (show ScopeKind.function ≠ ScopeKind.module by decide) rfl F.ns hgL trivial) ?_ (Mine.Fr.high F (Nat.le_of_lt (hgt _ q.fdS))) hlen hsl hin hr ?_))
  · intro a ha c
    rcases frs_cons rfl c with c | c
    · rw [c] at ha; exact absurd (hgt _ ha) (Nat.lt_irrefl _)
    · cases c
  · intro h' tk R vs n K' S' St' eR hvs hRn
    dsimp only at K' S' hRn ⊢
    have K2 : Kept [q.dS, L] s.heap h' := K'.mono (by
      intro d hd
      rcases List.mem_cons.mp hd with c | c
      · rw [c]; exact .head _
      · rcases frs_cons rfl c with c | c
        · rw [c]; exact .tail _ (.head _)
        · cases c)
    refine hQ h' tk R vs n ⟨Ns.slots F.ns (fun o e => S' L o (Nat.ne_of_lt (hgt _ q.fdS)) e), ?_, F.above⟩ K2 St' eR hvs hRn
    intro b o e
    exact K2 b o (not2 (fun c => by rw [c, Mine.Fr.high F (Nat.le_of_lt (hgt _ q.fdS))] at e; cases e) (fun c => by rw [c, hgL] at e; cases e)) (F.keep b o e)

/-- `rounds = 0` -/
theorem ph6 {w : World} {s : Shared} {g : Heap} {L fa : Addr} {cd : Value} {m : Str → Option Value} {Q : Flow → Shared → Prop} (F : Fr g L s.heap m)
    (hQ : ∀ h' tk t, Fr g L h' (fun y => if y = Str.ofString "rounds" then some (.int 0 t) else m y) → Kept [L] s.heap h' → Q .next { s with heap := h', toks := tk }) :
    wpAny (model prg w) (callerA.deeper (envL L fa cd)) (exec (lawStmt 6) (envL L fa cd)) Q (fun _ _ => False) s := by
  refine wpAny_Assign_Name ?_
  repeat walk_at "q"
  rename_i h' F' K'
  exact hQ _ _ _ F' K'

theorem shaped_tup (ns : List Int) : SeqAt.shaped (.tuple (ns.map PyData.int)) = true := by
  have h1 := PySem.W.depthAll_ints ns
  have h2 : PyData.depth (.tuple (ns.map PyData.int)) ≤ 64 := by simp only [PyData.depth]; lia
  show (PyData.canLay0 (.tuple (ns.map PyData.int)) && decide (PyData.depth (.tuple (ns.map PyData.int)) ≤ 64)) = true
  rw [Bool.and_eq_true]
  exact ⟨by simp only [PyData.canLay0]; exact canLayAll0_ints ns, decide_eq_true h2⟩
theorem ne_tupR {w : World} {A : Around} {E : Value → Shared → Prop} {s : Shared} {a b : Addr} {vs us : List Value} {ns ms : List Int} {Q : Value → Shared → Prop} (ha : s.heap.get? a = some (tupOf vs)) (hi : IntsAre vs ns) (hb : s.heap.get? b = some (tupOf us)) (hi' : IntsAre us ms) (hu : A.units + 64 < cLine)
    (h : Q (.bool (!decide (ns = ms))) s) : wpAny (model prg w) A (compareOp .NotEq (.ref a) (.ref b)) Q E s :=
  ne_dataH_same (Reads.tuple ha rfl rfl (by simpa using readsAll_of_ints hi)) (Reads.tuple hb rfl rfl (by simpa using readsAll_of_ints hi')) (shaped_tup ns) (shaped_tup ms) hu (by simp only [PySem.SeqAt.noMix]; exact noMix_ints ns ms) (by simp only [PySem.Spec.same]; rw [same_ints]; exact h)

/-- one round -/
def turnStep (succ : Int → List Int) (st : (Int → Int) × List Int × Nat) : (Int → Int) × List Int × Nat :=
  ((st.2.1.foldl (done1 succ) (fun k => if k ∈ st.2.1 then -1 else st.1 k, [])).1, (st.2.1.foldl (done1 succ) (fun k => if k ∈ st.2.1 then -1 else st.1 k, [])).2, if st.2.1 = [] then st.2.2 else st.2.2 + 1)
def turns (succ : Int → List Int) (st : (Int → Int) × List Int × Nat) : Nat → (Int → Int) × List Int × Nat
  | 0 => st
  | t + 1 => turnStep succ (turns succ st t)
structure TurnOk (keys : List Int) (succ : Int → List Int) (st : (Int → Int) × List Int × Nat) : Prop where
  inK : ∀ k ∈ st.2.1, k ∈ keys
  len : st.2.1.length ≤ 90
  out : ∀ i k, st.2.1[i]? = some k → ((st.2.1.take i).foldl (done1 succ) (fun k => if k ∈ st.2.1 then -1 else st.1 k, [])).1 k = -1

inductive Ph7Q (s : Shared) (g : Heap) (L T : Addr) (h2 : Heap) (m0 : Str → Option Value) (r : Nat) (f : Flow) (s' : Shared) : Prop
  | mk (e : f = Flow.next) (h' : Heap) (tk : Nat) (m' : Str → Option Value) (tr' : Tok) (e' : s' = { s with heap := h', toks := tk }) (F : Fr g L h' m') (K : Kept [L] h2 h') (eo : ∀ x, x ≠ Str.ofString "group" → x ≠ Str.ofString "rounds" → m' x = m0 x) (eg : m' (Str.ofString "group") = some (.ref T)) (er : m' (Str.ofString "rounds") = some (.int (r : Int) tr')) : Ph7Q s g L T h2 m0 r f s'
/-- one turn's body -/
theorem ph7b {w : World} {s : Shared} {mg mb : Str → Option Value} {g : Heap} {L fa : Addr} {cd : Value} {m : Str → Option Value} {q : So} {R : Addr} {N : Int} {st : (Int → Int) × List Int × Nat} {ws : List Value} {n : Nat} {tr : Tok} {Q : Flow → Shared → Prop}
    (Gg : Gnd w mg mb g) (F : Fr g L s.heap m) (hsr : m (Str.ofString "sorter") = some (.ref q.S)) (hro : m (Str.ofString "rounds") = some (.int (st.2.2 : Int) tr)) (St : SoAt w { q with np := st.1, npo := N, nfi := N } s.heap) (hrv : q.rv = .ref R) (hR : s.heap.get? R = some (listOf ws.toArray n)) (hi : IntsAre ws st.2.1)
    (hRf : R ∉ q.foot) (hgt : ∀ a ∈ R :: q.foot, a ≠ L ∧ g.get? a = none) (ok : TurnOk q.keys q.succ st) (hsu : ∀ k ∈ q.keys, ∀ x ∈ q.succ k, x ∈ q.keys) (hsl : ∀ k, (q.succ k).length ≤ 100)
    (hQ : ∀ h' tk m' ws' n' N' tr', Fr g L h' m' → (∀ x, x ≠ Str.ofString "group" → x ≠ Str.ofString "rounds" → m' x = m x) → m' (Str.ofString "rounds") = some (.int ((turnStep q.succ st).2.2 : Int) tr') → SoAt w { q with np := (turnStep q.succ st).1, npo := N', nfi := N' } h' → h'.get? R = some (listOf ws'.toArray n') → IntsAre ws' (turnStep q.succ st).2.1 → Kept (L :: R :: q.foot) s.heap h' → Q .next { s with heap := h', toks := tk }) :
    wpAny (model prg w) (callerA.deeper (envL L fa cd)) (execs (forBody (lawStmt 7)) (envL L fa cd)) Q (fun _ _ => False) s := by
  have X' := Gg.X
  have T' := Gg.T
  have hoff : ∀ {h : Heap} {m : Str → Option Value}, Fr g L h m → ∀ a ∈ R :: q.foot, g.get? a = none := fun _ a ha => (hgt a ha).2
  have nL : L ∉ R :: q.foot := fun c => (hgt _ c).1 rfl
  have hwl := hi.length
  have okl := ok.len
  refine wpAny_execs_cons ?_
  refine wpAny_Assign_Name ?_
  refine MethodCall_ ?_
  refine ldL F hsr ?_
  refine so_meth (q := { q with np := st.1, npo := N, nfi := N }) F X' St (by k_is) (by k_is) (by k_is) (fun _ _ _ => rfl) ?_
  refine callWith_K0 (K := hd.heap_39 w.params) (X'.keeps F.keep) (by k_is) ?_
  refine wpAny_call (codeAny_AS rfl (Nat.le_of_ble_eq_true rfl) (Nat.le_of_ble_eq_true rfl) (gr_spec (q := { q with np := st.1, npo := N, nfi := N }) Gg F.keep St hrv hR hi hRf (hoff F) ok.inK (by lia) ?_))
  intro h1 tk1 T n1 St1 K1 lT T1 R1
  dsimp only at St1 K1 lT ⊢
  have lLs : @LT.lt Nat _ L s.heap.objs.size := F.ns.lt
  have F1 := Mine.Fr.behind F (M := R :: q.foot) (hoff F) nL K1
  have hTL : T ≠ L := neN (by lia)
  walk_at "q"
  rename_i h2 F2 K2
  have K02 : Kept (L :: R :: q.foot) s.heap h2 := (K1.mono (fun d hd => .tail _ hd)).trans (K2.mono (all1 (.head _)))
  have St2 := St1.kept K2 (offs1 (fun hf => nL (.tail _ hf)))
  have T2 := K2 _ _ (not1 hTL) T1
  have R2 := K2 _ _ (not1 (hgt R (.head _)).1) R1
  clear St1 T1 R1 F1
  generalize em : (fun y => if y = Str.ofString "group" then some (Value.ref T) else m y) = m2 at F2
  have eg2 : m2 (Str.ofString "group") = some (.ref T) := by rw [← em]; rfl
  have es2 : m2 (Str.ofString "sorter") = some (.ref q.S) := by rw [← em]; exact hsr
  have er2 : m2 (Str.ofString "rounds") = some (.int (st.2.2 : Int) tr) := by rw [← em]; exact hro
  have eo2 : ∀ x, x ≠ Str.ofString "group" → x ≠ Str.ofString "rounds" → m2 x = m x := fun x h1 _ => by rw [← em]; exact if_neg h1
  refine wpAny_execs_cons ?_
  refine wpAny_mono (Q := Ph7Q s g L T h2 m (if st.2.1 = [] then st.2.2 else st.2.2 + 1)) (E := fun _ _ => False) ?cond ?rest (fun _ _ h => h)
  case cond =>
    refine wpAny_If ?_
    refine wpAny_isTrue_Compare1 ?_
    refine ldL F2 eg2 ?_
    refine Tuple_ ?_
    repeat walk_at "q"
    refine newTupR F2 ?_
    intro h3 F3 K3 t3
    dsimp only at K3 t3 ⊢
    refine ne_tupR (K3 _ _ List.not_mem_nil T2) hi t3 .nil (Nat.le_of_ble_eq_true rfl) ?_
    walk_at "q"
    by_cases e : st.2.1 = []
    · rw [decide_eq_true e]
      refine (if_neg Bool.false_ne_true).mpr ?_
      repeat walk_at "q"
      refine ⟨rfl, h3, _, m2, tr, rfl, F3, K3.mono (List.forall_mem_nil _), eo2, eg2, ?_⟩
      rw [if_pos e]; exact er2
    · rw [decide_eq_false e]
      have fin : ∀ (t4 : Tok) (tk4 : Nat) (h4 : Heap), Fr g L h4 (fun y => if y = Str.ofString "rounds" then some (Value.int (((st.2.2 : Nat) : Int) + 1) t4) else m2 y) → Kept [L] h3 h4 → Ph7Q s g L T h2 m (if st.2.1 = [] then st.2.2 else st.2.2 + 1) Flow.next { s with heap := h4, toks := tk4 } := fun t4 tk4 h4 F4 K4 =>
        ⟨rfl, h4, tk4, _, t4, rfl, F4, (K3.mono (List.forall_mem_nil _)).trans K4, fun x h1 h2 => (if_neg h2).trans (eo2 x h1 h2), eg2, by rw [if_neg e]; rfl⟩
      refine (if_pos rfl).mpr ?_
      refine wpAny_execs_cons ?_
      refine wpAny_AugAssign_Name ?_
      refine wpAny_loadName_local rfl (show (envL L fa cd).kindOf (Str.ofString "rounds") = some .local from rfl) F3.ns er2 ?_
      repeat walk_at "q"
      rename_i h4 F4 K4
      exact fin _ _ h4 F4 K4
  case rest =>
    rintro f s' ⟨rfl, h3, tk3, m3, tr3, rfl, F3, K3, eo3, eg3, er3⟩
    dsimp only
    have es3 : m3 (Str.ofString "sorter") = some (.ref q.S) := (eo3 _ (by decide) (by decide)).trans hsr
    have St3 := St2.kept K3 (offs1 (fun hf => nL (.tail _ hf)))
    have T3 := K3 _ _ (not1 hTL) T2
    have R3 := K3 _ _ (not1 (hgt R (.head _)).1) R2
    have K03 : Kept (L :: R :: q.foot) s.heap h3 := K02.trans (K3.mono (all1 (.head _)))
    clear St2 T2 R2 F2 K02 K3
    refine wpAny_execs_cons ?_
    refine wpAny_Expr ?_
    refine StarCall_ ?_
    refine ldL F3 es3 ?_
    refine so_bound (q := { q with npo := N + st.2.1.length, np := fun k => if k ∈ st.2.1 then -1 else st.1 k, nfi := N }) F3 X' St3 (by k_is) (by k_is) (by k_is) (by k_is) (by k_is) (by k_is) (by decide +kernel) (fun _ _ _ => rfl) ?_
    intro B h4 F4 K4 b4 hBL hBg
    dsimp only at K4 ⊢
    refine callWith_B1 (f := 148) (self := .ref q.S) (by k_is) ?_
    refine ldL F4 eg3 ?_
    have hTg : g.get? T = none := Mine.Fr.high F (by lia)
    refine star_seq (o := tupOf ws) (ws := ws) F4 (all_raw (g := g) (L := L)) (mem_restOf.mpr ⟨K4 _ _ (not1 hTL) T3, hTL, hTL, hTg⟩) rfl rfl (.inr rfl) rfl (by rw [List.size_toArray, sizeLine_eq, hi.length]; lia) ?_
    intro h5 F5 N5
    have K5 : Kept [L] h4 h5 := all_back F4 F5 N5 (fun p hp => hp)
    have b5 := K5 _ _ (not1 hBL) b4
    refine ⟨⟨b5, X'.keeps F5.keep⟩, ?_⟩
    have St5 := (St3.kept K4 (offs1 (fun hf => nL (.tail _ hf)))).kept K5 (offs1 (fun hf => nL (.tail _ hf)))
    have R5 := K5 _ _ (not1 (hgt R (.head _)).1) (K4 _ _ (not1 (hgt R (.head _)).1) R3)
    simp only [List.nil_append]
    refine wpAny_call (method_call b5 (codeAny_AS rfl (Nat.le_of_ble_eq_true rfl) (Nat.le_of_ble_eq_true rfl) (done_spec (q := { q with npo := N + st.2.1.length, np := fun k => if k ∈ st.2.1 then -1 else st.1 k, nfi := N }) (rd := []) (ws := []) Gg F5.keep St5 hrv R5 .nil hRf (hoff F5) hi ok.inK hsu ok.len (by simp) hsl ok.out ?_)))
    intro h6 tk6 ws6 n6 St6 K6 R6 hi6
    dsimp only at St6 K6 ⊢
    have F6 := Mine.Fr.behind F5 (M := R :: q.foot) (hoff F5) nL K6
    refine wpAny_execs_nil ?_
    exact hQ h6 tk6 m3 ws6 n6 (N + st.2.1.length) tr3 F6 eo3 er3 St6 R6 hi6 (((K03.trans (K4.mono (all1 (.head _)))).trans (K5.mono (all1 (.head _)))).trans (K6.mono (fun d hd => .tail _ hd)))
inductive Ph7J (w : World) (s : Shared) (L R : Addr) (q : So) (m0 : Str → Option Value) (st : (Int → Int) × List Int × Nat) (t : Nat) (m' : Str → Option Value) (h : Heap) : Prop
  | mk (eo : ∀ x, x ≠ Str.ofString "group" → x ≠ Str.ofString "rounds" → x ≠ Str.ofString "turn" → m' x = m0 x) (tr' : Tok) (er : m' (Str.ofString "rounds") = some (.int ((turns q.succ st t).2.2 : Int) tr')) (K : Kept (L :: R :: q.foot) s.heap h)
      (N : Int) (ws' : List Value) (n' : Nat) (S : SoAt w { q with np := (turns q.succ st t).1, npo := N, nfi := N } h) (hR : h.get? R = some (listOf ws'.toArray n')) (hi : IntsAre ws' (turns q.succ st t).2.1) : Ph7J w s L R q m0 st t m' h
/-- `for turn in range(9):` -/
theorem ph7 {w : World} {s : Shared} {mg mb : Str → Option Value} {g : Heap} {L fa : Addr} {cd : Value} {m : Str → Option Value} {q : So} {R : Addr} {st : (Int → Int) × List Int × Nat} {ws : List Value} {n : Nat} {tr : Tok} {Q : Flow → Shared → Prop}
    (Gg : Gnd w mg mb g) (F : Fr g L s.heap m) (hsr : m (Str.ofString "sorter") = some (.ref q.S)) (hro : m (Str.ofString "rounds") = some (.int (st.2.2 : Int) tr)) (St : SoAt w q s.heap) (hnp : q.np = st.1) (hpf : q.npo = q.nfi) (hrv : q.rv = .ref R) (hR : s.heap.get? R = some (listOf ws.toArray n)) (hi : IntsAre ws st.2.1)
    (hRf : R ∉ q.foot) (hgt : ∀ a ∈ R :: q.foot, a ≠ L ∧ g.get? a = none) (ok : ∀ t, t < 9 → TurnOk q.keys q.succ (turns q.succ st t)) (hsu : ∀ k ∈ q.keys, ∀ x ∈ q.succ k, x ∈ q.keys) (hsl : ∀ k, (q.succ k).length ≤ 100)
    (hQ : ∀ h' tk m' ws' n' N' tr', Fr g L h' m' → (∀ x, x ≠ Str.ofString "group" → x ≠ Str.ofString "rounds" → x ≠ Str.ofString "turn" → m' x = m x) → m' (Str.ofString "rounds") = some (.int ((turns q.succ st 9).2.2 : Int) tr') → SoAt w { q with np := (turns q.succ st 9).1, npo := N', nfi := N' } h' → h'.get? R = some (listOf ws'.toArray n') → IntsAre ws' (turns q.succ st 9).2.1 → Kept (L :: R :: q.foot) s.heap h' → Q .next { s with heap := h', toks := tk }) :
    wpAny (model prg w) (callerA.deeper (envL L fa cd)) (exec (lawStmt 7) (envL L fa cd)) Q (fun _ _ => False) s := by
  have X' := Gg.X
  have T' := Gg.T
  have nL : L ∉ R :: q.foot := fun c => (hgt _ c).1 rfl
  refine wpAny_For ?_
  repeat walk_at "q"
  refine rangeR F ?_
  intro h1 tk1 ta tb F1 K1 r1
  dsimp only at K1 r1 ⊢
  replace r1 : IsRange h1 s.heap.objs.size 0 ((9 : Nat) : Int) 1 ta _ tb := r1
  have S1 := St.kept K1 (List.forall_mem_nil _)
  have R1 := K1 _ _ List.not_mem_nil hR
  have lf : ∀ a ∈ R :: q.foot, @LT.lt Nat _ a h1.objs.size := fun a ha => by
    rcases List.mem_cons.mp ha with c | ha
    · rw [c]; exact Heap.lt_size R1
    · exact S1.lt ha
  have l01 : @LT.lt Nat _ s.heap.objs.size h1.objs.size := Heap.lt_size r1
  have lL1 : @LT.lt Nat _ L h1.objs.size := F1.ns.lt
  refine iterRange (n := 9) (Ph7J w s L R q m st) rfl rfl rfl r1 (by decide) F1 ?start ?turn ?done PassesOwn.never
  case start =>
    intro h' K'
    refine ⟨fun _ _ _ _ => rfl, tr, hro, (K1.trans K').mono (List.forall_mem_nil _), q.npo, ws, n, ?_, K' _ _ List.not_mem_nil R1, hi⟩
    have e : ({ q with np := (turns q.succ st 0).1, npo := q.npo, nfi := q.npo } : So) = q := by
      show ({ q with np := st.1, npo := q.npo, nfi := q.npo } : So) = q
      rw [← hnp]
      have hh : ∀ q : So, q.npo = q.nfi → ({ q with np := q.np, npo := q.npo, nfi := q.npo } : So) = q := by
        rintro ⟨_, _, _, _, _, _, _, _, _, _, _, _⟩ h
        dsimp only at h
        subst h
        rfl
      exact hh q hpf
    rw [e]
    exact S1.kept K' (List.forall_mem_nil _)
  case done =>
    rintro m' h2 h3 tk ⟨eo, tr', er, K2, N, ws', n', S2, R2, hi2⟩ K3 F3
    dsimp only at K3
    refine hQ h3 tk m' ws' n' N tr' F3 eo er (S2.kept K3 ?_) (K3 _ _ (not1 (Nat.ne_of_lt (lf R (.head _)))) R2) hi2 (K2.past K3 ?_)
    · intro a ha hf
      rw [mem1 ha] at hf
      exact absurd (lf _ (.tail _ hf)) (Nat.lt_irrefl _)
    · intro d hd
      rw [mem1 hd]
      exact .inr (Nat.le_of_lt l01)
  case turn =>
    rintro t tt m2 h2 h3 tk3 ht ⟨eo, tr', er, K2, N, ws', n', S2, R2, hi2⟩ K3 ⟨oI, hoI, cI⟩ F3
    dsimp only at K3 hoI F3 ⊢
    replace F3 : Fr g L h3 (fun y => if y = Str.ofString "turn" then some (Value.int (t : Int) tt) else m2 y) := F3
    replace K3 : Kept [L, h1.objs.size] h2 h3 := K3
    have S3 := S2.kept K3 (offs2 (fun a ha => (hgt a (.tail _ ha)).1) (fun a ha => Nat.ne_of_lt (lf a (.tail _ ha))))
    have R3 := K3 _ _ (not2 (hgt R (.head _)).1 (Nat.ne_of_lt (lf R (.head _)))) R2
    generalize em : (fun y => if y = Str.ofString "turn" then some (Value.int (t : Int) tt) else m2 y) = m3 at F3
    have es3 : m3 (Str.ofString "sorter") = some (.ref q.S) := by rw [← em]; exact (eo _ (by decide) (by decide) (by decide)).trans hsr
    have er3 : m3 (Str.ofString "rounds") = some (.int ((turns q.succ st t).2.2 : Int) tr') := by rw [← em]; exact er
    have eo3 : ∀ x, x ≠ Str.ofString "group" → x ≠ Str.ofString "rounds" → x ≠ Str.ofString "turn" → m3 x = m x := fun x h1 h2 h3 => by rw [← em]; exact (if_neg h3).trans (eo x h1 h2 h3)
    refine ph7b (q := q) (st := turns q.succ st t) (N := N) Gg F3 es3 er3 S3 hrv R3 hi2 hRf hgt (ok t ht) hsu hsl ?_
    intro h4 tk4 m4 ws4 n4 N4 tr4 F4 eo4 er4 S4 R4 hi4 K4
    dsimp only at K4 ⊢
    refine ⟨h4, tk4, m4, rfl, F4, ?_, fun x a b c => (eo4 x a b).trans (eo3 x a b c), tr4, er4, ?_, N4, ws4, n4, S4, R4, hi4⟩
    · intro b hb o e
      rw [mem1 hb] at e ⊢
      refine K4 _ _ (fun c => ?_) e
      rcases List.mem_cons.mp c with c | c
      · exact absurd lL1 (by rw [c]; exact Nat.lt_irrefl _)
      · exact absurd (lf _ c) (Nat.lt_irrefl _)
    · refine (K2.past K3 ?_).trans K4
      intro d hd
      rcases mem2 hd with c | c
      · exact .inl (c ▸ .head _)
      · exact .inr (by rw [c]; exact Nat.le_of_lt l01)
/-- a for over a list of pairs -/
theorem iterPairs {w : World} {A : Around} {E : Value → Shared → Prop} {s : Shared} {env : Env} {g : Heap} {a b : Str} {pa pb tp : Pos} {kk : Nat} {body : List Stmt} {Q : Flow → Shared → Prop} {D : Addr} {ds : List Addr} {n : Nat} {vals : Nat → Value × Value} {m : Str → Option Value}
    (J : Nat → (Str → Option Value) → Heap → Prop) (hh : A.handled = none) (ha : env.kindOf a = some .local) (hb : env.kindOf b = some .local) (hp : (env.scope.kind == .class || (env.scope.kind == .module && env.locals != env.globals)) = false)
    (hD : s.heap.get? D = some (listOf (ds.map Value.ref).toArray n)) (hDL : D ≠ env.locals) (hds : ∀ x ∈ ds, @LT.lt Nat _ x s.heap.objs.size) (F : Fr g env.locals s.heap m) (h0 : ∀ h', Kept [] s.heap h' → J 0 m h')
    (htup : ∀ i m h, J i m h → ∀ (k : Nat) (x : Addr), ds[k]? = some x → h.get? x = some (tupOf [(vals k).1, (vals k).2]))
    (turn : ∀ i m₁ h₁ h tk, i < ds.length → J i m₁ h₁ → Kept [env.locals, s.heap.objs.size] h₁ h → (∃ o, h.get? s.heap.objs.size = some o ∧ o.cls = .type "list_iterator") → Fr g env.locals h (fun y => if y = b then some (vals i).2 else if y = a then some (vals i).1 else m₁ y) →
      wpAny (model prg w) A (execs body env) (TurnR g env.locals [s.heap.objs.size, D] (J (i + 1)) s h Q) E { s with heap := h, toks := tk })
    (done : ∀ m' h₁ h tk, J ds.length m' h₁ → Kept [s.heap.objs.size] h₁ h → Fr g env.locals h m' → Q .next { s with heap := h, toks := tk })
    (hE : PassesOwn (model prg w) A env E) :
    wpAny (model prg w) A (pyIter (.ref D)) (fun it s₂ => codeAny (model prg w) A (.forLoop (.Tuple [.Name a pa, .Name b pb] kk tp) it body [] env) (fun r s' => match r with | .ok f => Q f s' | .error e => cameBackBy (model prg w) A env E e s') s₂) E s := by
  have hDl : s.heap.IsList D (ds.map Value.ref).toArray := ⟨_, hD, rfl, _, rfl⟩
  have lt : @LT.lt Nat _ D s.heap.objs.size := Heap.lt_size hD
  refine wpAny_pyIter_list hDl ?_
  have W := Walks.list (prog := prg) (w := w) hh s.heap.objs.size D (Nat.ne_of_lt lt) (ds.map Value.ref).toArray
  have hsz : (ds.map Value.ref).toArray.size = ds.length := by simp
  have F1 := F.push { cls := .type "list_iterator", data := .fields #[.ref D, .int 0 0] }
  have lL : @LT.lt Nat _ env.locals s.heap.objs.size := F.ns.lt
  generalize eI : s.heap.objs.size = I at *
  have st0 : (s.heap.push { cls := .type "list_iterator", data := .fields #[.ref D, .int 0 0] }).IsListIter I D 0 ∧ (s.heap.push { cls := .type "list_iterator", data := .fields #[.ref D, .int 0 0] }).IsList D (ds.map Value.ref).toArray := by
    subst eI
    exact ⟨⟨_, Heap.get?_push_size _ rfl, rfl, rfl⟩, ⟨_, Heap.get?_push_of_some _ hD, rfl, _, rfl⟩⟩
  have J0 := h0 _ (Kept.push s.heap { cls := .type "list_iterator", data := .fields #[.ref D, .int 0 0] })
  generalize s.heap.push { cls := .type "list_iterator", data := .fields #[.ref D, .int 0 0] } = h1 at *
  have hIg : g.get? I = none := Mine.Fr.high F (Nat.le_of_lt lL)
  refine codeAny_forLoop_any (LoopI s g env.locals J (fun i h' => h'.IsListIter I D i ∧ h'.IsList D (ds.map Value.ref).toArray) ds.length) ?_ (ds.length + 1) ⟨h1, s.toks, m, 0, rfl, st0, F1, J0, Nat.zero_le _, rfl⟩
  rintro k s' ⟨h', tk, m', i, rfl, hst', F', hJ, hi, rfl⟩
  have next : ∀ h₁ : Heap, (∀ b o, b ∉ [I] → h'.get? b = some o → h₁.get? b = some o) → Fr g env.locals h₁ m' := fun h₁ hk₁ => Mine.Fr.behind F' (all1 (hIg)) (not1 (Nat.ne_of_lt lL)) hk₁
  by_cases hlt : i < ds.length
  · refine W.item i _ _ _ (by rw [hsz]; exact hlt) hst' fun v h₁ tk₁ hP hst₁ hk₁ => ?_
    have F₁ := next h₁ hk₁
    have ei : ds[i]? = some ds[i] := List.getElem?_eq_getElem hlt
    have hv : v = .ref ds[i] := by
      have : (ds.map Value.ref)[i]? = some v := by simpa using hP
      rw [List.getElem?_map, ei] at this
      exact (Option.some.inj this).symm
    subst hv
    have hx : @LT.lt Nat _ ds[i] I := hds _ (List.getElem_mem hlt)
    have tx := hk₁ _ _ (not1 (Nat.ne_of_lt hx)) (htup i m' h' hJ i _ ei)
    refine wpAny_letOwnedTupleGo_listiter hst₁.1 ?_
    refine kcp_assign (x := (vals i).1) (y := (vals i).2) hh ⟨_, tx, rfl, _, rfl⟩ ha hb hp F₁.ns ?_
    intro h₂ tk₂ hn₂ hk₂
    dsimp only at hk₂ ⊢
    have hgL : g.get? env.locals = none := Mine.Fr.high F (Nat.le_refl _)
    have F₂ : Fr g env.locals h₂ (fun y => if y = b then some (vals i).2 else if y = a then some (vals i).1 else m' y) := ⟨hn₂, fun c o e => hk₂ c o (fun q => by rw [q, hgL] at e; cases e) (F₁.keep c o e), F₁.above⟩
    have K₂ : Kept [env.locals, I] h' h₂ := fun c o hc e => by
      simp only [List.mem_cons, List.not_mem_nil, or_false, not_or] at hc
      exact hk₂ c o hc.1 (hk₁ c o (not1 hc.2) e)
    have hst₂ : h₂.IsListIter I D (i + 1) ∧ h₂.IsList D (ds.map Value.ref).toArray := W.frame _ _ _ hst₁ fun c hc o e => hk₂ c o (fun q => by
      subst q
      simp only [List.mem_cons, List.not_mem_nil, or_false] at hc
      rcases hc with hc | hc
      · exact absurd hc (Nat.ne_of_lt lL)
      · exact hDL hc.symm) e
    have hit : ∃ o, h₂.get? I = some o ∧ o.cls = .type "list_iterator" := by obtain ⟨⟨o, x, y, _⟩, _⟩ := hst₂; exact ⟨o, x, y⟩
    refine wpAny_passesOwn hE (wpAny_mono (turn i m' h' h₂ _ hlt hJ K₂ hit F₂) (fun f s₃ h₃ => ?_) fun _ _ e => e)
    cases f with
    | ret v => exact h₃
    | brk => exact h₃
    | cont =>
      obtain ⟨h₃', tk₃, m₂, rfl, F₃, ha₃, hJ₃⟩ := h₃
      exact ⟨ds.length + 1 - (i + 1), fuel_lt hlt, h₃', tk₃, m₂, i + 1, rfl, W.frame _ _ _ hst₂ ha₃, F₃, hJ₃, hlt, rfl⟩
    | next =>
      obtain ⟨h₃', tk₃, m₂, rfl, F₃, ha₃, hJ₃⟩ := h₃
      exact ⟨ds.length + 1 - (i + 1), fuel_lt hlt, h₃', tk₃, m₂, i + 1, rfl, W.frame _ _ _ hst₂ ha₃, F₃, hJ₃, hlt, rfl⟩
  · have hin : i = ds.length := by lia
    subst hin
    refine W.done _ _ _ (by rw [hsz]; exact hst') fun h₁ tk₁ hk₁ => wpAny_execs_nil ?_
    exact done m' h' h₁ tk₁ hJ hk₁ (next h₁ hk₁)

/-- the pairs' key -/
def keyOf (p : Int × Int) : Int := 64 * p.1 + p.2


theorem tups_of {h : Heap} : ∀ {ts : List Addr} {be : List (Int × Int)}, ts.length = be.length → (∀ (i : Nat) (a : Addr) (p : Int × Int), ts[i]? = some a → be[i]? = some p → ∃ t u, h.get? a = some (tupOf [.int p.1 t, .int p.2 u])) →
    ∃ fs, KatTups h (ts.map Value.ref) fs ∧ (∀ v ∈ fs, ∃ b t, v = Value.int b t) ∧ fs.length = ts.length
  | [], [], _, _ => ⟨[], .nil, by simp, rfl⟩
  | [], _ :: _, hl, _ => by simp at hl
  | _ :: _, [], hl, _ => by simp at hl
  | a :: ts, p :: be, hl, ht => by
    obtain ⟨fs, x1, x2, x3⟩ := tups_of (ts := ts) (be := be) (by simpa using hl) (fun i a p e1 e2 => ht (i + 1) a p e1 e2)
    obtain ⟨t, u, e⟩ := ht 0 a p rfl rfl
    refine ⟨.int p.1 t :: fs, KatTups.cons e rfl rfl rfl x1, ?_, by simp [x3]⟩
    intro v hv
    rcases List.mem_cons.mp hv with rfl | hv
    · exact ⟨_, _, rfl⟩
    · exact x2 v hv

/-- two pairs compared -/
theorem pair_lt {w : World} {A : Around} {E : Value → Shared → Prop} {s : Shared} {x y : Addr} {a b c d : Int} {t1 t2 t3 t4 : Tok} {Q : Bool → Shared → Prop} (hx : s.heap.get? x = some (tupOf [.int a t1, .int b t2])) (hy : s.heap.get? y = some (tupOf [.int c t3, .int d t4]))
    (hb : 0 ≤ b ∧ b < 64) (hd : 0 ≤ d ∧ d < 64) (h : Q (decide (keyOf (a, b) < keyOf (c, d))) s) : wpAny (model prg w) A (keyLt' (tuples' true) (.ref x) (.ref y)) Q E s := by
  refine kat_lt hx rfl hy rfl ?_
  refine kat_cons ?_
  refine wpAny_eqBool_int ?_
  refine kat_go (fun e => kat_yes (kat_cons (wpAny_eqBool_int (kat_go (fun e2 => kat_yes (kat_nil ?_)) (fun e2 => kat_no (kat_one _ _ (lt_int ?_))))))) (fun e => kat_no (oneLt_int ?_))
  · have e := eq_of_beq e
    have e2 := eq_of_beq e2
    subst e; subst e2
    rw [decide_eq_false (Int.lt_irrefl _)] at h
    exact h
  · have e := eq_of_beq e
    subst e
    show Q _ s
    rw [show decide (b < d) = decide (keyOf (a, b) < keyOf (a, d)) from decide_eq_decide.mpr (by unfold keyOf; dsimp only; lia)]
    exact h
  · have e := ne_of_beq_false e
    rw [show decide (a < c) = decide (keyOf (a, b) < keyOf (c, d)) from decide_eq_decide.mpr (by unfold keyOf; dsimp only; lia)]
    exact h

theorem pw_of_get {α : Type} {R : α → α → Prop} : ∀ {l : List α}, (∀ (i j : Nat) (x y : α), i < j → l[i]? = some x → l[j]? = some y → R x y) → l.Pairwise R
  | [], _ => .nil
  | a :: l, h => .cons (fun y hy => by
      obtain ⟨j, ej⟩ := List.getElem?_of_mem hy
      exact h 0 (j + 1) a y (by lia) rfl ej) (pw_of_get fun i j x y hij e1 e2 => h (i + 1) (j + 1) x y (by lia) e1 e2)

theorem map_getD_range {α : Type} (d : α) : ∀ (l : List α), (List.range l.length).map (fun i => l.getD i d) = l := by
  intro l
  apply List.ext_getElem?
  intro i
  rw [List.getElem?_map]
  by_cases h : i < l.length
  · rw [List.getElem?_range h, List.getElem?_eq_getElem h]
    simp [List.getElem?_eq_getElem h]
  · rw [List.getElem?_eq_none (by simpa using h), List.getElem?_eq_none (by simpa using h)]
    rfl

/-- `sorted(stays)` -/
theorem sortedStays {w : World} {A : Around} {E : Value → Shared → Prop} {s : Shared} {g : Heap} {L : Addr} {m : Str → Option Value} {T : Addr} {ts : List Addr} {be : List (Int × Int)} {Q : Value → Shared → Prop}
    (F : Fr g L s.heap m) (st : Stays s.heap L T ts be) (hbe : be.length = 8) (hb : ∀ p ∈ be, 0 ≤ p.2 ∧ p.2 < 64)
    (h : ∀ (h' : Heap) (tk : Nat) (D : Addr) (ds : List Addr) (bs : List (Int × Int)) (n : Nat), Fr g L h' m → Kept [L] s.heap h' → h'.get? D = some (listOf (ds.map Value.ref).toArray n) → s.heap.get? D = none → D ≠ L → g.get? D = none → ds.length = bs.length → bs.Perm be → bs.Pairwise (fun x y => keyOf x ≤ keyOf y) →
      (∀ (i : Nat) (a : Addr) (p : Int × Int), ds[i]? = some a → bs[i]? = some p → a ∈ ts ∧ ∃ t u, h'.get? a = some (tupOf [.int p.1 t, .int p.2 u])) → Q (.ref D) { s with heap := h', toks := tk }) :
    wpAny (model prg w) A (call (.builtin "sorted") [.ref T]) Q E s := by
  obtain ⟨nT, hT⟩ := st.lst
  have hl : ts.length = 8 := st.len.trans hbe
  refine kat_sorted (vs := ts.map Value.ref) F (all_raw (g := g) (L := L)) ⟨_, hT, rfl, _, rfl⟩ (by rw [List.length_map]; lia) (by rw [List.length_map]; lia) ?_
  intro D e1 h1 F1 N1 hlt
  have K1 : Kept [L] s.heap h1 := all_back F F1 N1 (fun p hp => .tail _ hp)
  have nL : ∀ a ∈ ts, a ∉ [L] := fun a ha => not1 (neN (by have := st.gt a ha; lia))
  have hDL : D ≠ L := (N1 _ (.head _)).2.1
  have hDg : g.get? D = none := (N1 _ (.head _)).2.2
  have hDn : s.heap.get? D = none := by
    cases e : s.heap.get? D with
    | none => rfl
    | some o => exact absurd (hlt (D, o) (mem_restOf.mpr ⟨e, hDL, hDL, hDg⟩)) (Nat.lt_irrefl _)
  have tup1 : ∀ (i : Nat) (a : Addr) (p : Int × Int), ts[i]? = some a → be[i]? = some p → ∃ t u, h1.get? a = some (tupOf [.int p.1 t, .int p.2 u]) := fun i a p ha hp => by
    obtain ⟨t, u, e⟩ := st.tup i a p ha hp
    exact ⟨t, u, K1 _ _ (nL a (List.mem_of_getElem? ha)) e⟩
  obtain ⟨fs, kt, hfs, hfl⟩ := tups_of st.len tup1
  refine kat_kind (T := .type "int") kt (by lia) (fun v hv => ?_) rfl ?_
  · obtain ⟨b, t, rfl⟩ := hfs v hv
    exact Looks.now
  refine sort_wp (N := (ts.map Value.ref).length) (f := fun i => keyOf (be.getD i (0, 0))) (I := fun s' => ∃ tk, s' = { s with heap := h1, toks := tk }) ?ask (by rw [List.length_map]; lia) ⟨s.toks, rfl⟩ ?fin
  case ask =>
    rintro i j C s' hi hj ⟨tk, rfl⟩ hC
    rw [List.length_map] at hi hj
    unfold kas_ask
    have ei : ts[i]? = some ts[i] := List.getElem?_eq_getElem hi
    have ej : ts[j]? = some ts[j] := List.getElem?_eq_getElem hj
    have fi : be[i]? = some (be.getD i (0, 0)) := by rw [List.getD_eq_getElem?_getD, List.getElem?_eq_getElem (by lia)]; rfl
    have fj : be[j]? = some (be.getD j (0, 0)) := by rw [List.getD_eq_getElem?_getD, List.getElem?_eq_getElem (by lia)]; rfl
    have gi : (ts.map Value.ref).getD i Value.none = .ref ts[i] := by rw [List.getD_eq_getElem?_getD, List.getElem?_map, ei]; rfl
    have gj : (ts.map Value.ref).getD j Value.none = .ref ts[j] := by rw [List.getD_eq_getElem?_getD, List.getElem?_map, ej]; rfl
    rw [gi, gj]
    obtain ⟨t1, u1, x1⟩ := tup1 i _ _ ei fi
    obtain ⟨t2, u2, x2⟩ := tup1 j _ _ ej fj
    exact pair_lt x1 x2 (hb _ (List.mem_of_getElem? fi)) (hb _ (List.mem_of_getElem? fj)) (hC _ ⟨tk, rfl⟩)
  case fin =>
    rintro p s' hp hs ⟨tk, rfl⟩
    refine KasFin.intro F1 N1 (.head fun q hq => Nat.ne_of_lt (hlt q hq)) ?_
    intro h2 c F2 N2
    have K2 : Kept [L] s.heap h2 := all_back F F2 N2 (fun p hp => .tail _ hp)
    have hD2 := (N2 _ (.head _)).1
    rw [OkP, List.length_map, hl] at hp
    rw [List.length_map, hl] at hs
    have hpz : p.size = 8 := OkP.size hp
    have emap : (p.toList.map fun i => (ts.map Value.ref).getD i Value.none) = (p.toList.map fun i => ts.getD i 0).map Value.ref := by
      rw [List.map_map]
      apply List.map_congr_left
      intro i hi
      have hi8 : i < 8 := List.mem_range.mp (hp.mem_iff.mp hi)
      show (ts.map Value.ref).getD i Value.none = Value.ref (ts.getD i 0)
      rw [List.getD_eq_getElem?_getD, List.getD_eq_getElem?_getD, List.getElem?_map, List.getElem?_eq_getElem (by lia)]
      rfl
    rw [emap] at hD2
    refine h h2 tk D (p.toList.map fun i => ts.getD i 0) (p.toList.map fun i => be.getD i (0, 0)) c F2 K2 hD2 hDn hDL hDg (by simp) ?_ ?_ ?_
    · have := hp.map (fun i => be.getD i (0, 0))
      rw [show (8 : Nat) = be.length from hbe.symm, map_getD_range] at this
      exact this
    · refine pw_of_get fun i j x y hij ex ey => ?_
      rw [List.getElem?_map] at ex ey
      obtain ⟨i', ei, rfl⟩ := Option.map_eq_some_iff.mp ex
      obtain ⟨j', ej, rfl⟩ := Option.map_eq_some_iff.mp ey
      have hj : j < 8 := by have := (List.getElem?_eq_some_iff.mp ej).1; rw [Array.length_toList, hpz] at this; exact this
      have := hs i j (by lia) hj
      unfold KeyAt at this
      rw [Array.getD_eq_getD_getElem?, Array.getD_eq_getD_getElem?, ← Array.getElem?_toList, ← Array.getElem?_toList, ei, ej] at this
      exact this
    · intro i a q ea eq
      rw [List.getElem?_map] at ea eq
      obtain ⟨i', ei, rfl⟩ := Option.map_eq_some_iff.mp ea
      rw [ei] at eq
      have eq := Option.some.inj eq
      have hi8 : i' < 8 := List.mem_range.mp (hp.mem_iff.mp (List.mem_of_getElem? ei))
      have ea' : ts[i']? = some (ts.getD i' 0) := by rw [List.getD_eq_getElem?_getD, List.getElem?_eq_getElem (by lia)]; rfl
      have eb' : be[i']? = some q := by rw [← eq]; show be[i']? = some (be.getD i' (0, 0)); rw [List.getD_eq_getElem?_getD, List.getElem?_eq_getElem (by lia)]; rfl
      obtain ⟨t, u, e⟩ := st.tup i' _ _ ea' eb'
      exact ⟨List.mem_of_getElem? ea', t, u, K2 _ _ (nL _ (List.mem_of_getElem? ea')) e⟩
/-- one stay more takes a room -/
def roomStep (H : List Int) (p : Int × Int) : List Int := if H ≠ [] ∧ H.getD 0 0 ≤ p.1 then sup (H.set 0 p.2) else sd p.2 H.length (H ++ [p.2]) H.length
def roomsAt (bs : List (Int × Int)) (i : Nat) : List Int := (bs.take i).foldl roomStep []

/-- `heap = []` -/
theorem ph8 {w : World} {s : Shared} {g : Heap} {L fa : Addr} {cd : Value} {m : Str → Option Value} {Q : Flow → Shared → Prop} (F : Fr g L s.heap m)
    (hQ : ∀ h' tk H n, Fr g L h' (fun y => if y = Str.ofString "heap" then some (.ref H) else m y) → Kept [L] s.heap h' → h'.get? H = some (listOf (([] : List Value).toArray) n) → s.heap.get? H = none → @LT.lt Nat _ L H → Q .next { s with heap := h', toks := tk }) :
    wpAny (model prg w) (callerA.deeper (envL L fa cd)) (exec (lawStmt 8) (envL L fa cd)) Q (fun _ _ => False) s := by
  refine wpAny_Assign_Name ?_
  repeat walk_at "q"
  refine newListR F ?_
  intro h1 F1 K1 l1
  try dsimp only at K1 l1 ⊢
  walk_at "q"
  rename_i h2 F2 K2
  have lL : @LT.lt Nat _ L s.heap.objs.size := F.ns.lt
  exact hQ h2 _ _ _ F2 ((K1.mono (List.forall_mem_nil _)).trans K2) (K2 _ _ (not1 (Nat.ne_of_gt lL)) l1) (Heap.get?_none_of_le (Nat.le_refl _)) lL

inductive Ph9Q (s : Shared) (g : Heap) (L : Addr) (m : Str → Option Value) (d c : Bool) (s' : Shared) : Prop
  | mk (e : c = d) (h' : Heap) (tk : Nat) (e' : s' = { s with heap := h', toks := tk }) (F : Fr g L h' m) (K : Kept [] s.heap h') : Ph9Q s g L m d c s'
/-- the body of `for begin, end in sorted(stays):` -/
theorem ph9b {w : World} {s : Shared} {mg mb : Str → Option Value} {g : Heap} {L fa : Addr} {cd : Value} {m : Str → Option Value} {H : Addr} {vs : List Value} {ns : List Int} {n : Nat} {b e : Int} {tb te : Tok} {Q : Flow → Shared → Prop}
    (Gg : Gnd w mg mb g) (F : Fr g L s.heap m) (hhp : m (Str.ofString "heap") = some (.ref H)) (hbg : m (Str.ofString "begin") = some (.int b tb)) (hen : m (Str.ofString "end") = some (.int e te)) (hH : s.heap.get? H = some (listOf vs.toArray n)) (hLH : @LT.lt Nat _ L H) (hi : IntsAre vs ns) (hmin : ∀ a ∈ ns, ns.getD 0 0 ≤ a) (hlen : ns.length ≤ 900)
    (hQ : ∀ h' tk m' vs' n', Fr g L h' m' → (∀ x, x ≠ Str.ofString "least" → m' x = m x) → Kept [L, H] s.heap h' → h'.get? H = some (listOf vs'.toArray n') → IntsAre vs' (roomStep ns (b, e)) → Q .next { s with heap := h', toks := tk }) :
    wpAny (model prg w) (callerA.deeper (envL L fa cd)) (execs (forBody (lawStmt 9)) (envL L fa cd)) Q (fun _ _ => False) s := by
  have X' := Gg.X
  have T' := Gg.T
  have hHL : H ≠ L := Nat.ne_of_gt hLH
  have hHg : g.get? H = none := Mine.Fr.high F (Nat.le_of_lt hLH)
  refine wpAny_execs_cons ?_
  refine wpAny_If (wpAny_mono (Q := Ph9Q s g L m (decide (ns ≠ [] ∧ ns.getD 0 0 ≤ b))) (E := fun _ _ => False) ?cond ?rest (fun _ _ x => x))
  case cond =>
    refine isTrue_and ?_
    refine wpAny_isTrue_Compare1 ?_
    refine ldL F hhp ?_
    repeat walk_at "q"
    refine newListR F ?_
    intro h1 F1 K1 l1
    try dsimp only at K1 l1 ⊢
    have H1 := K1 _ _ List.not_mem_nil hH
    refine ne_intsK (ms := []) ⟨_, H1, rfl, _, rfl⟩ hi ⟨_, l1, rfl, _, rfl⟩ .nil (Nat.le_of_ble_eq_true rfl) ?_
    walk_at "q"
    by_cases e0 : ns = []
    · rw [decide_eq_true e0]
      refine (if_neg Bool.false_ne_true).mpr ?_
      exact ⟨by simp [e0], h1, _, rfl, F1, K1⟩
    · rw [decide_eq_false e0]
      refine (if_pos rfl).mpr ?_
      have hpos : 0 < ns.length := List.length_pos_iff.mpr e0
      refine isTrue_and ?_
      refine wpAny_isTrue_Compare1 ?_
      refine Subscript_ ?_
      refine ldL F1 hhp ?_
      walk_at "q"
      refine list_itemR (i := 0) H1 hi hpos (by lia) ?_ (by with_unfolding_all rfl)
      intro t2
      refine ldL F1 hbg ?_
      walk_at "q"
      walk_at "q"
      by_cases c : ns.getD 0 0 ≤ b
      · rw [decide_eq_true c]
        refine (if_pos rfl).mpr ?_
        refine isTrue_and_nil ?_
        exact ⟨(decide_eq_true ⟨e0, c⟩).symm, h1, _, rfl, F1, K1⟩
      · rw [decide_eq_false c]
        refine (if_neg Bool.false_ne_true).mpr ?_
        exact ⟨(decide_eq_false (fun x => c x.2)).symm, h1, _, rfl, F1, K1⟩
  case rest =>
    rintro c s' ⟨rfl, h1, tk1, rfl, F1, K1⟩
    have H1 := K1 _ _ List.not_mem_nil hH
    by_cases cc : ns ≠ [] ∧ ns.getD 0 0 ≤ b
    · rw [decide_eq_true cc]
      refine (if_pos rfl).mpr ?_
      have hpos : 0 < ns.length := List.length_pos_iff.mpr cc.1
      refine wpAny_execs_cons ?_
      refine wpAny_Assign_Name ?_
      repeat walk_at "q"
      refine min_list_N (news := restOf g L L h1) rfl F1 (all_raw (g := g) (L := L)) ⟨_, H1, rfl, _, rfl⟩ hi hpos ?_
      intro h2 M tM tk2 F2 N2 hM hMin
      have K2 : Kept [L] h1 h2 := all_back F1 F2 N2 (fun p hp => hp)
      dsimp only
      have eM : M = ns.getD 0 0 := Int.le_antisymm (hMin _ (by rw [List.getD_eq_getElem?_getD, List.getElem?_eq_getElem hpos]; exact List.getElem_mem hpos)) (hmin M hM)
      walk_at "q"
      rename_i h3 F3 K3
      have H3 := K3 _ _ (not1 hHL) (K2 _ _ (not1 hHL) H1)
      generalize em : (fun y => if y = Str.ofString "least" then some (Value.int M tM) else m y) = m3 at F3
      have eo3 : ∀ x, x ≠ Str.ofString "least" → m3 x = m x := fun x hx => by rw [← em]; exact if_neg hx
      have el3 : m3 (Str.ofString "least") = some (.int M tM) := by rw [← em]; rfl
      have eh3 : m3 (Str.ofString "heap") = some (.ref H) := (eo3 _ (by decide)).trans hhp
      have ee3 : m3 (Str.ofString "end") = some (.int e te) := (eo3 _ (by decide)).trans hen
      have K03 : Kept [L, H] s.heap h3 := ((K1.mono (List.forall_mem_nil _)).trans (K2.mono (all1 (.head _)))).trans (K3.mono (all1 (.head _)))
      clear em F1 F2 N2 K2 K3
      refine wpAny_execs_cons ?_
      refine wpAny_If ?_
      refine wpAny_isTrue_Compare1 ?_
      repeat walk_at "q"
      refine wpAny_call (codeAny_AS rfl (Nat.le_of_ble_eq_true rfl) (Nat.le_of_ble_eq_true rfl) (heapreplace_spec Gg F3.keep H3 hHg hi hpos hlen ?_))
      intro h4 tk4 vs4 t4 K4 H4 hi4
      dsimp only at K4 ⊢
      have F4 := Mine.Fr.behind F3 (M := [H]) (all1 (hHg)) (not1 (Ne.symm hHL)) K4
      refine ldL F4 el3 ?_
      walk_at "q"
      walk_at "q"
      rw [eM, bne_self_eq_false]
      refine (if_neg Bool.false_ne_true).mpr ?_
      repeat walk_at "q"
      refine hQ h4 tk4 m3 vs4 n F4 eo3 (K03.trans (K4.mono (all1 (.tail _ (.head _))))) H4 ?_
      unfold roomStep
      rw [if_pos cc]
      exact hi4
    · rw [decide_eq_false cc]
      refine (if_neg Bool.false_ne_true).mpr ?_
      refine wpAny_execs_cons ?_
      refine wpAny_Expr ?_
      repeat walk_at "q"
      refine wpAny_call (codeAny_AS rfl (Nat.le_of_ble_eq_true rfl) (Nat.le_of_ble_eq_true rfl) (heappush_spec Gg F1.keep H1 hHg hi hlen ?_))
      intro h4 tk4 vs4 n4 K4 H4 hi4
      dsimp only at K4 ⊢
      have F4 := Mine.Fr.behind F1 (M := [H]) (all1 (hHg)) (not1 (Ne.symm hHL)) K4
      repeat walk_at "q"
      refine hQ h4 tk4 m vs4 n4 F4 (fun _ _ => rfl) ((K1.mono (List.forall_mem_nil _)).trans (K4.mono (all1 (.tail _ (.head _))))) H4 ?_
      unfold roomStep
      rw [if_neg cc]
      exact hi4
inductive Ph9J (L H : Addr) (h1 : Heap) (m0 : Str → Option Value) (bs : List (Int × Int)) (i : Nat) (m' : Str → Option Value) (h : Heap) : Prop
  | mk (eo : ∀ x, x ≠ Str.ofString "least" → x ≠ Str.ofString "begin" → x ≠ Str.ofString "end" → m' x = m0 x) (K : Kept [L, H] h1 h) (vs' : List Value) (n' : Nat) (hH : h.get? H = some (listOf vs'.toArray n')) (hi : IntsAre vs' (roomsAt bs i)) : Ph9J L H h1 m0 bs i m' h
/-- `for begin, end in sorted(stays):` -/
theorem ph9 {w : World} {s : Shared} {mg mb : Str → Option Value} {g : Heap} {L fa : Addr} {cd : Value} {m : Str → Option Value} {T H : Addr} {ts : List Addr} {be : List (Int × Int)} {n : Nat} {Q : Flow → Shared → Prop}
    (Gg : Gnd w mg mb g) (F : Fr g L s.heap m) (st : Stays s.heap L T ts be) (hbe : be.length = 8) (hhp : m (Str.ofString "heap") = some (.ref H)) (hH : s.heap.get? H = some (listOf (([] : List Value).toArray) n)) (hLH : @LT.lt Nat _ L H) (hHt : H ∉ ts)
    (hgood : ∀ (bs : List (Int × Int)) (i : Nat), (roomsAt bs i).length ≤ i ∧ ∀ a ∈ roomsAt bs i, (roomsAt bs i).getD 0 0 ≤ a)
    (hQ : ∀ h' tk m' vs' n' bs, bs.Perm be → bs.Pairwise (fun x y => keyOf x ≤ keyOf y) → Fr g L h' m' → (∀ x, x ≠ Str.ofString "least" → x ≠ Str.ofString "begin" → x ≠ Str.ofString "end" → m' x = m x) → Kept [L, H] s.heap h' → h'.get? H = some (listOf vs'.toArray n') → IntsAre vs' (roomsAt bs 8) → Q .next { s with heap := h', toks := tk }) :
    wpAny (model prg w) (callerA.deeper (envL L fa cd)) (exec (lawStmt 9) (envL L fa cd)) Q (fun _ _ => False) s := by
  have X' := Gg.X
  have T' := Gg.T
  have hHL : H ≠ L := Nat.ne_of_gt hLH
  obtain ⟨oc, hoc, hdc⟩ := st.cell
  refine wpAny_For ?_
  refine Call_ ?_
  walk_at "q"
  refine callWith_method1 ?_
  refine args_cons ?_
  refine ldC cell_stays hoc hdc ?_
  refine args_nil ?_
  simp only [List.nil_append]
  refine sortedStays F st hbe (fun p hp => ⟨by have := st.ok p hp; lia, (st.ok p hp).2.2⟩) ?_
  intro h1 tk1 D ds bs nD F1 K1 hD hDn hDL hDg hl hperm hpw htup
  try dsimp only at K1 hDn ⊢
  have hbl : bs.length = 8 := hperm.length_eq.trans hbe
  have hdl : ds.length = 8 := hl.trans hbl
  have H1 := K1 _ _ (not1 hHL) hH
  have hHD : H ≠ D := fun c => by rw [c, hDn] at hH; cases hH
  have tb : ∀ (i : Nat) (a : Addr), ds[i]? = some a → a ∈ ts ∧ ∃ t u, h1.get? a = some (tupOf [.int (bs.getD i (0, 0)).1 t, .int (bs.getD i (0, 0)).2 u]) := fun i a ha => by
    have hi : i < bs.length := by rw [← hl]; exact (List.getElem?_eq_some_iff.mp ha).1
    exact htup i a _ ha (by rw [List.getD_eq_getElem?_getD, List.getElem?_eq_getElem hi]; rfl)
  -- the tokens of the pairs
  have toks : ∃ tt : Nat → Tok × Tok, ∀ (i : Nat) (a : Addr), ds[i]? = some a → h1.get? a = some (tupOf [.int (bs.getD i (0, 0)).1 (tt i).1, .int (bs.getD i (0, 0)).2 (tt i).2]) := by
    have : ∀ i : Nat, ∃ t : Tok × Tok, ∀ a : Addr, ds[i]? = some a → h1.get? a = some (tupOf [.int (bs.getD i (0, 0)).1 t.1, .int (bs.getD i (0, 0)).2 t.2]) := by
      intro i
      cases e : ds[i]? with
      | none => exact ⟨(0, 0), fun a h => nomatch h⟩
      | some a =>
        obtain ⟨_, t, u, x⟩ := tb i a e
        exact ⟨(t, u), fun a' h => by cases h; exact x⟩
    exact ⟨fun i => (this i).choose, fun i => (this i).choose_spec⟩
  obtain ⟨tt, htt⟩ := toks
  have dts : ∀ a ∈ ds, a ∈ ts := fun a ha => by
    obtain ⟨i, hi⟩ := List.getElem?_of_mem ha
    exact (tb i a hi).1
  have dsl : ∀ a ∈ ds, @LT.lt Nat _ a h1.objs.size := fun a ha => by
    obtain ⟨i, hi⟩ := List.getElem?_of_mem ha
    exact Heap.lt_size (htt i a hi)
  have ndL : ∀ a ∈ ts, a ≠ L := fun a ha => Nat.ne_of_gt (Nat.lt_trans (Nat.lt_succ_of_lt (Nat.lt_succ_self L)) (st.gt a ha))
  have lH : @LT.lt Nat _ H h1.objs.size := Heap.lt_size H1
  have lD : @LT.lt Nat _ D h1.objs.size := Heap.lt_size hD
  have lL1 : @LT.lt Nat _ L h1.objs.size := F1.ns.lt
  refine iterPairs (vals := fun i => (.int (bs.getD i (0, 0)).1 (tt i).1, .int (bs.getD i (0, 0)).2 (tt i).2)) (Ph9J L H h1 m bs) rfl rfl rfl rfl hD hDL dsl F1 ?start ?tup ?turn ?done PassesOwn.never
  case start =>
    intro h' K'
    exact ⟨fun _ _ _ _ => rfl, K'.mono (List.forall_mem_nil _), [], n, K' _ _ List.not_mem_nil H1, .nil⟩
  case tup =>
    rintro i m' h ⟨_, K, _, _, _, _⟩ k x ex
    have hxt := dts x (List.mem_of_getElem? ex)
    exact K _ _ (not2 (ndL x hxt) (fun c => hHt (c ▸ hxt))) (htt k x ex)
  case done =>
    rintro m' h2 h3 tk ⟨eo, K2, vs', n', H2, hi2⟩ K3 F3
    dsimp only at K3
    rw [hdl] at hi2
    refine hQ h3 tk m' vs' n' bs hperm hpw F3 eo ?_ (K3 _ _ (not1 (Nat.ne_of_lt lH)) H2) hi2
    intro b o hb e
    simp only [List.mem_cons, List.not_mem_nil, or_false, not_or] at hb
    have e1 := K1 _ _ (not1 hb.1) e
    exact K3 _ _ (not1 (Nat.ne_of_lt (Heap.lt_size e1))) (K2 _ _ (not2 hb.1 hb.2) e1)
  case turn =>
    rintro i m2 h2 h3 tk3 hlt ⟨eo, K2, vs', n', H2, hi2⟩ K3 ⟨oI, hoI, cI⟩ F3
    dsimp only at K3 hoI F3 ⊢
    replace F3 : Fr g L h3 (fun y => if y = Str.ofString "end" then some (Value.int (bs.getD i (0, 0)).2 (tt i).2) else if y = Str.ofString "begin" then some (Value.int (bs.getD i (0, 0)).1 (tt i).1) else m2 y) := F3
    replace K3 : Kept [L, h1.objs.size] h2 h3 := K3
    have H3 := K3 _ _ (not2 hHL (Nat.ne_of_lt lH)) H2
    have hi8 : i < 8 := by lia
    generalize em : (fun y => if y = Str.ofString "end" then some (Value.int (bs.getD i (0, 0)).2 (tt i).2) else if y = Str.ofString "begin" then some (Value.int (bs.getD i (0, 0)).1 (tt i).1) else m2 y) = m3 at F3
    have ebi : bs[i]? = some (bs.getD i (0, 0)) := by rw [List.getD_eq_getElem?_getD, List.getElem?_eq_getElem (by lia)]; rfl
    have g := hgood bs i
    refine ph9b (b := (bs.getD i (0, 0)).1) (e := (bs.getD i (0, 0)).2) Gg F3 (by rw [← em]; exact (eo _ (by decide) (by decide) (by decide)).trans hhp) (by rw [← em]; rfl) (by rw [← em]; rfl) H3 hLH hi2 g.2 (by lia) ?_
    intro h4 tk4 m4 vs4 n4 F4 eo4 K4 H4 hi4
    dsimp only at K4 ⊢
    refine ⟨h4, tk4, m4, rfl, F4, ?_, ?_, ?_, vs4, n4, H4, ?_⟩
    · intro b hb o e
      rcases mem2 hb with c | c
      · rw [c] at e ⊢; exact K4 _ _ (not2 (Nat.ne_of_gt lL1) (Nat.ne_of_gt lH)) e
      · rw [c] at e ⊢; exact K4 _ _ (not2 hDL (Ne.symm hHD)) e
    · intro x a b c
      rw [eo4 x a, ← em]
      exact (if_neg c).trans ((if_neg b).trans (eo x a b c))
    · refine (K2.past K3 ?_).trans K4
      intro d hd
      rcases mem2 hd with c | c
      · exact .inl (c ▸ .head _)
      · exact .inr (Nat.le_of_eq c.symm)
    · unfold roomsAt at hi4 ⊢
      rw [List.take_add_one, ebi, List.foldl_append]
      exact hi4

abbrev inFor : Stmt := (forBody (lawStmt 12)).getD 0 default
abbrev inB (k : Nat) : Stmt := (forBody inFor).getD k default
theorem ints_app : ∀ {vs : List Value} {ns : List Int}, IntsAre vs ns → ∀ (x : Int) (t : Tok), IntsAre (vs ++ [.int x t]) (ns ++ [x])
  | _, _, .nil, x, t => .cons x t .nil
  | _, _, .cons i u h, x, t => .cons i u (ints_app h x t)

/-- `fits = chains[rest] >= 0 and apart[top] & rest == ..` -/
theorem fitA {w : World} {s : Shared} {mg mb : Str → Option Value} {g : Heap} {L fa : Addr} {cd : Value} {m : Str → Option Value} {C AP : Addr} {vc va : List Value} {cs ap : List Int} {nc na : Nat} {t r : Nat} {tt tr : Tok} {Q : Flow → Shared → Prop}
    (Gg : Gnd w mg mb g) (F : Fr g L s.heap m) (hc : m (Str.ofString "chains") = some (.ref C)) (ha : m (Str.ofString "apart") = some (.ref AP)) (ht : m (Str.ofString "top") = some (.int (t : Int) tt)) (hr : m (Str.ofString "rest") = some (.int (r : Int) tr))
    (hC : s.heap.get? C = some (listOf vc.toArray nc)) (hic : IntsAre vc cs) (hcl : cs.length ≤ 1000) (hrc : r < cs.length) (hA : s.heap.get? AP = some (listOf va.toArray na)) (hia : IntsAre va ap) (hal : ap.length ≤ 1000) (hta : t < ap.length)
    (hQ : ∀ h' tk, Fr g L h' (fun y => if y = Str.ofString "fits" then some (.bool (decide (0 ≤ cs.getD r 0 ∧ Builtin.bitAnd (ap.getD t 0) (r : Int) = (r : Int)))) else m y) → Kept [L] s.heap h' → Q .next { s with heap := h', toks := tk }) :
    wpAny (model prg w) (callerA.deeper (envL L fa cd)) (exec (inB 0) (envL L fa cd)) Q (fun _ _ => False) s := by
  have X' := Gg.X
  have T' := Gg.T
  refine wpAny_Assign_Name ?_
  refine BoolOp_and ?_
  refine wpAny_Compare1 ?_
  refine Subscript_ ?_
  refine ldL F hc ?_
  refine ldL F hr ?_
  refine list_itemR hC hic hrc hcl ?_ (by with_unfolding_all rfl)
  intro t1
  walk_at "q"
  walk_at "q"
  walk_at "q"
  by_cases c0 : 0 ≤ cs.getD r 0
  · rw [decide_eq_true c0]
    refine (if_pos rfl).mpr ?_
    refine BoolOp_one ?_
    refine wpAny_Compare1 ?_
    walk_at "q"
    refine Subscript_ ?_
    refine ldL F ha ?_
    refine ldL F ht ?_
    refine list_itemR hA hia hta hal ?_ (by with_unfolding_all rfl)
    intro t2
    refine ldL F hr ?_
    refine and_int ?_
    walk_at "q"
    walk_at "q"
    walk_at "q"
    rename_i h2 F2 K2
    refine hQ h2 _ ?_ K2
    have e : (Builtin.bitAnd (ap.getD t 0) (r : Int) == (r : Int)) = decide (0 ≤ cs.getD r 0 ∧ Builtin.bitAnd (ap.getD t 0) (r : Int) = (r : Int)) := by
      by_cases c : Builtin.bitAnd (ap.getD t 0) (r : Int) = (r : Int)
      · rw [decide_eq_true ⟨c0, c⟩, c]; exact beq_self_eq_true _
      · rw [decide_eq_false (fun x => c x.2)]; exact beq_eq_false_iff_ne.mpr c
    rw [← e]
    exact F2
  · rw [decide_eq_false c0]
    refine (if_neg Bool.false_ne_true).mpr ?_
    walk_at "q"
    rename_i h2 F2 K2
    refine hQ h2 _ ?_ K2
    rw [decide_eq_false (fun x => c0 x.1)]
    exact F2

/-- `chains.append(..)` -/
theorem appA {w : World} {s : Shared} {mg mb : Str → Option Value} {g : Heap} {L fa : Addr} {cd : Value} {m : Str → Option Value} {C : Addr} {vc : List Value} {cs : List Int} {nc : Nat} {r : Nat} {tr : Tok} {fb : Bool} {Q : Flow → Shared → Prop}
    (Gg : Gnd w mg mb g) (F : Fr g L s.heap m) (hc : m (Str.ofString "chains") = some (.ref C)) (hr : m (Str.ofString "rest") = some (.int (r : Int) tr)) (hf : m (Str.ofString "fits") = some (.bool fb))
    (hC : s.heap.get? C = some (listOf vc.toArray nc)) (hic : IntsAre vc cs) (hcl : cs.length ≤ 1000) (hrc : r < cs.length) (hLC : @LT.lt Nat _ L C)
    (hQ : ∀ h' tk vc' nc', Fr g L h' m → Kept [C] s.heap h' → h'.get? C = some (listOf vc'.toArray nc') → IntsAre vc' (cs ++ [if fb = true then cs.getD r 0 + 1 else -1]) → Q .next { s with heap := h', toks := tk }) :
    wpAny (model prg w) (callerA.deeper (envL L fa cd)) (exec (inB 1) (envL L fa cd)) Q (fun _ _ => False) s := by
  have X' := Gg.X
  have T' := Gg.T
  have hsz : vc.toArray.size ≤ sizeLine := by rw [List.size_toArray, sizeLine_eq, hic.length]; lia
  refine wpAny_Expr ?_
  refine MethodCall_ ?_
  refine ldL F hc ?_
  refine getMethod_builtin ⟨_, hC, rfl⟩ PySem.F.plainAttrs_list PySem.F.slot_list_append PySem.F.type_list_append (fun a e => by cases e; exact ⟨_, hC, rfl⟩) ?_
  refine callWith_method1 ?_
  refine args_cons ?_
  refine IfExp_ ?_
  refine isTrue_plain ?_
  refine ldL F hf ?_
  walk_at "q"
  cases fb with
  | true =>
    refine (if_pos rfl).mpr ?_
    walk_at "q"
    refine Subscript_ ?_
    refine ldL F hc ?_
    refine ldL F hr ?_
    refine list_itemR hC hic hrc hcl ?_ (by with_unfolding_all rfl)
    intro t1
    walk_at "q"
    walk_at "q"
    walk_at "q"
    refine append_at (D := C) (its := vc.toArray) (n := nc) hC ?_ hsz
    intro h2 B2 l2
    rw [List.push_toArray] at l2
    have K2 := Kept.one B2
    exact hQ h2 _ _ _ (Mine.Fr.behind F (M := [C]) (all1 (Mine.Fr.high F (Nat.le_of_lt hLC))) (not1 (Nat.ne_of_lt hLC)) K2) K2 l2 (ints_app hic _ _)
  | false =>
    refine (if_neg Bool.false_ne_true).mpr ?_
    refine UnaryOp_ ?_
    walk_at "q"
    refine neg_int ?_
    walk_at "q"
    refine append_at (D := C) (its := vc.toArray) (n := nc) hC ?_ hsz
    intro h2 B2 l2
    rw [List.push_toArray] at l2
    have K2 := Kept.one B2
    exact hQ h2 _ _ _ (Mine.Fr.behind F (M := [C]) (all1 (Mine.Fr.high F (Nat.le_of_lt hLC))) (not1 (Nat.ne_of_lt hLC)) K2) K2 l2 (ints_app hic _ _)

/-- `fits = crowds[rest] >= 0 and apart[top] & rest == ..` -/
theorem fitB {w : World} {s : Shared} {mg mb : Str → Option Value} {g : Heap} {L fa : Addr} {cd : Value} {m : Str → Option Value} {C AP : Addr} {vc va : List Value} {cs ap : List Int} {nc na : Nat} {t r : Nat} {tt tr : Tok} {Q : Flow → Shared → Prop}
    (Gg : Gnd w mg mb g) (F : Fr g L s.heap m) (hc : m (Str.ofString "crowds") = some (.ref C)) (ha : m (Str.ofString "apart") = some (.ref AP)) (ht : m (Str.ofString "top") = some (.int (t : Int) tt)) (hr : m (Str.ofString "rest") = some (.int (r : Int) tr))
    (hC : s.heap.get? C = some (listOf vc.toArray nc)) (hic : IntsAre vc cs) (hcl : cs.length ≤ 1000) (hrc : r < cs.length) (hA : s.heap.get? AP = some (listOf va.toArray na)) (hia : IntsAre va ap) (hal : ap.length ≤ 1000) (hta : t < ap.length)
    (hQ : ∀ h' tk, Fr g L h' (fun y => if y = Str.ofString "fits" then some (.bool (decide (0 ≤ cs.getD r 0 ∧ Builtin.bitAnd (ap.getD t 0) (r : Int) = 0))) else m y) → Kept [L] s.heap h' → Q .next { s with heap := h', toks := tk }) :
    wpAny (model prg w) (callerA.deeper (envL L fa cd)) (exec (inB 2) (envL L fa cd)) Q (fun _ _ => False) s := by
  have X' := Gg.X
  have T' := Gg.T
  refine wpAny_Assign_Name ?_
  refine BoolOp_and ?_
  refine wpAny_Compare1 ?_
  refine Subscript_ ?_
  refine ldL F hc ?_
  refine ldL F hr ?_
  refine list_itemR hC hic hrc hcl ?_ (by with_unfolding_all rfl)
  intro t1
  walk_at "q"
  walk_at "q"
  walk_at "q"
  by_cases c0 : 0 ≤ cs.getD r 0
  · rw [decide_eq_true c0]
    refine (if_pos rfl).mpr ?_
    refine BoolOp_one ?_
    refine wpAny_Compare1 ?_
    walk_at "q"
    refine Subscript_ ?_
    refine ldL F ha ?_
    refine ldL F ht ?_
    refine list_itemR hA hia hta hal ?_ (by with_unfolding_all rfl)
    intro t2
    refine ldL F hr ?_
    refine and_int ?_
    walk_at "q"
    walk_at "q"
    walk_at "q"
    rename_i h2 F2 K2
    refine hQ h2 _ ?_ K2
    have e : (Builtin.bitAnd (ap.getD t 0) (r : Int) == 0) = decide (0 ≤ cs.getD r 0 ∧ Builtin.bitAnd (ap.getD t 0) (r : Int) = 0) := by
      by_cases c : Builtin.bitAnd (ap.getD t 0) (r : Int) = 0
      · rw [decide_eq_true ⟨c0, c⟩, c]; exact beq_self_eq_true _
      · rw [decide_eq_false (fun x => c x.2)]; exact beq_eq_false_iff_ne.mpr c
    rw [← e]
    exact F2
  · rw [decide_eq_false c0]
    refine (if_neg Bool.false_ne_true).mpr ?_
    walk_at "q"
    rename_i h2 F2 K2
    refine hQ h2 _ ?_ K2
    rw [decide_eq_false (fun x => c0 x.1)]
    exact F2

/-- `crowds.append(..)` -/
theorem appB {w : World} {s : Shared} {mg mb : Str → Option Value} {g : Heap} {L fa : Addr} {cd : Value} {m : Str → Option Value} {C : Addr} {vc : List Value} {cs : List Int} {nc : Nat} {r : Nat} {tr : Tok} {fb : Bool} {Q : Flow → Shared → Prop}
    (Gg : Gnd w mg mb g) (F : Fr g L s.heap m) (hc : m (Str.ofString "crowds") = some (.ref C)) (hr : m (Str.ofString "rest") = some (.int (r : Int) tr)) (hf : m (Str.ofString "fits") = some (.bool fb))
    (hC : s.heap.get? C = some (listOf vc.toArray nc)) (hic : IntsAre vc cs) (hcl : cs.length ≤ 1000) (hrc : r < cs.length) (hLC : @LT.lt Nat _ L C)
    (hQ : ∀ h' tk vc' nc', Fr g L h' m → Kept [C] s.heap h' → h'.get? C = some (listOf vc'.toArray nc') → IntsAre vc' (cs ++ [if fb = true then cs.getD r 0 + 1 else -1]) → Q .next { s with heap := h', toks := tk }) :
    wpAny (model prg w) (callerA.deeper (envL L fa cd)) (exec (inB 3) (envL L fa cd)) Q (fun _ _ => False) s := by
  have X' := Gg.X
  have T' := Gg.T
  have hsz : vc.toArray.size ≤ sizeLine := by rw [List.size_toArray, sizeLine_eq, hic.length]; lia
  refine wpAny_Expr ?_
  refine MethodCall_ ?_
  refine ldL F hc ?_
  refine getMethod_builtin ⟨_, hC, rfl⟩ PySem.F.plainAttrs_list PySem.F.slot_list_append PySem.F.type_list_append (fun a e => by cases e; exact ⟨_, hC, rfl⟩) ?_
  refine callWith_method1 ?_
  refine args_cons ?_
  refine IfExp_ ?_
  refine isTrue_plain ?_
  refine ldL F hf ?_
  walk_at "q"
  cases fb with
  | true =>
    refine (if_pos rfl).mpr ?_
    walk_at "q"
    refine Subscript_ ?_
    refine ldL F hc ?_
    refine ldL F hr ?_
    refine list_itemR hC hic hrc hcl ?_ (by with_unfolding_all rfl)
    intro t1
    walk_at "q"
    walk_at "q"
    walk_at "q"
    refine append_at (D := C) (its := vc.toArray) (n := nc) hC ?_ hsz
    intro h2 B2 l2
    rw [List.push_toArray] at l2
    have K2 := Kept.one B2
    exact hQ h2 _ _ _ (Mine.Fr.behind F (M := [C]) (all1 (Mine.Fr.high F (Nat.le_of_lt hLC))) (not1 (Nat.ne_of_lt hLC)) K2) K2 l2 (ints_app hic _ _)
  | false =>
    refine (if_neg Bool.false_ne_true).mpr ?_
    refine UnaryOp_ ?_
    walk_at "q"
    refine neg_int ?_
    walk_at "q"
    refine append_at (D := C) (its := vc.toArray) (n := nc) hC ?_ hsz
    intro h2 B2 l2
    rw [List.push_toArray] at l2
    have K2 := Kept.one B2
    exact hQ h2 _ _ _ (Mine.Fr.behind F (M := [C]) (all1 (Mine.Fr.high F (Nat.le_of_lt hLC))) (not1 (Nat.ne_of_lt hLC)) K2) K2 l2 (ints_app hic _ _)
def chStep (a : Int) (cs : List Int) (r : Nat) : List Int := cs ++ [if decide (0 ≤ cs.getD r 0 ∧ Builtin.bitAnd a (r : Int) = (r : Int)) = true then cs.getD r 0 + 1 else -1]
def crStep (a : Int) (cs : List Int) (r : Nat) : List Int := cs ++ [if decide (0 ≤ cs.getD r 0 ∧ Builtin.bitAnd a (r : Int) = 0) = true then cs.getD r 0 + 1 else -1]
theorem chs_len (a : Int) : ∀ (l : List Nat) (cs : List Int), (l.foldl (chStep a) cs).length = cs.length + l.length
  | [], _ => rfl
  | r :: l, cs => by rw [List.foldl_cons, chs_len a l]; simp [chStep]; lia
theorem crs_len (a : Int) : ∀ (l : List Nat) (cs : List Int), (l.foldl (crStep a) cs).length = cs.length + l.length
  | [], _ => rfl
  | r :: l, cs => by rw [List.foldl_cons, crs_len a l]; simp [crStep]; lia
def chAt (ap : List Int) (t : Nat) : List Int := (List.range t).foldl (fun cs top => (List.range (2 ^ top)).foldl (chStep (ap.getD top 0)) cs) [0]
def crAt (ap : List Int) (t : Nat) : List Int := (List.range t).foldl (fun cs top => (List.range (2 ^ top)).foldl (crStep (ap.getD top 0)) cs) [0]
theorem chAt_succ (ap : List Int) (t : Nat) : chAt ap (t + 1) = (List.range (2 ^ t)).foldl (chStep (ap.getD t 0)) (chAt ap t) := by unfold chAt; rw [List.range_succ, List.foldl_append]; rfl
theorem crAt_succ (ap : List Int) (t : Nat) : crAt ap (t + 1) = (List.range (2 ^ t)).foldl (crStep (ap.getD t 0)) (crAt ap t) := by unfold crAt; rw [List.range_succ, List.foldl_append]; rfl
theorem chAt_len (ap : List Int) : ∀ t, (chAt ap t).length = 2 ^ t
  | 0 => rfl
  | t + 1 => by rw [chAt_succ, chs_len, chAt_len ap t, List.length_range, Nat.pow_succ]; lia
theorem crAt_len (ap : List Int) : ∀ t, (crAt ap t).length = 2 ^ t
  | 0 => rfl
  | t + 1 => by rw [crAt_succ, crs_len, crAt_len ap t, List.length_range, Nat.pow_succ]; lia

/-- `chains = [0]` -/
theorem ph10 {w : World} {s : Shared} {g : Heap} {L fa : Addr} {cd : Value} {m : Str → Option Value} {Q : Flow → Shared → Prop} (F : Fr g L s.heap m)
    (hQ : ∀ h' tk H vs n, Fr g L h' (fun y => if y = Str.ofString "chains" then some (.ref H) else m y) → Kept [L] s.heap h' → h'.get? H = some (listOf (vs : List Value).toArray n) → IntsAre vs [0] → s.heap.get? H = none → @LT.lt Nat _ L H → Q .next { s with heap := h', toks := tk }) :
    wpAny (model prg w) (callerA.deeper (envL L fa cd)) (exec (lawStmt 10) (envL L fa cd)) Q (fun _ _ => False) s := by
  refine wpAny_Assign_Name ?_
  repeat walk_at "q"
  refine newListR F ?_
  intro h1 F1 K1 l1
  try dsimp only at K1 l1 ⊢
  walk_at "q"
  rename_i h2 F2 K2
  have lL : @LT.lt Nat _ L s.heap.objs.size := F.ns.lt
  exact hQ h2 _ _ _ _ F2 ((K1.mono (List.forall_mem_nil _)).trans K2) (K2 _ _ (not1 (Nat.ne_of_gt lL)) l1) (.cons _ _ .nil) (Heap.get?_none_of_le (Nat.le_refl _)) lL
/-- `crowds = [0]` -/
theorem ph11 {w : World} {s : Shared} {g : Heap} {L fa : Addr} {cd : Value} {m : Str → Option Value} {Q : Flow → Shared → Prop} (F : Fr g L s.heap m)
    (hQ : ∀ h' tk H vs n, Fr g L h' (fun y => if y = Str.ofString "crowds" then some (.ref H) else m y) → Kept [L] s.heap h' → h'.get? H = some (listOf (vs : List Value).toArray n) → IntsAre vs [0] → s.heap.get? H = none → @LT.lt Nat _ L H → Q .next { s with heap := h', toks := tk }) :
    wpAny (model prg w) (callerA.deeper (envL L fa cd)) (exec (lawStmt 11) (envL L fa cd)) Q (fun _ _ => False) s := by
  refine wpAny_Assign_Name ?_
  repeat walk_at "q"
  refine newListR F ?_
  intro h1 F1 K1 l1
  try dsimp only at K1 l1 ⊢
  walk_at "q"
  rename_i h2 F2 K2
  have lL : @LT.lt Nat _ L s.heap.objs.size := F.ns.lt
  exact hQ h2 _ _ _ _ F2 ((K1.mono (List.forall_mem_nil _)).trans K2) (K2 _ _ (not1 (Nat.ne_of_gt lL)) l1) (.cons _ _ .nil) (Heap.get?_none_of_le (Nat.le_refl _)) lL

theorem not3 {a b c d : Addr} (h : a ≠ b) (h' : a ≠ c) (h'' : a ≠ d) : a ∉ [b, c, d] := by simp [h, h', h'']

inductive Ph12iJ (s : Shared) (L C D : Addr) (m0 : Str → Option Value) (at' : Int) (cs ds : List Int) (r : Nat) (m' : Str → Option Value) (h : Heap) : Prop
  | mk (eo : ∀ x, x ≠ Str.ofString "fits" → x ≠ Str.ofString "rest" → m' x = m0 x) (K : Kept [L, C, D] s.heap h) (lc : LsAt h C ((List.range r).foldl (chStep at') cs)) (vd' : List Value) (nd' : Nat) (hD : h.get? D = some (listOf vd'.toArray nd')) (hi : IntsAre vd' ((List.range r).foldl (crStep at') ds)) : Ph12iJ s L C D m0 at' cs ds r m' h
/-- `for rest in range(2 ** top):` -/
theorem ph12i {w : World} {s : Shared} {mg mb : Str → Option Value} {g : Heap} {L fa : Addr} {cd : Value} {m : Str → Option Value} {C D AP : Addr} {vc vd va : List Value} {cs ds ap : List Int} {nc nd na : Nat} {t : Nat} {tt : Tok} {Q : Flow → Shared → Prop}
    (Gg : Gnd w mg mb g) (F : Fr g L s.heap m) (hc : m (Str.ofString "chains") = some (.ref C)) (hd' : m (Str.ofString "crowds") = some (.ref D)) (ha : m (Str.ofString "apart") = some (.ref AP)) (ht : m (Str.ofString "top") = some (.int (t : Int) tt)) (ht8 : t < 8)
    (hC : s.heap.get? C = some (listOf vc.toArray nc)) (hic : IntsAre vc cs) (hcl : cs.length = 2 ^ t) (hD : s.heap.get? D = some (listOf vd.toArray nd)) (hid : IntsAre vd ds) (hdl : ds.length = 2 ^ t) (hA : s.heap.get? AP = some (listOf va.toArray na)) (hia : IntsAre va ap) (hal : ap.length = 8)
    (hLC : @LT.lt Nat _ L C) (hLD : @LT.lt Nat _ L D) (hCD : C ≠ D) (hAL : AP ≠ L) (hAC : AP ≠ C) (hAD : AP ≠ D)
    (hQ : ∀ h' tk m' vc' nc' vd' nd', Fr g L h' m' → (∀ x, x ≠ Str.ofString "fits" → x ≠ Str.ofString "rest" → m' x = m x) → Kept [L, C, D] s.heap h' → h'.get? C = some (listOf vc'.toArray nc') → IntsAre vc' ((List.range (2 ^ t)).foldl (chStep (ap.getD t 0)) cs) → h'.get? D = some (listOf vd'.toArray nd') → IntsAre vd' ((List.range (2 ^ t)).foldl (crStep (ap.getD t 0)) ds) → Q .next { s with heap := h', toks := tk }) :
    wpAny (model prg w) (callerA.deeper (envL L fa cd)) (exec inFor (envL L fa cd)) Q (fun _ _ => False) s := by
  have X' := Gg.X
  have T' := Gg.T
  have hp8 : 2 ^ t ≤ 128 := by
    have : 2 ^ t ≤ 2 ^ 7 := Nat.pow_le_pow_right (by decide) (by lia)
    exact this
  have hCL : C ≠ L := Nat.ne_of_gt hLC
  have hDL : D ≠ L := Nat.ne_of_gt hLD
  refine wpAny_For ?_
  refine Call_ ?_
  walk_at "q"
  refine callWith_ty ?_
  refine args_cons ?_
  walk_at "q"
  walk_at "q"
  refine ldL F ht ?_
  refine two_powR (by lia) ?_
  intro t1
  refine args_nil ?_
  simp only [List.nil_append]
  refine rangeR F ?_
  intro h1 tk1 ta tb F1 K1 r1
  dsimp only at K1 r1 ⊢
  have l01 : @LT.lt Nat _ s.heap.objs.size h1.objs.size := Heap.lt_size r1
  have lL1 : @LT.lt Nat _ L h1.objs.size := F1.ns.lt
  have C1 := K1 _ _ List.not_mem_nil hC
  have D1 := K1 _ _ List.not_mem_nil hD
  have lC : @LT.lt Nat _ C h1.objs.size := Heap.lt_size C1
  have lD : @LT.lt Nat _ D h1.objs.size := Heap.lt_size D1
  have lA : @LT.lt Nat _ AP h1.objs.size := Heap.lt_size (K1 _ _ List.not_mem_nil hA)
  refine iterRange (n := 2 ^ t) (Ph12iJ s L C D m (ap.getD t 0) cs ds) rfl rfl rfl r1 (by lia) F1 ?start ?turn ?done PassesOwn.never
  case start =>
    intro h' K'
    exact ⟨fun _ _ _ => rfl, (K1.trans K').mono (List.forall_mem_nil _), ⟨vc, nc, K' _ _ List.not_mem_nil C1, hic⟩, vd, nd, K' _ _ List.not_mem_nil D1, hid⟩
  case done =>
    rintro m' h2 h3 tk ⟨eo, K2, ⟨vc', nc', C2, ic2⟩, vd', nd', D2, id2⟩ K3 F3
    dsimp only at K3
    exact hQ h3 tk m' vc' nc' vd' nd' F3 eo (K2.past K3 (fun d hd => .inr (by rw [mem1 hd]; exact Nat.le_of_lt l01))) (K3 _ _ (not1 (Nat.ne_of_lt lC)) C2) ic2 (K3 _ _ (not1 (Nat.ne_of_lt lD)) D2) id2
  case turn =>
    rintro r tr m2 h2 h3 tk3 hr ⟨eo, K2, ⟨vc', nc', C2, ic2⟩, vd', nd', D2, id2⟩ K3 ⟨oI, hoI, cI⟩ F3
    dsimp only at K3 hoI F3 ⊢
    replace F3 : Fr g L h3 (fun y => if y = Str.ofString "rest" then some (Value.int (r : Int) tr) else m2 y) := F3
    replace K3 : Kept [L, h1.objs.size] h2 h3 := K3
    have C3 := K3 _ _ (not2 hCL (Nat.ne_of_lt lC)) C2
    have D3 := K3 _ _ (not2 hDL (Nat.ne_of_lt lD)) D2
    have A3 := K3 _ _ (not2 hAL (Nat.ne_of_lt lA)) (K2 _ _ (not3 hAL hAC hAD) hA)
    have K03 : Kept [L, C, D] s.heap h3 := K2.past K3 (by
      intro d hd
      rcases mem2 hd with c | c
      · exact .inl (c ▸ .head _)
      · exact .inr (by rw [c]; exact Nat.le_of_lt l01))
    have lc : ((List.range r).foldl (chStep (ap.getD t 0)) cs).length = 2 ^ t + r := by rw [chs_len, hcl, List.length_range]
    have ld' : ((List.range r).foldl (crStep (ap.getD t 0)) ds).length = 2 ^ t + r := by rw [crs_len, hdl, List.length_range]
    have ec : (List.range (r + 1)).foldl (chStep (ap.getD t 0)) cs = chStep (ap.getD t 0) ((List.range r).foldl (chStep (ap.getD t 0)) cs) r := by rw [List.range_succ, List.foldl_append]; rfl
    have ed : (List.range (r + 1)).foldl (crStep (ap.getD t 0)) ds = crStep (ap.getD t 0) ((List.range r).foldl (crStep (ap.getD t 0)) ds) r := by rw [List.range_succ, List.foldl_append]; rfl
    generalize (List.range r).foldl (chStep (ap.getD t 0)) cs = ck at *
    generalize (List.range r).foldl (crStep (ap.getD t 0)) ds = dk at *
    clear C2 D2 K2
    generalize em : (fun y => if y = Str.ofString "rest" then some (Value.int (r : Int) tr) else m2 y) = m3 at F3
    have eo3 : ∀ x, x ≠ Str.ofString "fits" → x ≠ Str.ofString "rest" → m3 x = m x := fun x a b => by rw [← em]; exact (if_neg b).trans (eo x a b)
    have er3 : m3 (Str.ofString "rest") = some (.int (r : Int) tr) := by rw [← em]; rfl
    have ec3 := (eo3 (Str.ofString "chains") (by decide) (by decide)).trans hc
    have ed3 := (eo3 (Str.ofString "crowds") (by decide) (by decide)).trans hd'
    have ea3 := (eo3 (Str.ofString "apart") (by decide) (by decide)).trans ha
    have et3 := (eo3 (Str.ofString "top") (by decide) (by decide)).trans ht
    clear em
    refine wpAny_execs_cons ?_
    refine fitA Gg F3 ec3 ea3 et3 er3 C3 ic2 (by lia) (by lia) A3 hia (by lia) (by lia) ?_
    intro h4 tk4 F4 K4
    dsimp only at K4 ⊢
    have C4 := K4 _ _ (not1 hCL) C3
    have D4 := K4 _ _ (not1 hDL) D3
    have A4 := K4 _ _ (not1 hAL) A3
    refine wpAny_execs_cons ?_
    refine appA Gg F4 (show _ = some (Value.ref C) from ec3) (show _ = some (Value.int (r : Int) tr) from er3) (by rfl) C4 ic2 (by lia) (by lia) hLC ?_
    intro h5 tk5 vc5 nc5 F5 K5 C5 ic5
    dsimp only at K5 ⊢
    have D5 := K5 _ _ (not1 (Ne.symm hCD)) D4
    have A5 := K5 _ _ (not1 hAC) A4
    refine wpAny_execs_cons ?_
    refine fitB Gg F5 (show _ = some (Value.ref D) from ed3) (show _ = some (Value.ref AP) from ea3) (show _ = some (Value.int (t : Int) tt) from et3) (show _ = some (Value.int (r : Int) tr) from er3) D5 id2 (by lia) (by lia) A5 hia (by lia) (by lia) ?_
    intro h6 tk6 F6 K6
    dsimp only at K6 ⊢
    have C6 := K6 _ _ (not1 hCL) C5
    have D6 := K6 _ _ (not1 hDL) D5
    refine wpAny_execs_cons ?_
    refine appB Gg F6 (show _ = some (Value.ref D) from ed3) (show _ = some (Value.int (r : Int) tr) from er3) (by rfl) D6 id2 (by lia) (by lia) hLD ?_
    intro h7 tk7 vd7 nd7 F7 K7 D7 id7
    dsimp only at K7 ⊢
    have C7 := K7 _ _ (not1 hCD) C6
    refine wpAny_execs_nil ?_
    refine ⟨h7, tk7, _, rfl, F7, ?_, ?_, ?_, ⟨vc5, nc5, C7, by rw [ec]; exact ic5⟩, vd7, nd7, D7, by rw [ed]; exact id7⟩
    · intro b hb o e
      rw [mem1 hb] at e ⊢
      exact K7 _ _ (not1 (Nat.ne_of_gt lD)) (K6 _ _ (not1 (Nat.ne_of_gt lL1)) (K5 _ _ (not1 (Nat.ne_of_gt lC)) (K4 _ _ (not1 (Nat.ne_of_gt lL1)) e)))
    · intro x a b
      show (if x = Str.ofString "fits" then _ else if x = Str.ofString "fits" then _ else m3 x) = m x
      rw [if_neg a, if_neg a]
      exact eo3 x a b
    · exact (((K03.trans (K4.mono (all1 (.head _)))).trans (K5.mono (all1 (.tail _ (.head _))))).trans (K6.mono (all1 (.head _)))).trans (K7.mono (all1 (.tail _ (.tail _ (.head _)))))
inductive Ph12J (s : Shared) (L C D : Addr) (m0 : Str → Option Value) (ap : List Int) (t : Nat) (m' : Str → Option Value) (h : Heap) : Prop
  | mk (eo : ∀ x, x ≠ Str.ofString "fits" → x ≠ Str.ofString "rest" → x ≠ Str.ofString "top" → m' x = m0 x) (K : Kept [L, C, D] s.heap h) (lc : LsAt h C (chAt ap t)) (vd' : List Value) (nd' : Nat) (hD : h.get? D = some (listOf vd'.toArray nd')) (hi : IntsAre vd' (crAt ap t)) : Ph12J s L C D m0 ap t m' h
/-- `for top in range(8):` -/
theorem ph12 {w : World} {s : Shared} {mg mb : Str → Option Value} {g : Heap} {L fa : Addr} {cd : Value} {m : Str → Option Value} {C D AP : Addr} {vc vd va : List Value} {ap : List Int} {nc nd na : Nat} {Q : Flow → Shared → Prop}
    (Gg : Gnd w mg mb g) (F : Fr g L s.heap m) (hc : m (Str.ofString "chains") = some (.ref C)) (hd' : m (Str.ofString "crowds") = some (.ref D)) (ha : m (Str.ofString "apart") = some (.ref AP))
    (hC : s.heap.get? C = some (listOf vc.toArray nc)) (hic : IntsAre vc [0]) (hD : s.heap.get? D = some (listOf vd.toArray nd)) (hid : IntsAre vd [0]) (hA : s.heap.get? AP = some (listOf va.toArray na)) (hia : IntsAre va ap) (hal : ap.length = 8)
    (hLC : @LT.lt Nat _ L C) (hLD : @LT.lt Nat _ L D) (hCD : C ≠ D) (hAL : AP ≠ L) (hAC : AP ≠ C) (hAD : AP ≠ D)
    (hQ : ∀ h' tk m' vc' nc' vd' nd', Fr g L h' m' → (∀ x, x ≠ Str.ofString "fits" → x ≠ Str.ofString "rest" → x ≠ Str.ofString "top" → m' x = m x) → Kept [L, C, D] s.heap h' → h'.get? C = some (listOf vc'.toArray nc') → IntsAre vc' (chAt ap 8) → h'.get? D = some (listOf vd'.toArray nd') → IntsAre vd' (crAt ap 8) → Q .next { s with heap := h', toks := tk }) :
    wpAny (model prg w) (callerA.deeper (envL L fa cd)) (exec (lawStmt 12) (envL L fa cd)) Q (fun _ _ => False) s := by
  have X' := Gg.X
  have T' := Gg.T
  have hCL : C ≠ L := Nat.ne_of_gt hLC
  have hDL : D ≠ L := Nat.ne_of_gt hLD
  refine wpAny_For ?_
  repeat walk_at "q"
  refine rangeR F ?_
  intro h1 tk1 ta tb F1 K1 r1
  dsimp only at K1 r1 ⊢
  replace r1 : IsRange h1 s.heap.objs.size 0 ((8 : Nat) : Int) 1 ta _ tb := r1
  have l01 : @LT.lt Nat _ s.heap.objs.size h1.objs.size := Heap.lt_size r1
  have lL1 : @LT.lt Nat _ L h1.objs.size := F1.ns.lt
  have C1 := K1 _ _ List.not_mem_nil hC
  have D1 := K1 _ _ List.not_mem_nil hD
  have lC : @LT.lt Nat _ C h1.objs.size := Heap.lt_size C1
  have lD : @LT.lt Nat _ D h1.objs.size := Heap.lt_size D1
  have lA : @LT.lt Nat _ AP h1.objs.size := Heap.lt_size (K1 _ _ List.not_mem_nil hA)
  refine iterRange (n := 8) (Ph12J s L C D m ap) rfl rfl rfl r1 (by decide) F1 ?start ?turn ?done PassesOwn.never
  case start =>
    intro h' K'
    exact ⟨fun _ _ _ _ => rfl, (K1.trans K').mono (List.forall_mem_nil _), ⟨vc, nc, K' _ _ List.not_mem_nil C1, hic⟩, vd, nd, K' _ _ List.not_mem_nil D1, hid⟩
  case done =>
    rintro m' h2 h3 tk ⟨eo, K2, ⟨vc', nc', C2, ic2⟩, vd', nd', D2, id2⟩ K3 F3
    dsimp only at K3
    exact hQ h3 tk m' vc' nc' vd' nd' F3 eo (K2.past K3 (fun d hd => .inr (by rw [mem1 hd]; exact Nat.le_of_lt l01))) (K3 _ _ (not1 (Nat.ne_of_lt lC)) C2) ic2 (K3 _ _ (not1 (Nat.ne_of_lt lD)) D2) id2
  case turn =>
    rintro t tt m2 h2 h3 tk3 ht ⟨eo, K2, ⟨vc', nc', C2, ic2⟩, vd', nd', D2, id2⟩ K3 ⟨oI, hoI, cI⟩ F3
    dsimp only at K3 hoI F3 ⊢
    replace F3 : Fr g L h3 (fun y => if y = Str.ofString "top" then some (Value.int (t : Int) tt) else m2 y) := F3
    replace K3 : Kept [L, h1.objs.size] h2 h3 := K3
    have C3 := K3 _ _ (not2 hCL (Nat.ne_of_lt lC)) C2
    have D3 := K3 _ _ (not2 hDL (Nat.ne_of_lt lD)) D2
    have A3 := K3 _ _ (not2 hAL (Nat.ne_of_lt lA)) (K2 _ _ (not3 hAL hAC hAD) hA)
    have K03 : Kept [L, C, D] s.heap h3 := K2.past K3 (by
      intro d hd
      rcases mem2 hd with c | c
      · exact .inl (c ▸ .head _)
      · exact .inr (by rw [c]; exact Nat.le_of_lt l01))
    generalize em : (fun y => if y = Str.ofString "top" then some (Value.int (t : Int) tt) else m2 y) = m3 at F3
    have eo3 : ∀ x, x ≠ Str.ofString "fits" → x ≠ Str.ofString "rest" → x ≠ Str.ofString "top" → m3 x = m x := fun x a b c => by rw [← em]; exact (if_neg c).trans (eo x a b c)
    have et3 : m3 (Str.ofString "top") = some (.int (t : Int) tt) := by rw [← em]; rfl
    refine wpAny_execs_cons ?_
    refine ph12i Gg F3 ((eo3 _ (by decide) (by decide) (by decide)).trans hc) ((eo3 _ (by decide) (by decide) (by decide)).trans hd') ((eo3 _ (by decide) (by decide) (by decide)).trans ha) et3 ht C3 ic2 (chAt_len ap t) D3 id2 (crAt_len ap t) A3 hia hal hLC hLD hCD hAL hAC hAD ?_
    intro h4 tk4 m4 vc4 nc4 vd4 nd4 F4 eo4 K4 C4 ic4 D4 id4
    dsimp only at K4 ⊢
    refine wpAny_execs_nil ?_
    refine ⟨h4, tk4, m4, rfl, F4, ?_, fun x a b c => (eo4 x a b).trans (eo3 x a b c), K03.trans K4, ⟨vc4, nc4, C4, by rw [chAt_succ]; exact ic4⟩, vd4, nd4, D4, by rw [crAt_succ]; exact id4⟩
    intro b hb o e
    rw [mem1 hb] at e ⊢
    exact K4 _ _ (not3 (Nat.ne_of_gt lL1) (Nat.ne_of_gt lC) (Nat.ne_of_gt lD)) e

/-- the last line -/
theorem ph13 {w : World} {s : Shared} {mg mb : Str → Option Value} {g : Heap} {L fa : Addr} {cd : Value} {m : Str → Option Value} {C D H R : Addr} {vc vd vh : List Value} {cs ds hs : List Int} {nc nd nh nr : Nat} {q : So} {rn : Int} {tr : Tok} {Q : Flow → Shared → Prop}
    (Gg : Gnd w mg mb g) (F : Fr g L s.heap m) (hc : m (Str.ofString "chains") = some (.ref C)) (hd' : m (Str.ofString "crowds") = some (.ref D)) (hh : m (Str.ofString "heap") = some (.ref H)) (hr : m (Str.ofString "rounds") = some (.int rn tr)) (hsr : m (Str.ofString "sorter") = some (.ref q.S))
    (hC : s.heap.get? C = some (listOf vc.toArray nc)) (hic : IntsAre vc cs) (hD : s.heap.get? D = some (listOf vd.toArray nd)) (hid : IntsAre vd ds) (hH : s.heap.get? H = some (listOf vh.toArray nh)) (hih : IntsAre vh hs) (hhl : hs.length ≤ 1000)
    (St : SoAt w q s.heap) (hrv : q.rv = .ref R) (hR : s.heap.get? R = some (listOf #[] nr)) (hnn : q.nfi = q.npo) (hgt : ∀ a ∈ R :: q.foot, a ≠ L ∧ g.get? a = none)
    (hCL : C ≠ L) (hDL : D ≠ L) (hHL : H ≠ L) (hc1 : rn ∈ cs) (hc2 : ∀ a ∈ cs, a ≤ rn) (hd1 : (hs.length : Int) ∈ ds) (hd2 : ∀ a ∈ ds, a ≤ (hs.length : Int))
    (hQ : ∀ h' tk m', Fr g L h' m' → Q (.ret (.bool true)) { s with heap := h', toks := tk }) :
    wpAny (model prg w) (callerA.deeper (envL L fa cd)) (exec (lawStmt 13) (envL L fa cd)) Q (fun _ _ => False) s := by
  have X' := Gg.X
  have T' := Gg.T
  have lcs : 0 < cs.length := List.length_pos_of_mem hc1
  have lds : 0 < ds.length := List.length_pos_of_mem hd1
  refine wpAny_Return_some ?_
  refine BoolOp_and ?_
  refine wpAny_Compare1 ?_
  refine ldL F hr ?_
  refine Call_ ?_
  walk_at "q"
  refine callWith_method1 ?_
  refine args_cons ?_
  refine ldL F hc ?_
  refine args_nil ?_
  simp only [List.nil_append]
  refine max_list_N (news := restOf g L L s.heap) rfl F (all_raw (g := g) (L := L)) ⟨_, hC, rfl, _, rfl⟩ hic lcs ?_
  intro h1 M t1 tk1 F1 N1 hM hMx
  have K1 : Kept [L] s.heap h1 := all_back F F1 N1 (fun p hp => hp)
  have eM : M = rn := Int.le_antisymm (hc2 M hM) (hMx rn hc1)
  subst eM
  walk_at "q"
  walk_at "q"
  rw [beq_self_eq_true]
  refine (if_pos rfl).mpr ?_
  have D1 := K1 _ _ (not1 hDL) hD
  have H1 := K1 _ _ (not1 hHL) hH
  have S1 := St.kept K1 (offs1 (fun hf => (hgt _ (.tail _ hf)).1 rfl))
  have R1 := K1 _ _ (not1 (hgt R (.head _)).1) hR
  refine BoolOp_and ?_
  refine wpAny_Compare1 ?_
  refine Call_ ?_
  walk_at "q"
  refine callWith_method1 ?_
  refine args_cons ?_
  refine ldL F1 hh ?_
  refine args_nil ?_
  simp only [List.nil_append]
  refine call_len_list ⟨_, H1, rfl, _, rfl⟩ (by rw [List.size_toArray, hih.length]; lia) ?_
  dsimp only
  refine Call_ ?_
  walk_at "q"
  refine callWith_method1 ?_
  refine args_cons ?_
  refine ldL F1 hd' ?_
  refine args_nil ?_
  simp only [List.nil_append]
  refine max_list_N (news := restOf g L L h1) rfl F1 (all_raw (g := g) (L := L)) ⟨_, D1, rfl, _, rfl⟩ hid lds ?_
  intro h2 M2 t2 tk2 F2 N2 hM2 hMx2
  have K2 : Kept [L] h1 h2 := all_back F1 F2 N2 (fun p hp => hp)
  have eM2 : M2 = (vh.toArray.size : Int) := by rw [List.size_toArray, hih.length]; exact Int.le_antisymm (hd2 M2 hM2) (hMx2 _ hd1)
  subst eM2
  walk_at "q"
  walk_at "q"
  rw [beq_self_eq_true]
  refine (if_pos rfl).mpr ?_
  have S2 := S1.kept K2 (offs1 (fun hf => (hgt _ (.tail _ hf)).1 rfl))
  have R2 := K2 _ _ (not1 (hgt R (.head _)).1) R1
  refine BoolOp_one ?_
  refine UnaryOp_ ?_
  refine MethodCall_ ?_
  refine ldL F2 hsr ?_
  refine so_meth F2 X' S2 (by k_is) (by k_is) (by k_is) (fun _ _ _ => rfl) ?_
  refine callWith_K0 (K := hd.heap_39 w.params) (X'.keeps F2.keep) (by k_is) ?_
  refine wpAny_call (codeAny_AS rfl (Nat.le_of_ble_eq_true rfl) (Nat.le_of_ble_eq_true rfl) (active_spec Gg F2.keep S2 hrv R2 hnn ?_))
  intro h3 tk3 K3
  dsimp only at K3 ⊢
  refine not_of ?_
  walk_at "q"
  refine hQ h3 _ m (Mine.Fr.behind F2 (M := []) (List.forall_mem_nil _) List.not_mem_nil K3)
def st0 (be : List (Int × Int)) : (Int → Int) × List Int × Nat := ((grAt be 8).np, (grAt be 8).keys.filter (fun k => decide ((grAt be 8).np k = 0)), 0)
def rk (be : List (Int × Int)) (k : Int) : Nat := (be.getD k.toNat (0, 0)).2.toNat
/-- what the walk asks of plain Lean -/
structure PlainLaw (be : List (Int × Int)) : Prop where
  inK : ∀ k ∈ (grAt be 8).keys, ∀ j ∈ (grAt be 8).succ k, j ∈ (grAt be 8).keys
  rank : ∀ k ∈ (grAt be 8).keys, ∀ j ∈ (grAt be 8).succ k, rk be k < rk be j
  ok : ∀ t, t < 9 → TurnOk (grAt be 8).keys (grAt be 8).succ (turns (grAt be 8).succ (st0 be) t)
  fin : (turns (grAt be 8).succ (st0 be) 9).2.1 = []
  ch1 : ((turns (grAt be 8).succ (st0 be) 9).2.2 : Int) ∈ chAt (apAt be 8) 8
  ch2 : ∀ a ∈ chAt (apAt be 8) 8, a ≤ ((turns (grAt be 8).succ (st0 be) 9).2.2 : Int)
  cr1 : ∀ bs : List (Int × Int), bs.Perm be → bs.Pairwise (fun x y => keyOf x ≤ keyOf y) → ((roomsAt bs 8).length : Int) ∈ crAt (apAt be 8) 8
  cr2 : ∀ bs : List (Int × Int), bs.Perm be → bs.Pairwise (fun x y => keyOf x ≤ keyOf y) → ∀ a ∈ crAt (apAt be 8) 8, a ≤ ((roomsAt bs 8).length : Int)

theorem law_all {w : World} {s : Shared} {mg mb : Str → Option Value} {g : Heap} {L fa : Addr} {cd : Value} {m : Str → Option Value} {scr : Addr} {vs : List Value} {ns : List Int} {Q : Flow → Shared → Prop}
    (Gg : Gnd w mg mb g) (F : Fr g L s.heap m) (hscr : m (Str.ofString "script") = some (.ref scr)) (hl : g.IsList scr vs.toArray) (hi : IntsAre vs ns) (hlen : ns.length ≤ 63)
    (hcs : ∃ o v, s.heap.get? (L + 1) = some o ∧ o.data = .cell v) (hcj : ∃ o, s.heap.get? (L + 2) = some o ∧ o.data = .cell none)
    (PL : ∀ be : List (Int × Int), be.length = 8 → (∀ p ∈ be, 0 ≤ p.1 ∧ p.1 < p.2 ∧ p.2 < 64) → PlainLaw be)
    (hgood : ∀ (bs : List (Int × Int)) (i : Nat), (roomsAt bs i).length ≤ i ∧ ∀ a ∈ roomsAt bs i, (roomsAt bs i).getD 0 0 ≤ a)
    (hQ : ∀ h' tk m', Fr g L h' m' → Q (.ret (.bool true)) { s with heap := h', toks := tk }) :
    wpAny (model prg w) (callerA.deeper (envL L fa cd)) (execs lawBody (envL L fa cd)) Q (fun _ _ => False) s := by
  have X' := Gg.X
  have T' := Gg.T
  obtain ⟨oc, vc, hoc, hdc⟩ := hcs
  obtain ⟨oj, hoj, hdj⟩ := hcj
  have lj0 : @LT.lt Nat _ (L + 2) s.heap.objs.size := Heap.lt_size hoj
  show wpAny _ _ (execs [lawStmt 0, lawStmt 1, lawStmt 2, lawStmt 3, lawStmt 4, lawStmt 5, lawStmt 6, lawStmt 7, lawStmt 8, lawStmt 9, lawStmt 10, lawStmt 11, lawStmt 12, lawStmt 13] _) _ _ _
  -- stays = []
  refine wpAny_execs_cons ?_
  refine wpAny_Assign_Name ?_
  refine List_ ?_
  refine args_nil ?_
  refine newListR F ?_
  intro h1 F1 K1 l1
  have lLs : @LT.lt Nat _ L s.heap.objs.size := F.ns.lt
  refine stC F1 cell_stays (K1 _ _ List.not_mem_nil hoc) hdc (Nat.lt_succ_self L) ?_
  intro h2 o2 F2 K2 c2 d2
  dsimp only at K2 ⊢
  have j2 := K2 _ _ (not1 (neN (by show @Ne Nat (L + 2) (L + 1); lia))) (K1 _ _ List.not_mem_nil hoj)
  have l2 := K2 _ _ (not1 (neN (by show @Ne Nat s.heap.objs.size (L + 1); lia))) l1
  generalize eT : s.heap.objs.size = T at *
  have st2 : Stays h2 L T [] [] := ⟨⟨o2, c2, d2⟩, ⟨0, l2⟩, rfl, (fun i a p e => nomatch e), (fun p hp => absurd hp List.not_mem_nil), lj0, (List.forall_mem_nil _), (List.forall_mem_nil _)⟩
  clear F F1 K1 K2 l1 hoc hoj lj0 c2 d2 l2 eT
  -- the stays
  refine wpAny_execs_cons ?_
  refine ph1 (nn := 0) Gg F2 hscr hl hi hlen st2 ⟨oj, j2, hdj⟩ ?_
  intro h3 tk3 m3 ts be F3 hbe st3 cj3
  dsimp only
  have pl := PL be hbe st3.ok
  obtain ⟨oj3, j3, hdj3⟩ := cj3
  clear F2 st2 j2 hscr
  -- the sorter
  refine wpAny_execs_cons ?_
  refine ph2 Gg F3 ?_
  intro h4 tk4 q F4 K4 S4 hrv hnpo hnfi hkeys hsucc hnp hf4
  dsimp only at K4 hf4 ⊢
  have nLn : ∀ {a : Addr}, @LT.lt Nat _ L a → a ∉ [L] := fun h => not1 (Nat.ne_of_gt h)
  have lL1 : @LT.lt Nat _ L (L + 1) := Nat.lt_succ_self L
  have lL2 : @LT.lt Nat _ L (L + 1 + 1) := Nat.lt_succ_of_lt (Nat.lt_succ_self L)
  have st4 := st3.kept K4 (nLn lL1) (nLn (by have := st3.gT; lia)) (fun a ha => nLn (by have := st3.gt a ha; lia))
  have j4 := K4 _ _ (nLn lL2) j3
  have lT3 : @LT.lt Nat _ T h3.objs.size := by obtain ⟨n, e⟩ := st3.lst; exact Heap.lt_size e
  have lts3 : ∀ a ∈ ts, @LT.lt Nat _ a h3.objs.size := by
    intro a ha
    obtain ⟨i, hi⟩ := List.getElem?_of_mem ha
    have hlt : i < be.length := by rw [← st3.len]; exact (List.getElem?_eq_some_iff.mp hi).1
    obtain ⟨_, _, e⟩ := st3.tup i a _ hi (List.getElem?_eq_getElem hlt)
    exact Heap.lt_size e
  have lj3 : @LT.lt Nat _ (L + 1 + 1) h3.objs.size := Heap.lt_size j3
  have l34 : @LT.lt Nat _ h3.objs.size h4.objs.size := Nat.lt_of_le_of_lt (hf4 _ q.fS) (S4.lt q.fS)
  clear F3 st3 j3 K4
  -- apart
  refine wpAny_execs_cons ?_
  refine ph2b Gg F4 ?_
  intro h5 tk5 AP va na F5 K5 A5 hia hA5
  dsimp only at K5 hA5 ⊢
  have st5 := st4.kept K5 (nLn lL1) (nLn (by have := st4.gT; lia)) (fun a ha => nLn (by have := st4.gt a ha; lia))
  have j5 := K5 _ _ (nLn lL2) j4
  have hgt4 : ∀ a ∈ q.foot, @LT.lt Nat _ L a := fun a ha => by have := hf4 a ha; lia
  have S5 := S4.kept K5 (offs1 (fun hf => absurd (hgt4 _ hf) (Nat.lt_irrefl _)))
  have lf4 : ∀ a ∈ q.foot, @LT.lt Nat _ a h4.objs.size := fun a ha => S4.lt ha
  have hAL5 : @LT.lt Nat _ (L + 2) AP := by lia
  clear F4 st4 j4 S4 K5
  -- the graph
  refine wpAny_execs_cons ?_
  refine ph4 Gg F5 rfl rfl st5 hbe ⟨oj3, _, j5, hdj3⟩ S5 hrv (show q.gr = grAt be 0 from ?gr) A5 hia hAL5 ?att hgt4 ?pr ?_
  case gr =>
    show (⟨q.keys, q.np, q.succ⟩ : Gr) = ⟨[], fun _ => 0, fun _ => []⟩
    rw [hkeys, show q.np = fun _ => 0 from funext hnp, show q.succ = fun _ => [] from funext hsucc]
  case att =>
    intro c
    rcases List.mem_cons.mp c with c | c
    · have c : @Eq Nat AP T := c
      lia
    · have := lts3 _ c
      lia
  case pr =>
    intro a ha c
    have h1 := hf4 a ha
    have h2 := lf4 a ha
    simp only [Prot, List.mem_cons] at c
    rcases c with c | c | c | c | c | c
    · have c : @Eq Nat a L := c
      lia
    · have c : @Eq Nat a (L + 1) := c
      lia
    · have c : @Eq Nat a (L + 1 + 1) := c
      lia
    · have c : @Eq Nat a T := c
      lia
    · have c : @Eq Nat a AP := c
      lia
    · have := lts3 _ c
      lia
  intro h6 tk6 m6 q6 va6 na6 F6 es6 ea6 st6 S6 sq6 eg6 A6 hia6 hgt6 hpr6
  dsimp only
  clear F5 st5 S5 A5 hia j5 lf4
  -- prepare
  have ek := So.gr_keys eg6
  have esu := So.gr_succ eg6
  have enp := So.gr_np eg6
  have klen := grAt_len be 8
  have slen := grAt_sl be 8
  refine wpAny_execs_cons ?_
  refine ph5 (q := q6) (r := rk be) Gg F6 es6 S6 (sq6.rv.trans hrv) hgt6 (by rw [ek]; lia) (fun k _ => by rw [esu]; have := slen k; lia) (by rw [ek, esu]; exact pl.inK) (by rw [ek, esu]; exact pl.rank) ?_
  intro h7 tk7 R vr nr F7 K7 S7 R7 hir hRn
  dsimp only at K7 hRn ⊢
  have pn : ∀ {a : Addr}, a ∈ Prot L T AP ts → a ≠ L → a ∉ [q6.dS, L] := fun {a} ha hL => not2 (fun c => hpr6 _ q6.fdS (c ▸ ha)) hL
  have mA : AP ∈ Prot L T AP ts := .tail _ (.tail _ (.tail _ (.tail _ (.head _))))
  have mT : T ∈ Prot L T AP ts := .tail _ (.tail _ (.tail _ (.head _)))
  have m1 : L + 1 ∈ Prot L T AP ts := .tail _ (.head _)
  have mts : ∀ a ∈ ts, a ∈ Prot L T AP ts := fun a ha => .tail _ (.tail _ (.tail _ (.tail _ (.tail _ ha))))
  have x2 : @LT.lt Nat _ L (L + 2) := Nat.lt_succ_of_lt (Nat.lt_succ_self L)
  have nA : AP ≠ L := Nat.ne_of_gt (Nat.lt_trans x2 hAL5)
  have nT : T ≠ L := Nat.ne_of_gt (Nat.lt_trans x2 st6.gT)
  have n1 : L + 1 ≠ L := Nat.ne_of_gt (Nat.lt_succ_self L)
  have nts : ∀ a ∈ ts, a ≠ L := fun a ha => Nat.ne_of_gt (Nat.lt_trans x2 (st6.gt a ha))
  have A7 := K7 _ _ (pn mA nA) A6
  have st7 := st6.kept K7 (pn m1 n1) (pn mT nT) (fun a ha => pn (mts a ha) (nts a ha))
  have nR : ∀ {a : Addr} {o : Obj}, h6.get? a = some o → R ≠ a := fun {a o} e c => by rw [← c, hRn] at e; cases e
  have hRf : R ∉ q6.foot := fun c => by obtain ⟨o, e⟩ := S6.there c; exact nR e rfl
  have hRA : R ≠ AP := nR A6
  have hRL : R ≠ L := by obtain ⟨o, _, _, e, _⟩ := F6.ns; exact nR e
  have hRg : g.get? R = none := by
    cases e : g.get? R with
    | none => rfl
    | some o => exact absurd rfl (nR (F6.keep _ _ e))
  have hgtR : ∀ a ∈ R :: q6.foot, a ≠ L ∧ g.get? a = none := fun a ha => by
    rcases List.mem_cons.mp ha with c | ha
    · rw [c]; exact ⟨hRL, hRg⟩
    · exact ⟨Nat.ne_of_gt (hgt6 a ha), Mine.Fr.high F6 (Nat.le_of_lt (hgt6 a ha))⟩
  have hRT : R ≠ T := by obtain ⟨n, e⟩ := st6.lst; exact nR e
  have hR1 : R ≠ L + 1 := by obtain ⟨o, e, _⟩ := st6.cell; exact nR e
  have hRts : ∀ a ∈ ts, R ≠ a := by
    intro a ha
    obtain ⟨i, hi⟩ := List.getElem?_of_mem ha
    have hlt : i < be.length := by rw [← st6.len]; exact (List.getElem?_eq_some_iff.mp hi).1
    obtain ⟨_, _, e⟩ := st6.tup i a _ hi (List.getElem?_eq_getElem hlt)
    exact nR e
  clear F6 K7 S6 A6 st6 nR hRn
  -- rounds = 0
  refine wpAny_execs_cons ?_
  refine ph6 F7 ?_
  intro h8 tk8 t8 F8 K8
  dsimp only at K8 ⊢
  have A8 := K8 _ _ (not1 nA) A7
  have st8 := st7.kept K8 (not1 n1) (not1 nT) (fun a ha => not1 (nts a ha))
  have S8 := S7.kept K8 (offs1 (fun hf => absurd (hgt6 _ hf) (Nat.lt_irrefl _)))
  have R8 := K8 _ _ (not1 hRL) R7
  clear F7 A7 st7 S7 R7 K8
  -- the rounds
  refine wpAny_execs_cons ?_
  rw [ek, enp] at hir
  refine ph7 (q := { q6 with rv := .ref R }) (st := st0 be) Gg F8 es6 rfl S8 enp (by show q6.npo = q6.nfi; rw [sq6.npo, sq6.nfi, hnpo, hnfi]) rfl R8 hir hRf hgtR (by show ∀ t, t < 9 → TurnOk q6.keys q6.succ (turns q6.succ (st0 be) t); rw [ek, esu]; exact pl.ok) (by show ∀ k ∈ q6.keys, ∀ x ∈ q6.succ k, x ∈ q6.keys; rw [ek, esu]; exact pl.inK) (fun k => by show (q6.succ k).length ≤ 100; rw [esu]; have := slen k; lia) ?_
  intro h9 tk9 m9 w9 n9 N9 t9 F9 eo9 er9 S9 R9 hi9 K9
  dsimp only at er9 S9 hi9 K9 ⊢
  rw [esu] at er9 hi9
  rw [pl.fin] at hi9
  have pn9 : ∀ {a : Addr}, a ∈ Prot L T AP ts → a ≠ L → R ≠ a → a ∉ L :: R :: q6.foot := fun {a} ha hL hR c => by
    rcases List.mem_cons.mp c with c | c
    · exact hL c
    · rcases List.mem_cons.mp c with c | c
      · exact hR c.symm
      · exact hpr6 _ c ha
  have A9 := K9 _ _ (pn9 mA nA hRA) A8
  have st9 := st8.kept K9 (pn9 m1 n1 hR1) (pn9 mT nT hRT) (fun a ha => pn9 (mts a ha) (nts a ha) (hRts a ha))
  have es9 : m9 (Str.ofString "sorter") = some (.ref q6.S) := (eo9 _ (by decide) (by decide) (by decide)).trans es6
  have ea9 : m9 (Str.ofString "apart") = some (.ref AP) := (eo9 _ (by decide) (by decide) (by decide)).trans ea6
  clear F8 A8 st8 S8 R8 K9
  -- heap = []
  refine wpAny_execs_cons ?_
  refine ph8 F9 ?_
  intro h10 tk10 H n10 F10 K10 H10 hHn hLH
  dsimp only at K10 hHn ⊢
  have nH : ∀ {a : Addr} {o : Obj}, h9.get? a = some o → H ≠ a := fun {a o} e c => by rw [← c, hHn] at e; cases e
  have hHA : H ≠ AP := nH A9
  have hHR : H ≠ R := nH R9
  have hHf : H ∉ q6.foot := fun c => by obtain ⟨o, e⟩ := S9.there c; exact nH e rfl
  have hHts : H ∉ ts := by
    intro ha
    obtain ⟨i, hi⟩ := List.getElem?_of_mem ha
    have hlt : i < be.length := by rw [← st9.len]; exact (List.getElem?_eq_some_iff.mp hi).1
    obtain ⟨_, _, e⟩ := st9.tup i _ _ hi (List.getElem?_eq_getElem hlt)
    exact nH e rfl
  have A10 := K10 _ _ (not1 nA) A9
  have st10 := st9.kept K10 (not1 n1) (not1 nT) (fun a ha => not1 (nts a ha))
  have S10 := S9.kept K10 (offs1 (fun hf => absurd (hgt6 _ hf) (Nat.lt_irrefl _)))
  have R10 := K10 _ _ (not1 hRL) R9
  clear F9 A9 st9 S9 R9 K10 nH hHn
  -- the rooms
  refine wpAny_execs_cons ?_
  refine ph9 Gg F10 st10 hbe rfl H10 hLH hHts hgood ?_
  intro h11 tk11 m11 vh nh bs hperm hpw F11 eo11 K11 H11 hih
  dsimp only at K11 ⊢
  have A11 := K11 _ _ (not2 nA (Ne.symm hHA)) A10
  have S11 := S10.kept K11 (fun a ha hf => by
    rcases mem2 ha with c | c
    · exact absurd (hgt6 a hf) (by rw [c]; exact Nat.lt_irrefl _)
    · exact hHf (c ▸ hf))
  have R11 := K11 _ _ (not2 hRL (Ne.symm hHR)) R10
  have eh11 : m11 (Str.ofString "heap") = some (.ref H) := eo11 _ (by decide) (by decide) (by decide)
  have es11 : m11 (Str.ofString "sorter") = some (.ref q6.S) := (eo11 _ (by decide) (by decide) (by decide)).trans es9
  have ea11 : m11 (Str.ofString "apart") = some (.ref AP) := (eo11 _ (by decide) (by decide) (by decide)).trans ea9
  have er11 : m11 (Str.ofString "rounds") = some (.int ((turns (grAt be 8).succ (st0 be) 9).2.2 : Int) t9) := (eo11 _ (by decide) (by decide) (by decide)).trans er9
  clear F10 A10 st10 S10 R10 K11 H10 eo11
  -- chains = [0]
  refine wpAny_execs_cons ?_
  refine ph10 F11 ?_
  intro h12 tk12 C vc12 nc12 F12 K12 C12 ic12 hCn hLC
  dsimp only at K12 hCn ⊢
  have nC : ∀ {a : Addr} {o : Obj}, h11.get? a = some o → C ≠ a := fun {a o} e c => by rw [← c, hCn] at e; cases e
  have hCA : C ≠ AP := nC A11
  have hCR : C ≠ R := nC R11
  have hCH : C ≠ H := nC H11
  have hCf : C ∉ q6.foot := fun c => by obtain ⟨o, e⟩ := S11.there c; exact nC e rfl
  have nHL : H ≠ L := Nat.ne_of_gt hLH
  have A12 := K12 _ _ (not1 nA) A11
  have S12 := S11.kept K12 (offs1 (fun hf => absurd (hgt6 _ hf) (Nat.lt_irrefl _)))
  have R12 := K12 _ _ (not1 hRL) R11
  have H12 := K12 _ _ (not1 nHL) H11
  clear F11 A11 S11 R11 K12 H11 nC hCn
  -- crowds = [0]
  refine wpAny_execs_cons ?_
  refine ph11 F12 ?_
  intro h13 tk13 D vd13 nd13 F13 K13 D13 id13 hDn hLD
  dsimp only at K13 hDn ⊢
  have nD : ∀ {a : Addr} {o : Obj}, h12.get? a = some o → D ≠ a := fun {a o} e c => by rw [← c, hDn] at e; cases e
  have hDA : D ≠ AP := nD A12
  have hDR : D ≠ R := nD R12
  have hDH : D ≠ H := nD H12
  have hDC : D ≠ C := nD C12
  have hDf : D ∉ q6.foot := fun c => by obtain ⟨o, e⟩ := S12.there c; exact nD e rfl
  have nCL : C ≠ L := Nat.ne_of_gt hLC
  have nDL : D ≠ L := Nat.ne_of_gt hLD
  have A13 := K13 _ _ (not1 nA) A12
  have S13 := S12.kept K13 (offs1 (fun hf => absurd (hgt6 _ hf) (Nat.lt_irrefl _)))
  have R13 := K13 _ _ (not1 hRL) R12
  have H13 := K13 _ _ (not1 nHL) H12
  have C13 := K13 _ _ (not1 nCL) C12
  clear F12 A12 S12 R12 K13 H12 C12 nD hDn
  -- the sets
  refine wpAny_execs_cons ?_
  refine ph12 Gg F13 rfl rfl (show _ = some (Value.ref AP) from ea11) C13 ic12 D13 id13 A13 hia6 (apAt_len be 8) hLC hLD (Ne.symm hDC) nA (Ne.symm hCA) (Ne.symm hDA) ?_
  intro h14 tk14 m14 vc14 nc14 vd14 nd14 F14 eo14 K14 C14 ic14 D14 id14
  dsimp only at K14 ⊢
  have S14 := S13.kept K14 (fun a ha hf => by
    simp only [List.mem_cons, List.not_mem_nil, or_false] at ha
    rcases ha with c | c | c
    · exact absurd (hgt6 a hf) (by rw [c]; exact Nat.lt_irrefl _)
    · exact hCf (c ▸ hf)
    · exact hDf (c ▸ hf))
  have R14 := K14 _ _ (not3 hRL (Ne.symm hCR) (Ne.symm hDR)) R13
  have H14 := K14 _ _ (not3 nHL (Ne.symm hCH) (Ne.symm hDH)) H13
  -- the last line
  cases hi9
  refine wpAny_execs_cons ?_
  refine ph13 (q := { q6 with rv := .ref R, np := (turns q6.succ (st0 be) 9).1, npo := N9, nfi := N9 }) (cs := chAt (apAt be 8) 8) (ds := crAt (apAt be 8) 8) (hs := roomsAt bs 8) Gg F14 (eo14 _ (by decide) (by decide) (by decide)) (eo14 _ (by decide) (by decide) (by decide)) ((eo14 _ (by decide) (by decide) (by decide)).trans eh11) ((eo14 _ (by decide) (by decide) (by decide)).trans er11) ((eo14 _ (by decide) (by decide) (by decide)).trans es11)
    C14 ic14 D14 id14 H14 hih (by have := (hgood bs 8).1; lia) S14 rfl R14 rfl hgtR nCL nDL nHL pl.ch1 pl.ch2 (pl.cr1 bs hperm hpw) (pl.cr2 bs hperm hpw) ?_
  intro h15 tk15 m15 F15
  exact hQ h15 tk15 m15 F15
/-! heaps, in plain Lean -/
theorem getD_set {xs : List Int} {i k : Nat} {v : Int} (h : i < xs.length) : (xs.set i v).getD k 0 = if k = i then v else xs.getD k 0 := by
  rw [List.getD_eq_getElem?_getD, List.getD_eq_getElem?_getD, List.getElem?_set]
  by_cases e : i = k
  · subst e
    rw [if_pos rfl, if_pos h, if_pos rfl]
    rfl
  · rw [if_neg e, if_neg (fun c => e c.symm)]
def one (b : Bool) : Nat := if b = true then 1 else 0
theorem countP_put (p : Int → Bool) : ∀ {xs : List Int} {i : Nat} {v : Int}, i < xs.length → (xs.set i v).countP p + one (p (xs.getD i 0)) = xs.countP p + one (p v)
  | [], _, _, h => absurd h (Nat.not_lt_zero _)
  | a :: xs, 0, v, _ => by
    show (v :: xs).countP p + one (p a) = (a :: xs).countP p + one (p v)
    rw [List.countP_cons, List.countP_cons]
    unfold one
    lia
  | a :: xs, i + 1, v, h => by
    have ih := countP_put p (xs := xs) (i := i) (v := v) (by simpa using h)
    show (a :: xs.set i v).countP p + one (p (xs.getD i 0)) = (a :: xs).countP p + one (p v)
    rw [List.countP_cons, List.countP_cons]
    lia

def Hp (xs : List Int) : Prop := ∀ k, 0 < k → k < xs.length → xs.getD ((k - 1) / 2) 0 ≤ xs.getD k 0
theorem Hp.least {xs : List Int} (h : Hp xs) : ∀ n k, k ≤ n → k < xs.length → xs.getD 0 0 ≤ xs.getD k 0
  | 0, k, hk, _ => by
    have : k = 0 := Nat.le_zero.mp hk
    subst this
    exact Int.le_refl _
  | n + 1, k, hk, hl => by
    by_cases e : k = 0
    · subst e; exact Int.le_refl _
    · have k0 : 0 < k := Nat.pos_of_ne_zero e
      exact Int.le_trans (Hp.least h n ((k - 1) / 2) (Nat.le_of_lt_succ (Nat.lt_of_lt_of_le (half_lt k0) hk)) (Nat.lt_trans (half_lt k0) hl)) (h k k0 hl)
theorem Hp.min {xs : List Int} (h : Hp xs) : ∀ a ∈ xs, xs.getD 0 0 ≤ a := by
  intro a ha
  obtain ⟨k, e⟩ := List.getElem?_of_mem ha
  have hl : k < xs.length := (List.getElem?_eq_some_iff.mp e).1
  have := h.least k k (Nat.le_refl _) hl
  rw [List.getD_eq_getElem?_getD (i := k), e] at this
  exact this

structure PreU (xs : List Int) (pos : Nat) : Prop where
  rest : ∀ k, 0 < k → k < xs.length → k ≠ pos → (k - 1) / 2 ≠ pos → xs.getD ((k - 1) / 2) 0 ≤ xs.getD k 0
  grand : 0 < pos → ∀ k, 0 < k → k < xs.length → (k - 1) / 2 = pos → xs.getD ((pos - 1) / 2) 0 ≤ xs.getD k 0

theorem sd_len (it : Int) : ∀ (f : Nat) (xs : List Int) (pos : Nat), (sd it f xs pos).length = xs.length
  | 0, xs, pos => List.length_set ..
  | f + 1, xs, pos => by
    unfold sd
    split
    · rw [sd_len it f, List.length_set]
    · exact List.length_set ..
theorem cnt_swap (p : Int → Bool) {it : Int} {xs : List Int} {pos c : Nat} (h : pos < xs.length) (hc : c ≠ pos) (cl : c < xs.length) : ((xs.set pos (xs.getD c 0)).set c it).countP p = (xs.set pos it).countP p := by
  have e1 := countP_put p (xs := xs.set pos (xs.getD c 0)) (i := c) (v := it) (by rw [List.length_set]; exact cl)
  rw [getD_set h, if_neg hc] at e1
  have e2 := countP_put p (xs := xs) (i := pos) (v := xs.getD c 0) h
  have e3 := countP_put p (xs := xs) (i := pos) (v := it) h
  lia
theorem sd_cnt (p : Int → Bool) (it : Int) : ∀ (f : Nat) (xs : List Int) (pos : Nat), pos < xs.length → (sd it f xs pos).countP p = (xs.set pos it).countP p
  | 0, xs, pos, _ => rfl
  | f + 1, xs, pos, h => by
    unfold sd
    split
    · rename_i hc
      have hl := half_lt hc.1
      rw [sd_cnt p it f _ _ (by rw [List.length_set]; exact Nat.lt_trans hl h), cnt_swap p h (Nat.ne_of_lt hl) (Nat.lt_trans hl h)]
    · rfl
theorem sd_hp (it : Int) : ∀ (f : Nat) (xs : List Int) (pos : Nat), pos ≤ f → pos < xs.length → PreU xs pos → (∀ k, 0 < k → k < xs.length → (k - 1) / 2 = pos → it ≤ xs.getD k 0) → Hp (sd it f xs pos) := by
  have fin : ∀ (xs : List Int) (pos : Nat), pos < xs.length → PreU xs pos → (∀ k, 0 < k → k < xs.length → (k - 1) / 2 = pos → it ≤ xs.getD k 0) → (0 < pos → xs.getD ((pos - 1) / 2) 0 ≤ it) → Hp (xs.set pos it) := by
    intro xs pos h P hc hp k h0 hk
    rw [List.length_set] at hk
    rw [getD_set h, getD_set h]
    by_cases e1 : k = pos
    · subst e1
      rw [if_neg (Nat.ne_of_lt (half_lt h0)), if_pos rfl]
      exact hp h0
    · rw [if_neg e1]
      by_cases e2 : (k - 1) / 2 = pos
      · rw [if_pos e2]; exact hc k h0 hk e2
      · rw [if_neg e2]; exact P.rest k h0 hk e1 e2
  intro f
  induction f with
  | zero =>
    intro xs pos hf h P hc
    exact fin xs pos h P hc (fun c => by lia)
  | succ f ih =>
    intro xs pos hf h P hc
    unfold sd
    split
    · rename_i c
      have hpos : 0 < pos := c.1
      have hlt : it < xs.getD ((pos - 1) / 2) 0 := c.2
      have hh := half_lt hpos
      have hpp : (pos - 1) / 2 < xs.length := Nat.lt_trans hh h
      refine ih _ _ (Nat.le_of_lt_succ (Nat.lt_of_lt_of_le hh hf)) (by rw [List.length_set]; exact hpp) ⟨?_, ?_⟩ ?_
      · intro k h0 hk e1 e2
        rw [List.length_set] at hk
        rw [getD_set h, getD_set h]
        by_cases e3 : k = pos
        · subst e3; exact absurd rfl e2
        · rw [if_neg e3]
          by_cases e4 : (k - 1) / 2 = pos
          · rw [if_pos e4]; exact P.grand hpos k h0 hk e4
          · rw [if_neg e4]; exact P.rest k h0 hk e3 e4
      · intro h1 k h0 hk e1
        rw [List.length_set] at hk
        have h3 := Nat.ne_of_lt (Nat.lt_trans (half_lt h1) hh)
        rw [getD_set h, getD_set h, if_neg h3]
        have g : xs.getD (((pos - 1) / 2 - 1) / 2) 0 ≤ xs.getD ((pos - 1) / 2) 0 := P.rest _ h1 hpp (Nat.ne_of_lt hh) h3
        by_cases e3 : k = pos
        · rw [if_pos e3]; exact g
        · rw [if_neg e3]
          have := P.rest k h0 hk e3 (by rw [e1]; exact Nat.ne_of_lt hh)
          rw [e1] at this
          exact Int.le_trans g this
      · intro k h0 hk e1
        rw [List.length_set] at hk
        rw [getD_set h]
        by_cases e3 : k = pos
        · rw [if_pos e3]; exact Int.le_of_lt hlt
        · rw [if_neg e3]
          have := P.rest k h0 hk e3 (by rw [e1]; exact Nat.ne_of_lt hh)
          rw [e1] at this
          exact Int.le_trans (Int.le_of_lt hlt) this
    · rename_i c
      exact fin xs pos h P hc (fun c0 => Int.not_lt.mp fun c1 => c ⟨c0, c1⟩)

theorem ch1 (pos : Nat) : (2 * pos + 1 - 1) / 2 = pos := Nat.mul_div_cancel_left pos Nat.two_pos
theorem ch2 (pos : Nat) : (2 * pos + 2 - 1) / 2 = pos := by
  show (2 * pos + 1) / 2 = pos
  rw [Nat.mul_add_div Nat.two_pos]
  rfl
theorem chs {k pos : Nat} (h0 : 0 < k) (e : (k - 1) / 2 = pos) : k = 2 * pos + 1 ∨ k = 2 * pos + 2 := by lia
theorem su_spec : ∀ (f : Nat) (xs : List Int) (pos : Nat), xs.length ≤ f + pos → pos < xs.length → PreU xs pos → PreU (su f xs pos).1 (su f xs pos).2 ∧ xs.length ≤ 2 * (su f xs pos).2 + 1
  | 0, xs, pos, hf, h, P => absurd h (by rw [Nat.zero_add] at hf; exact Nat.not_lt.mpr hf)
  | f + 1, xs, pos, hf, h, P => by
    have step : ∀ c, (c - 1) / 2 = pos → 0 < c → c < xs.length → (∀ k, 0 < k → k < xs.length → (k - 1) / 2 = pos → xs.getD c 0 ≤ xs.getD k 0) → PreU (xs.set pos (xs.getD c 0)) c := by
      intro c hc c0 cl hm
      refine ⟨?_, ?_⟩
      · intro k h0 hk e1 e2
        rw [List.length_set] at hk
        rw [getD_set h, getD_set h]
        by_cases e3 : k = pos
        · subst e3
          rw [if_neg (Nat.ne_of_lt (half_lt h0)), if_pos rfl]
          exact P.grand h0 c c0 cl hc
        · rw [if_neg e3]
          by_cases e4 : (k - 1) / 2 = pos
          · rw [if_pos e4]; exact hm k h0 hk e4
          · rw [if_neg e4]; exact P.rest k h0 hk e3 e4
      · intro _ k h0 hk e1
        rw [List.length_set] at hk
        have g1 : pos < c := hc ▸ half_lt c0
        have g2 : c < k := e1 ▸ half_lt h0
        have g3 := Nat.ne_of_gt (Nat.lt_trans g1 g2)
        rw [getD_set h, getD_set h, if_pos hc, if_neg g3]
        have := P.rest k h0 hk g3 (by rw [e1]; exact Nat.ne_of_gt g1)
        rw [e1] at this
        exact this
    unfold su
    split
    · rename_i h1
      split
      · rename_i h2
        have r := su_spec f (xs.set pos (xs.getD (2 * pos + 2) 0)) (2 * pos + 2) (by rw [List.length_set]; lia) (by rw [List.length_set]; exact h2.1) (step (2 * pos + 2) (ch2 pos) (Nat.succ_pos _) h2.1 (by
          intro k h0 hk e
          rcases chs h0 e with rfl | rfl
          · exact Int.not_lt.mp h2.2
          · exact Int.le_refl _))
        rw [List.length_set] at r
        exact r
      · rename_i h2
        have r := su_spec f (xs.set pos (xs.getD (2 * pos + 1) 0)) (2 * pos + 1) (by rw [List.length_set]; lia) (by rw [List.length_set]; exact h1) (step (2 * pos + 1) (ch1 pos) (Nat.succ_pos _) h1 (by
          intro k h0 hk e
          rcases chs h0 e with rfl | rfl
          · exact Int.le_refl _
          · by_cases c : xs.getD (2 * pos + 1) 0 < xs.getD (2 * pos + 2) 0
            · exact Int.le_of_lt c
            · exact absurd ⟨hk, c⟩ h2))
        rw [List.length_set] at r
        exact r
    · rename_i h1
      exact ⟨P, Nat.not_lt.mp h1⟩
theorem su_cnt (p : Int → Bool) (it : Int) : ∀ (f : Nat) (xs : List Int) (pos : Nat), pos < xs.length → ((su f xs pos).1.set (su f xs pos).2 it).countP p = (xs.set pos it).countP p
  | 0, xs, pos, _ => rfl
  | f + 1, xs, pos, h => by
    unfold su
    split
    · rename_i h1
      split
      · rename_i h2
        rw [su_cnt p it f _ _ (by rw [List.length_set]; exact h2.1), cnt_swap p h (Nat.ne_of_gt (lt22 pos)) h2.1]
      · rw [su_cnt p it f _ _ (by rw [List.length_set]; exact h1), cnt_swap p h (Nat.ne_of_gt (lt21 pos)) h1]
    · rfl
theorem sup_len {xs : List Int} (h : 0 < xs.length) : (sup xs).length = xs.length := by
  unfold sup
  dsimp only
  rw [sd_len, List.length_set, (su_len _ _ _ h).1]
theorem sup_cnt (p : Int → Bool) {xs : List Int} (h : 0 < xs.length) : (sup xs).countP p = xs.countP p := by
  unfold sup
  dsimp only
  have hl := su_len xs.length xs 0 h
  rw [sd_cnt p _ _ _ _ (by rw [List.length_set, hl.1]; exact hl.2), List.set_set, su_cnt p _ _ _ _ h]
  have e := countP_put p (xs := xs) (i := 0) (v := xs.getD 0 0) h
  lia
theorem sup_hp {xs : List Int} (h : 0 < xs.length) (P : PreU xs 0) : Hp (sup xs) := by
  unfold sup
  dsimp only
  have hl := su_len xs.length xs 0 h
  obtain ⟨P', hleaf⟩ := su_spec xs.length xs 0 (Nat.le_refl _) h P
  have hs : (su xs.length xs 0).2 < (su xs.length xs 0).1.length := by rw [hl.1]; exact hl.2
  refine sd_hp _ _ _ _ (Nat.le_refl _) (by rw [List.length_set]; exact hs) ⟨?_, ?_⟩ ?_
  · intro k h0 hk e1 e2
    rw [List.length_set] at hk
    rw [getD_set hs, getD_set hs, if_neg e1, if_neg e2]
    exact P'.rest k h0 hk e1 e2
  · intro _ k h0 hk e1
    rw [List.length_set, hl.1] at hk
    lia
  · intro k h0 hk e1
    rw [List.length_set, hl.1] at hk
    lia

theorem room_len (H : List Int) (p : Int × Int) : (roomStep H p).length = if H ≠ [] ∧ H.getD 0 0 ≤ p.1 then H.length else H.length + 1 := by
  unfold roomStep
  split
  · rename_i c
    have : 0 < H.length := List.length_pos_iff.mpr c.1
    rw [sup_len (by rw [List.length_set]; exact this), List.length_set]
  · rw [sd_len, List.length_append]; rfl
theorem room_cnt (q : Int → Bool) (H : List Int) (p : Int × Int) : (roomStep H p).countP q + (if H ≠ [] ∧ H.getD 0 0 ≤ p.1 then one (q (H.getD 0 0)) else 0) = H.countP q + one (q p.2) := by
  unfold roomStep
  split
  · rename_i c
    have : 0 < H.length := List.length_pos_iff.mpr c.1
    rw [sup_cnt q (by rw [List.length_set]; exact this)]
    exact countP_put q this
  · have hl : H.length < (H ++ [p.2]).length := by rw [List.length_append]; simp
    rw [sd_cnt q _ _ _ _ hl, List.set_append_right _ _ (Nat.le_refl _), Nat.sub_self, List.set_cons_zero, List.countP_append, List.countP_cons, List.countP_nil]
    unfold one
    lia
theorem room_hp {H : List Int} (h : Hp H) (p : Int × Int) : Hp (roomStep H p) := by
  unfold roomStep
  split
  · rename_i c
    have h0 : 0 < H.length := List.length_pos_iff.mpr c.1
    refine sup_hp (by rw [List.length_set]; exact h0) ⟨?_, fun c => absurd c (Nat.lt_irrefl _)⟩
    intro k hk0 hk e1 e2
    rw [List.length_set] at hk
    rw [getD_set h0, getD_set h0, if_neg e1, if_neg e2]
    exact h k hk0 hk
  · have hl : (H ++ [p.2]).length = H.length + 1 := by rw [List.length_append]; rfl
    have ga : ∀ k, k < H.length → (H ++ [p.2]).getD k 0 = H.getD k 0 := fun k hk => by rw [List.getD_eq_getElem?_getD, List.getD_eq_getElem?_getD, List.getElem?_append_left hk]
    have no : ∀ k, 0 < k → k < (H ++ [p.2]).length → (k - 1) / 2 ≠ H.length := fun k hk0 hk e1 => absurd (half_lt hk0) (by rw [e1]; rw [hl] at hk; exact Nat.not_lt.mpr (Nat.le_of_lt_succ hk))
    refine sd_hp _ _ _ _ (Nat.le_refl _) (by rw [hl]; exact Nat.lt_succ_self _) ⟨?_, ?_⟩ ?_
    · intro k hk0 hk e1 e2
      rw [hl] at hk
      have kl := Nat.lt_of_le_of_ne (Nat.le_of_lt_succ hk) e1
      rw [ga _ (Nat.lt_trans (half_lt hk0) kl), ga _ kl]
      exact h k hk0 kl
    · intro _ k hk0 hk e1
      exact absurd e1 (no k hk0 hk)
    · intro k hk0 hk e1
      exact absurd e1 (no k hk0 hk)
theorem rooms_hp : ∀ (l : List (Int × Int)) (H : List Int), Hp H → Hp (l.foldl roomStep H) ∧ (l.foldl roomStep H).length ≤ H.length + l.length
  | [], H, h => ⟨h, Nat.le_refl _⟩
  | p :: l, H, h => by
    have r := rooms_hp l (roomStep H p) (room_hp h p)
    have e := room_len H p
    rw [List.foldl_cons, List.length_cons]
    refine ⟨r.1, ?_⟩
    split at e <;> lia
theorem hp_nil : Hp [] := fun k _ hk => absurd hk (Nat.not_lt_zero _)
theorem rooms_good (bs : List (Int × Int)) (i : Nat) : (roomsAt bs i).length ≤ i ∧ ∀ a ∈ roomsAt bs i, (roomsAt bs i).getD 0 0 ≤ a := by
  have r := rooms_hp (bs.take i) [] hp_nil
  refine ⟨?_, r.1.min⟩
  have := r.2
  rw [List.length_take] at this
  unfold roomsAt
  simp at this
  lia
/-! rooms, in plain Lean -/
theorem one_le (b : Bool) : one b ≤ 1 := by unfold one; split <;> lia
theorem one_true {b : Bool} (h : b = true) : one b = 1 := if_pos h
theorem one_false {b : Bool} (h : b = false) : one b = 0 := by rw [h]; rfl
theorem countP_app1 {α : Type} (q : α → Bool) (P : List α) (c : α) : (P ++ [c]).countP q = P.countP q + one (q c) := by
  rw [List.countP_append, List.countP_cons, List.countP_nil]
  unfold one
  rw [Nat.zero_add]
def ovr (x : Int) (p : Int × Int) : Bool := decide (x < p.2)
def inn (x : Int) (p : Int × Int) : Bool := decide (p.1 ≤ x ∧ x < p.2)
def gtx (x y : Int) : Bool := decide (x < y)
structure Rm (P : List (Int × Int)) (H : List Int) : Prop where
  hp : Hp H
  i1 : ∀ x, H.countP (gtx x) ≤ P.countP (ovr x)
  i2 : ∀ x, (∀ p ∈ P, p.1 ≤ x) → P.countP (ovr x) ≤ H.countP (gtx x)
  a : ∀ x, P.countP (inn x) ≤ H.length
  b : H = [] ∨ ∃ x, H.length ≤ P.countP (inn x)
theorem Rm.step {P : List (Int × Int)} {H : List Int} (r : Rm P H) {c : Int × Int} (hc : c.1 < c.2) (hs : ∀ p ∈ P, p.1 ≤ c.1) : Rm (P ++ [c]) (roomStep H c) := by
  have i2' : ∀ x, (∀ p ∈ P ++ [c], p.1 ≤ x) → (P ++ [c]).countP (ovr x) ≤ (roomStep H c).countP (gtx x) := by
    intro x hx
    have e := room_cnt (gtx x) H c
    have h2 := r.i2 x (fun p hp => hx p (List.mem_append_left _ hp))
    have hcx : c.1 ≤ x := hx c (List.mem_append_right _ (.head _))
    rw [countP_app1]
    have : one (ovr x c) = one (gtx x c.2) := rfl
    split at e
    · rename_i cc
      have z : one (gtx x (H.getD 0 0)) = 0 := one_false (by unfold gtx; exact decide_eq_false (Int.not_lt.mpr (Int.le_trans cc.2 hcx)))
      lia
    · lia
  refine ⟨room_hp r.hp c, ?_, i2', ?_, ?_⟩
  · intro x
    have e := room_cnt (gtx x) H c
    have h1 := r.i1 x
    rw [countP_app1]
    have : one (ovr x c) = one (gtx x c.2) := rfl
    lia
  · intro x
    by_cases hx : x < c.1
    · rw [countP_app1, one_false (show inn x c = false from decide_eq_false (fun q => absurd (Int.lt_of_lt_of_le hx q.1) (Int.lt_irrefl _)))]
      have e := room_len H c
      have h1 := r.a x
      split at e <;> lia
    · have all : ∀ p ∈ P ++ [c], p.1 ≤ x := by
        intro p hp
        rcases List.mem_append.mp hp with hp | hp
        · exact Int.le_trans (hs p hp) (Int.not_lt.mp hx)
        · rw [List.mem_singleton.mp hp]; exact Int.not_lt.mp hx
      have h1 : (P ++ [c]).countP (inn x) ≤ (P ++ [c]).countP (ovr x) := List.countP_mono_left fun p _ h => by
        unfold inn at h; unfold ovr
        exact decide_eq_true (of_decide_eq_true h).2
      have h2 := i2' x all
      have h3 : (roomStep H c).countP (gtx x) ≤ (roomStep H c).length := List.countP_le_length
      exact Nat.le_trans h1 (Nat.le_trans h2 h3)
  · by_cases cc : H ≠ [] ∧ H.getD 0 0 ≤ c.1
    · rcases r.b with h | ⟨x, h⟩
      · exact absurd h cc.1
      · refine .inr ⟨x, ?_⟩
        rw [room_len, if_pos cc, countP_app1]
        exact Nat.le_trans h (Nat.le_add_right _ _)
    · refine .inr ⟨c.1, ?_⟩
      rw [room_len, if_neg cc, countP_app1, one_true (show inn c.1 c = true from decide_eq_true ⟨Int.le_refl _, hc⟩)]
      have h1 : H.countP (gtx c.1) = H.length := List.countP_eq_length.mpr fun a ha => by
        have hm := r.hp.min a ha
        have hne : H ≠ [] := fun e => by rw [e] at ha; cases ha
        unfold gtx
        exact decide_eq_true (Int.lt_of_lt_of_le (Int.not_le.mp fun q => cc ⟨hne, q⟩) hm)
      have h2 := r.i1 c.1
      have h3 : P.countP (ovr c.1) ≤ P.countP (inn c.1) := List.countP_mono_left fun p hp h => by
        unfold ovr at h; unfold inn
        exact decide_eq_true ⟨hs p hp, of_decide_eq_true h⟩
      exact Nat.succ_le_succ (by rw [← h1]; exact Nat.le_trans h2 h3)
theorem Rm.run : ∀ (l P : List (Int × Int)) (H : List Int), Rm P H → (∀ c ∈ l, c.1 < c.2) → (∀ c ∈ l, ∀ p ∈ P, p.1 ≤ c.1) → l.Pairwise (fun x y => x.1 ≤ y.1) → Rm (P ++ l) (l.foldl roomStep H)
  | [], P, H, r, _, _, _ => by rw [List.append_nil]; exact r
  | c :: l, P, H, r, hc, hs, hp => by
    have hp' := List.pairwise_cons.mp hp
    have := Rm.run l (P ++ [c]) (roomStep H c) (r.step (hc c (.head _)) (hs c (.head _))) (fun d hd => hc d (.tail _ hd)) (fun d hd p hq => by
      rcases List.mem_append.mp hq with hq | hq
      · exact hs d (.tail _ hd) p hq
      · rw [List.mem_singleton.mp hq]; exact hp'.1 d hd) hp'.2
    rw [List.append_assoc] at this
    exact this
theorem rooms_law {be bs : List (Int × Int)} (hbe : be.length = 8) (ok : ∀ p ∈ be, 0 ≤ p.1 ∧ p.1 < p.2 ∧ p.2 < 64) (hperm : bs.Perm be) (hpw : bs.Pairwise (fun x y => keyOf x ≤ keyOf y)) :
    (∀ x, be.countP (inn x) ≤ (roomsAt bs 8).length) ∧ ((roomsAt bs 8).length = 0 ∨ ∃ x, (roomsAt bs 8).length ≤ be.countP (inn x)) := by
  have okb : ∀ p ∈ bs, 0 ≤ p.1 ∧ p.1 < p.2 ∧ p.2 < 64 := fun p hp => ok p (hperm.mem_iff.mp hp)
  have hl : bs.length = 8 := hperm.length_eq.trans hbe
  have r := Rm.run bs [] [] ⟨hp_nil, fun _ => Nat.le_refl _, fun _ _ => Nat.le_refl _, fun _ => Nat.le_refl _, .inl rfl⟩ (fun c hc => (okb c hc).2.1) (fun _ _ p hp => absurd hp List.not_mem_nil)
    (hpw.imp_of_mem fun {x y} hx hy h => by
      have h1 := okb x hx
      have h2 := okb y hy
      unfold keyOf at h
      lia)
  rw [List.nil_append] at r
  have e : roomsAt bs 8 = bs.foldl roomStep [] := by unfold roomsAt; rw [List.take_of_length_le (by lia)]
  rw [e]
  refine ⟨fun x => by rw [← hperm.countP_eq]; exact r.a x, ?_⟩
  rcases r.b with h | ⟨x, h⟩
  · exact .inl (by rw [h]; rfl)
  · exact .inr ⟨x, by rw [← hperm.countP_eq]; exact h⟩
/-! sets as numbers, in plain Lean -/
def gStep (ok : Nat → Bool) (cs : List Int) (r : Nat) : List Int := cs ++ [if 0 ≤ cs.getD r 0 ∧ ok r = true then cs.getD r 0 + 1 else -1]
def gAt (ok : Nat → Nat → Bool) (t : Nat) : List Int := (List.range t).foldl (fun cs top => (List.range (2 ^ top)).foldl (gStep (ok top)) cs) [0]
theorem gAt_succ (ok : Nat → Nat → Bool) (t : Nat) : gAt ok (t + 1) = (List.range (2 ^ t)).foldl (gStep (ok t)) (gAt ok t) := by unfold gAt; rw [List.range_succ, List.foldl_append]; rfl
theorem gStep_fold (ok : Nat → Bool) (cs : List Int) : ∀ n, n ≤ cs.length → (List.range n).foldl (gStep ok) cs = cs ++ (List.range n).map (fun r => if 0 ≤ cs.getD r 0 ∧ ok r = true then cs.getD r 0 + 1 else -1)
  | 0, _ => by simp
  | n + 1, h => by
    rw [List.range_succ, List.foldl_append, gStep_fold ok cs n (by lia), List.map_append, ← List.append_assoc]
    show gStep ok _ n = _
    unfold gStep
    have e : ∀ l : List Int, (cs ++ l).getD n 0 = cs.getD n 0 := fun l => by rw [List.getD_eq_getElem?_getD, List.getD_eq_getElem?_getD, List.getElem?_append_left (by lia)]
    rw [e]
    rfl
theorem gAt_len (ok : Nat → Nat → Bool) : ∀ t, (gAt ok t).length = 2 ^ t
  | 0 => rfl
  | t + 1 => by
    rw [gAt_succ, gStep_fold _ _ _ (by rw [gAt_len ok t]; exact Nat.le_refl _), List.length_append, gAt_len ok t, List.length_map, List.length_range, Nat.pow_succ]
    lia
def goodS (rel : Nat → Nat → Prop) (t r : Nat) : Prop := ∀ i, i < t → ∀ j, j < i → r.testBit i = true → r.testBit j = true → rel i j
def cardS (t r : Nat) : Nat := (List.range t).countP fun i => r.testBit i
theorem cardS_succ (t r : Nat) : cardS (t + 1) r = cardS t r + one (r.testBit t) := by unfold cardS; rw [List.range_succ, countP_app1]
theorem cardS_congr {t r r' : Nat} (h : ∀ i, i < t → r.testBit i = r'.testBit i) : cardS t r = cardS t r' := List.countP_congr fun i hi => by rw [h i (List.mem_range.mp hi)]
open Classical in
theorem gAt_spec {ok : Nat → Nat → Bool} {rel : Nat → Nat → Prop} (n : Nat) (hok : ∀ t, t < n → ∀ r, r < 2 ^ t → (ok t r = true ↔ ∀ j, j < t → r.testBit j = true → rel t j)) :
    ∀ t, t ≤ n → ∀ r, r < 2 ^ t → (gAt ok t).getD r 0 = if goodS rel t r then (cardS t r : Int) else -1
  | 0, _, r, hr => by
    have : r = 0 := by simpa using hr
    subst this
    rw [if_pos (show goodS rel 0 0 from fun i hi => absurd hi (Nat.not_lt_zero _))]
    rfl
  | t + 1, ht, r, hr => by
    have ih := gAt_spec n hok t (Nat.le_of_succ_le ht)
    have hl := gAt_len ok t
    rw [gAt_succ, gStep_fold _ _ _ (by rw [hl]; exact Nat.le_refl _)]
    by_cases h : r < 2 ^ t
    · have hb : r.testBit t = false := Nat.testBit_lt_two_pow h
      rw [List.getD_eq_getElem?_getD, List.getElem?_append_left (by rw [hl]; exact h), ← List.getD_eq_getElem?_getD, ih r h, cardS_succ, hb]
      have e : goodS rel (t + 1) r ↔ goodS rel t r := by
        constructor
        · intro g i hi j hj a b
          exact g i (Nat.lt_succ_of_lt hi) j hj a b
        · intro g i hi j hj a b
          by_cases e : i = t
          · rw [e, hb] at a; cases a
          · exact g i (Nat.lt_of_le_of_ne (Nat.le_of_lt_succ hi) e) j hj a b
      simp only [e]
      rfl
    · have hr' : r - 2 ^ t < 2 ^ t := Nat.sub_lt_left_of_lt_add (Nat.not_lt.mp h) (by rw [Nat.pow_succ, Nat.mul_two] at hr; exact hr)
      have er : r = 2 ^ t + (r - 2 ^ t) := (Nat.add_sub_cancel' (Nat.not_lt.mp h)).symm
      generalize r - 2 ^ t = r' at hr' er
      subst er
      have hbt : (2 ^ t + r').testBit t = true := by rw [Nat.testBit_two_pow_add_eq, Nat.testBit_lt_two_pow hr']; rfl
      have hbj : ∀ j, j < t → (2 ^ t + r').testBit j = r'.testBit j := fun j hj => Nat.testBit_two_pow_add_gt hj r'
      have e : goodS rel (t + 1) (2 ^ t + r') ↔ goodS rel t r' ∧ ok t r' = true := by
        rw [hok t ht r' hr']
        constructor
        · intro g
          refine ⟨fun i hi j hj a b => g i (Nat.lt_succ_of_lt hi) j hj (by rw [hbj i hi]; exact a) (by rw [hbj j (Nat.lt_trans hj hi)]; exact b), fun j hj b => g t (Nat.lt_succ_self t) j hj hbt (by rw [hbj j hj]; exact b)⟩
        · rintro ⟨g1, g2⟩ i hi j hj a b
          by_cases e : i = t
          · subst e
            exact g2 j hj (by rw [← hbj j hj]; exact b)
          · have hi' := Nat.lt_of_le_of_ne (Nat.le_of_lt_succ hi) e
            exact g1 i hi' j hj (by rw [← hbj i hi']; exact a) (by rw [← hbj j (Nat.lt_trans hj hi')]; exact b)
      rw [List.getD_eq_getElem?_getD, List.getElem?_append_right (by rw [hl]; exact Nat.le_add_right _ _), hl, Nat.add_sub_cancel_left, List.getElem?_map, List.getElem?_range hr']
      show (if 0 ≤ (gAt ok t).getD r' 0 ∧ ok t r' = true then (gAt ok t).getD r' 0 + 1 else -1) = _
      rw [ih r' hr', cardS_succ, hbt, cardS_congr hbj]
      by_cases g1 : goodS rel t r'
      · rw [if_pos g1]
        by_cases g2 : ok t r' = true
        · rw [if_pos ⟨Int.natCast_nonneg _, g2⟩, if_pos (e.mpr ⟨g1, g2⟩)]
          rfl
        · rw [if_neg (fun c => g2 c.2), if_neg (fun c => g2 (e.mp c).2)]
      · rw [if_neg g1, if_neg (fun c => absurd c.1 (by decide)), if_neg (fun c => g1 (e.mp c).1)]

/-- Σ f k · 2^k -/
def sumN : Nat → (Nat → Nat) → Nat
  | 0, _ => 0
  | n + 1, f => sumN n f + f n * 2 ^ n
theorem sumN_congr : ∀ {n : Nat} {f g : Nat → Nat}, (∀ k, k < n → f k = g k) → sumN n f = sumN n g
  | 0, _, _, _ => rfl
  | n + 1, f, g, h => by
    show sumN n f + f n * 2 ^ n = sumN n g + g n * 2 ^ n
    rw [sumN_congr (fun k hk => h k (Nat.lt_succ_of_lt hk)), h n (Nat.lt_succ_self n)]
theorem sumN_put {j : Nat} : ∀ {n : Nat} {f : Nat → Nat}, j < n → sumN n (fun k => f k + if k = j then 1 else 0) = sumN n f + 2 ^ j
  | 0, _, h => absurd h (Nat.not_lt_zero _)
  | n + 1, f, h => by
    show sumN n _ + (f n + if n = j then 1 else 0) * 2 ^ n = sumN n f + f n * 2 ^ n + 2 ^ j
    by_cases e : n = j
    · subst e
      rw [if_pos rfl, sumN_congr (g := f) (fun k hk => by rw [if_neg (Nat.ne_of_lt hk)]; rfl), Nat.add_mul, Nat.one_mul]
      lia
    · rw [if_neg e, sumN_put (Nat.lt_of_le_of_ne (Nat.le_of_lt_succ h) (Ne.symm e)), Nat.add_zero]
      lia
def enc (n : Nat) (p : Nat → Bool) : Nat := sumN n fun k => one (p k)
theorem enc_lt (p : Nat → Bool) : ∀ n, enc n p < 2 ^ n
  | 0 => Nat.one_pos
  | n + 1 => by
    have ih := enc_lt p n
    show enc n p + one (p n) * 2 ^ n < 2 ^ (n + 1)
    have h1 := one_le (p n)
    rw [Nat.pow_succ]
    have : one (p n) * 2 ^ n ≤ 1 * 2 ^ n := Nat.mul_le_mul_right _ h1
    lia
theorem enc_bit (p : Nat → Bool) : ∀ n j, j < n → (enc n p).testBit j = p j
  | 0, j, h => absurd h (Nat.not_lt_zero _)
  | n + 1, j, h => by
    show (enc n p + one (p n) * 2 ^ n).testBit j = p j
    have hl := enc_lt p n
    cases hp : p n with
    | false =>
      rw [show one false = 0 from rfl, Nat.zero_mul, Nat.add_zero]
      by_cases e : j = n
      · subst e; rw [Nat.testBit_lt_two_pow hl, hp]
      · exact enc_bit p n j (Nat.lt_of_le_of_ne (Nat.le_of_lt_succ h) e)
    | true =>
      rw [show one true = 1 from rfl, Nat.one_mul, Nat.add_comm]
      by_cases e : j = n
      · subst e; rw [Nat.testBit_two_pow_add_eq, Nat.testBit_lt_two_pow hl, hp]; rfl
      · have hj := Nat.lt_of_le_of_ne (Nat.le_of_lt_succ h) e
        rw [Nat.testBit_two_pow_add_gt hj]; exact enc_bit p n j hj
theorem enc_card (p : Nat → Bool) (n : Nat) : cardS n (enc n p) = (List.range n).countP p := List.countP_congr fun i hi => by rw [enc_bit p n i (List.mem_range.mp hi)]

theorem and_sub (A r t : Nat) (hr : r < 2 ^ t) : A &&& r = r ↔ ∀ j, j < t → r.testBit j = true → A.testBit j = true := by
  constructor
  · intro h j _ b
    rw [← h, Nat.testBit_and, Bool.and_eq_true] at b
    exact b.1
  · intro h
    apply Nat.eq_of_testBit_eq
    intro j
    rw [Nat.testBit_and]
    cases b : r.testBit j with
    | false => rw [Bool.and_false]
    | true =>
      have hj : j < t := by
        rcases Nat.lt_or_ge j t with hj | hj
        · exact hj
        · rw [Nat.testBit_lt_two_pow (Nat.lt_of_lt_of_le hr (Nat.pow_le_pow_right (by decide) hj))] at b; cases b
      rw [h j hj b]; rfl
theorem and_zero (A r t : Nat) (hr : r < 2 ^ t) : A &&& r = 0 ↔ ∀ j, j < t → r.testBit j = true → A.testBit j = false := by
  constructor
  · intro h j _ b
    have : (A &&& r).testBit j = false := by rw [h]; exact Nat.zero_testBit j
    rw [Nat.testBit_and, b, Bool.and_true] at this
    exact this
  · intro h
    apply Nat.eq_of_testBit_eq
    intro j
    rw [Nat.testBit_and, Nat.zero_testBit]
    cases b : r.testBit j with
    | false => rw [Bool.and_false]
    | true =>
      have hj : j < t := by
        rcases Nat.lt_or_ge j t with hj | hj
        · exact hj
        · rw [Nat.testBit_lt_two_pow (Nat.lt_of_lt_of_le hr (Nat.pow_le_pow_right (by decide) hj))] at b; cases b
      rw [h j hj b]; rfl
theorem bitAnd_nat (a b : Nat) : Builtin.bitAnd (a : Int) (b : Int) = ((a &&& b : Nat) : Int) := by
  unfold Builtin.bitAnd
  simp

/-- the sets' numbers, at their ends -/
theorem gAt_mem {ok : Nat → Nat → Bool} {rel : Nat → Nat → Prop} (hok : ∀ t, t < 8 → ∀ r, r < 2 ^ t → (ok t r = true ↔ ∀ j, j < t → r.testBit j = true → rel t j)) {a : Int} (ha : a ∈ gAt ok 8) :
    a = -1 ∨ ∃ p : Nat → Bool, (∀ i, i < 8 → ∀ j, j < i → p i = true → p j = true → rel i j) ∧ a = ((List.range 8).countP p : Int) := by
  obtain ⟨r, e⟩ := List.getElem?_of_mem ha
  have hr : r < 2 ^ 8 := by rw [← gAt_len ok 8]; exact (List.getElem?_eq_some_iff.mp e).1
  have h := gAt_spec 8 hok 8 (Nat.le_refl _) r hr
  rw [List.getD_eq_getElem?_getD, e] at h
  by_cases g : goodS rel 8 r
  · rw [if_pos g] at h
    exact .inr ⟨fun i => r.testBit i, g, h⟩
  · rw [if_neg g] at h
    exact .inl h
theorem gAt_has {ok : Nat → Nat → Bool} {rel : Nat → Nat → Prop} (hok : ∀ t, t < 8 → ∀ r, r < 2 ^ t → (ok t r = true ↔ ∀ j, j < t → r.testBit j = true → rel t j)) (p : Nat → Bool) (hp : ∀ i, i < 8 → ∀ j, j < i → p i = true → p j = true → rel i j) :
    ((List.range 8).countP p : Int) ∈ gAt ok 8 := by
  have hr := enc_lt p 8
  have h := gAt_spec 8 hok 8 (Nat.le_refl _) (enc 8 p) hr
  rw [if_pos (show goodS rel 8 (enc 8 p) from fun i hi j hj a b => hp i hi j hj (by rw [← enc_bit p 8 i hi]; exact a) (by rw [← enc_bit p 8 j (by lia)]; exact b)), enc_card] at h
  rw [← h]
  have hl : enc 8 p < (gAt ok 8).length := by rw [gAt_len]; exact hr
  rw [List.getD_eq_getElem?_getD, List.getElem?_eq_getElem hl]
  exact List.getElem_mem hl

theorem fold_congr {α β : Type} {f g : α → β → α} (h : ∀ a b, f a b = g a b) : ∀ (l : List β) (a : α), l.foldl f a = l.foldl g a
  | [], _ => rfl
  | b :: l, a => by rw [List.foldl_cons, List.foldl_cons, h, fold_congr h l]
theorem chAt_g (ap : List Int) : chAt ap 8 = gAt (fun t r => decide (Builtin.bitAnd (ap.getD t 0) (r : Int) = (r : Int))) 8 := by
  unfold chAt gAt
  refine fold_congr (fun cs t => fold_congr (fun cs r => ?_) _ _) _ _
  unfold chStep gStep
  congr 2
  by_cases c : 0 ≤ cs.getD r 0 ∧ Builtin.bitAnd (ap.getD t 0) (r : Int) = (r : Int)
  · rw [if_pos (decide_eq_true c), if_pos ⟨c.1, decide_eq_true c.2⟩]
  · rw [if_neg (fun x => c (of_decide_eq_true x)), if_neg (fun x => c ⟨x.1, of_decide_eq_true x.2⟩)]
theorem crAt_g (ap : List Int) : crAt ap 8 = gAt (fun t r => decide (Builtin.bitAnd (ap.getD t 0) (r : Int) = 0)) 8 := by
  unfold crAt gAt
  refine fold_congr (fun cs t => fold_congr (fun cs r => ?_) _ _) _ _
  unfold crStep gStep
  congr 2
  by_cases c : 0 ≤ cs.getD r 0 ∧ Builtin.bitAnd (ap.getD t 0) (r : Int) = 0
  · rw [if_pos (decide_eq_true c), if_pos ⟨c.1, decide_eq_true c.2⟩]
  · rw [if_neg (fun x => c (of_decide_eq_true x)), if_neg (fun x => c ⟨x.1, of_decide_eq_true x.2⟩)]
/-! who is apart from whom; the graph -/
abbrev OkBe (be : List (Int × Int)) : Prop := ∀ p ∈ be, 0 ≤ p.1 ∧ p.1 < p.2 ∧ p.2 < 64
theorem getD_mem8 {be : List (Int × Int)} (hbe : be.length = 8) {i : Nat} (hi : i < 8) : be.getD i (0, 0) ∈ be := by
  rw [List.getD_eq_getElem?_getD, List.getElem?_eq_getElem (by lia)]
  exact List.getElem_mem _
theorem mem_ovs {be : List (Int × Int)} {i j : Nat} : i ∈ ovs be j ↔ i < 8 ∧ (be.getD i (0, 0)).2 ≤ (be.getD j (0, 0)).1 := by
  unfold ovs
  rw [List.mem_filter, List.mem_range, decide_eq_true_eq]
theorem ovs_nodup (be : List (Int × Int)) (j : Nat) : (ovs be j).Nodup := List.nodup_range.filter _
theorem ovs_irrefl {be : List (Int × Int)} (hbe : be.length = 8) (ok : OkBe be) {j : Nat} : j ∉ ovs be j := fun h => by
  obtain ⟨h8, h⟩ := mem_ovs.mp h
  have := ok _ (getD_mem8 hbe h8)
  lia
theorem ovs_asymm {be : List (Int × Int)} (hbe : be.length = 8) (ok : OkBe be) {i j : Nat} (h : i ∈ ovs be j) : j ∉ ovs be i := fun h' => by
  obtain ⟨a8, a⟩ := mem_ovs.mp h
  obtain ⟨b8, b⟩ := mem_ovs.mp h'
  have h1 := ok _ (getD_mem8 hbe a8)
  have h2 := ok _ (getD_mem8 hbe b8)
  lia
theorem ovs_trans {be : List (Int × Int)} (hbe : be.length = 8) (ok : OkBe be) {i j k : Nat} (h : i ∈ ovs be j) (h' : j ∈ ovs be k) : i ∈ ovs be k := by
  obtain ⟨a8, a⟩ := mem_ovs.mp h
  obtain ⟨b8, b⟩ := mem_ovs.mp h'
  have h2 := ok _ (getD_mem8 hbe b8)
  exact mem_ovs.mpr ⟨a8, by lia⟩

open Classical in
noncomputable def ind (P : Prop) : Nat := if P then 1 else 0
theorem ind_pos {P : Prop} (h : P) : ind P = 1 := by unfold ind; exact if_pos h
theorem ind_neg {P : Prop} (h : ¬ P) : ind P = 0 := by unfold ind; exact if_neg h
theorem apStep_get {j i t : Nat} {ap : List Int} (hl : ap.length = 8) (hj : j < 8) (hi : i < 8) (hij : i ≠ j) : (apStep j ap i).getD t 0 = if t = j then ap.getD j 0 + ((2 ^ i : Nat) : Int) else if t = i then ap.getD i 0 + ((2 ^ j : Nat) : Int) else ap.getD t 0 := by
  unfold apStep
  dsimp only
  have hi' : i < ap.length := by rw [hl]; exact hi
  rw [getD_set (by rw [List.length_set, hl]; exact hj), getD_set hi', getD_set hi', if_neg (Ne.symm hij)]
theorem aps_sum {j : Nat} (hj : j < 8) : ∀ (l : List Nat) (ap : List Int) (c : Nat → Nat → Nat), l.Nodup → j ∉ l → (∀ i ∈ l, i < 8) → ap.length = 8 → (∀ t, t < 8 → ap.getD t 0 = ((sumN 8 (c t) : Nat) : Int)) →
    ∀ t, t < 8 → (l.foldl (apStep j) ap).getD t 0 = ((sumN 8 (fun k => c t k + ind (t ∈ l ∧ k = j) + ind (t = j ∧ k ∈ l)) : Nat) : Int)
  | [], ap, c, _, _, _, _, h, t, ht => by
    rw [List.foldl_nil, h t ht]
    congr 1
    refine sumN_congr fun k _ => ?_
    rw [ind_neg (fun x => absurd x.1 List.not_mem_nil), ind_neg (fun x => absurd x.2 List.not_mem_nil)]
    rfl
  | i :: l, ap, c, hn, hjl, hi8, hl, h, t, ht => by
    have hij : i ≠ j := fun e => hjl (e ▸ .head _)
    have hi : i < 8 := hi8 i (.head _)
    have hn' := List.nodup_cons.mp hn
    rw [List.foldl_cons]
    have step : ∀ t, t < 8 → (apStep j ap i).getD t 0 = ((sumN 8 (fun k => c t k + ind (t = i ∧ k = j) + ind (t = j ∧ k = i)) : Nat) : Int) := by
      intro t ht
      rw [apStep_get hl hj hi hij]
      by_cases e1 : t = j
      · subst e1
        rw [if_pos rfl, h t ht, ← Int.natCast_add, ← sumN_put (f := c t) hi]
        congr 1
        refine sumN_congr fun k _ => ?_
        rw [ind_neg (fun x => hij x.1.symm)]
        by_cases e2 : k = i
        · rw [if_pos e2, ind_pos ⟨rfl, e2⟩]
        · rw [if_neg e2, ind_neg (fun x => e2 x.2)]
      · rw [if_neg e1]
        by_cases e3 : t = i
        · subst e3
          rw [if_pos rfl, h t ht, ← Int.natCast_add, ← sumN_put (f := c t) hj]
          congr 1
          refine sumN_congr fun k _ => ?_
          rw [ind_neg (P := t = j ∧ k = t) (fun x => e1 x.1)]
          by_cases e2 : k = j
          · rw [if_pos e2, ind_pos ⟨rfl, e2⟩]
          · rw [if_neg e2, ind_neg (fun x => e2 x.2)]
        · rw [if_neg e3, h t ht]
          congr 1
          refine sumN_congr fun k _ => ?_
          rw [ind_neg (fun x => e3 x.1), ind_neg (fun x => e1 x.1)]
          rfl
    rw [aps_sum hj l (apStep j ap i) _ hn'.2 (fun x => hjl (.tail _ x)) (fun x hx => hi8 x (.tail _ hx)) (by rw [apStep_len, hl]) step t ht]
    congr 1
    refine sumN_congr fun k _ => ?_
    have e1 : ind (t = i ∧ k = j) + ind (t ∈ l ∧ k = j) = ind (t ∈ i :: l ∧ k = j) := by
      by_cases c1 : k = j
      · by_cases c2 : t = i
        · rw [ind_pos ⟨c2, c1⟩, ind_neg (fun x => hn'.1 (c2 ▸ x.1)), ind_pos ⟨c2 ▸ .head _, c1⟩]
        · by_cases c3 : t ∈ l
          · rw [ind_neg (fun x => c2 x.1), ind_pos ⟨c3, c1⟩, ind_pos ⟨.tail _ c3, c1⟩]
          · rw [ind_neg (fun x => c2 x.1), ind_neg (fun x => c3 x.1), ind_neg (fun x => (List.mem_cons.mp x.1).elim c2 c3)]
      · rw [ind_neg (fun x => c1 x.2), ind_neg (fun x => c1 x.2), ind_neg (fun x => c1 x.2)]
    have e2 : ind (t = j ∧ k = i) + ind (t = j ∧ k ∈ l) = ind (t = j ∧ k ∈ i :: l) := by
      by_cases c1 : t = j
      · by_cases c2 : k = i
        · rw [ind_pos ⟨c1, c2⟩, ind_neg (fun x => hn'.1 (c2 ▸ x.2)), ind_pos ⟨c1, c2 ▸ .head _⟩]
        · by_cases c3 : k ∈ l
          · rw [ind_neg (fun x => c2 x.2), ind_pos ⟨c1, c3⟩, ind_pos ⟨c1, .tail _ c3⟩]
          · rw [ind_neg (fun x => c2 x.2), ind_neg (fun x => c3 x.2), ind_neg (fun x => (List.mem_cons.mp x.2).elim c2 c3)]
      · rw [ind_neg (fun x => c1 x.1), ind_neg (fun x => c1 x.1), ind_neg (fun x => c1 x.1)]
    lia
theorem sumN_zero : ∀ n, sumN n (fun _ => 0) = 0
  | 0 => rfl
  | n + 1 => by show sumN n _ + 0 * 2 ^ n = 0; rw [sumN_zero n, Nat.zero_mul]
theorem apAt_sum {be : List (Int × Int)} (hbe : be.length = 8) (ok : OkBe be) : ∀ n, n ≤ 8 → ∀ t, t < 8 → (apAt be n).getD t 0 = ((sumN 8 (fun k => ind (k < n ∧ t ∈ ovs be k) + ind (t < n ∧ k ∈ ovs be t)) : Nat) : Int)
  | 0, _, t, ht => by
    have e : (apAt be 0).getD t 0 = 0 := by
      show (List.replicate 8 (0 : Int)).getD t 0 = 0
      rw [List.getD_eq_getElem?_getD, List.getElem?_replicate, if_pos ht]
      rfl
    rw [e, sumN_congr (g := fun _ => 0) (fun k _ => by rw [ind_neg (fun x => absurd x.1 (Nat.not_lt_zero _)), ind_neg (fun x => absurd x.1 (Nat.not_lt_zero _))]), sumN_zero]
    rfl
  | n + 1, hn, t, ht => by
    rw [apAt_succ, aps_sum hn (ovs be n) (apAt be n) _ (ovs_nodup be n) (ovs_irrefl hbe ok) (fun i hi => ovs_lt hi) (apAt_len be n) (apAt_sum hbe ok n (by lia)) t ht]
    congr 1
    refine sumN_congr fun k _ => ?_
    have e1 : ind (k < n ∧ t ∈ ovs be k) + ind (t ∈ ovs be n ∧ k = n) = ind (k < n + 1 ∧ t ∈ ovs be k) := by
      by_cases c1 : k = n
      · subst c1
        rw [ind_neg (fun x => Nat.lt_irrefl _ x.1)]
        by_cases c2 : t ∈ ovs be k
        · rw [ind_pos ⟨c2, rfl⟩, ind_pos ⟨Nat.lt_succ_self _, c2⟩]
        · rw [ind_neg (fun x => c2 x.1), ind_neg (fun x => c2 x.2)]
      · rw [ind_neg (P := t ∈ ovs be n ∧ k = n) (fun x => c1 x.2)]
        by_cases c2 : k < n ∧ t ∈ ovs be k
        · rw [ind_pos c2, ind_pos ⟨Nat.lt_succ_of_lt c2.1, c2.2⟩]
        · rw [ind_neg c2, ind_neg (fun x => c2 ⟨Nat.lt_of_le_of_ne (Nat.le_of_lt_succ x.1) c1, x.2⟩)]
    have e2 : ind (t < n ∧ k ∈ ovs be t) + ind (t = n ∧ k ∈ ovs be n) = ind (t < n + 1 ∧ k ∈ ovs be t) := by
      by_cases c1 : t = n
      · subst c1
        rw [ind_neg (fun x => Nat.lt_irrefl _ x.1)]
        by_cases c2 : k ∈ ovs be t
        · rw [ind_pos ⟨rfl, c2⟩, ind_pos ⟨Nat.lt_succ_self _, c2⟩]
        · rw [ind_neg (fun x => c2 x.2), ind_neg (fun x => c2 x.2)]
      · rw [ind_neg (P := t = n ∧ k ∈ ovs be n) (fun x => c1 x.1)]
        by_cases c2 : t < n ∧ k ∈ ovs be t
        · rw [ind_pos c2, ind_pos ⟨Nat.lt_succ_of_lt c2.1, c2.2⟩]
        · rw [ind_neg c2, ind_neg (fun x => c2 ⟨Nat.lt_of_le_of_ne (Nat.le_of_lt_succ x.1) c1, x.2⟩)]
    lia
def comp (be : List (Int × Int)) (t k : Nat) : Bool := decide (t ∈ ovs be k ∨ k ∈ ovs be t)
theorem apAt_enc {be : List (Int × Int)} (hbe : be.length = 8) (ok : OkBe be) {t : Nat} (ht : t < 8) : (apAt be 8).getD t 0 = ((enc 8 (comp be t) : Nat) : Int) := by
  rw [apAt_sum hbe ok 8 (Nat.le_refl _) t ht]
  congr 1
  refine sumN_congr fun k hk => ?_
  by_cases c1 : t ∈ ovs be k
  · rw [ind_pos ⟨hk, c1⟩, ind_neg (fun x => ovs_asymm hbe ok c1 x.2), one_true (b := comp be t k) (decide_eq_true (.inl c1))]
  · rw [ind_neg (fun x => c1 x.2)]
    by_cases c2 : k ∈ ovs be t
    · rw [ind_pos ⟨ht, c2⟩, one_true (b := comp be t k) (decide_eq_true (.inr c2))]
    · rw [ind_neg (fun x => c2 x.2), one_false (b := comp be t k) (decide_eq_false (fun x => x.elim c1 c2))]
theorem ch_ok {be : List (Int × Int)} (hbe : be.length = 8) (ok : OkBe be) : ∀ t, t < 8 → ∀ r : Nat, r < 2 ^ t → (decide (Builtin.bitAnd ((apAt be 8).getD t 0) (r : Int) = (r : Int)) = true ↔ ∀ j, j < t → r.testBit j = true → comp be t j = true) := by
  intro t ht r hr
  rw [decide_eq_true_eq, apAt_enc hbe ok ht, bitAnd_nat, Int.natCast_inj, and_sub _ _ t hr]
  constructor
  · intro h j hj b
    rw [← enc_bit (comp be t) 8 j (Nat.lt_trans hj ht)]; exact h j hj b
  · intro h j hj b
    rw [enc_bit (comp be t) 8 j (Nat.lt_trans hj ht)]; exact h j hj b
theorem cr_ok {be : List (Int × Int)} (hbe : be.length = 8) (ok : OkBe be) : ∀ t, t < 8 → ∀ r : Nat, r < 2 ^ t → (decide (Builtin.bitAnd ((apAt be 8).getD t 0) (r : Int) = 0) = true ↔ ∀ j, j < t → r.testBit j = true → comp be t j = false) := by
  intro t ht r hr
  rw [decide_eq_true_eq, apAt_enc hbe ok ht, bitAnd_nat, show (0 : Int) = ((0 : Nat) : Int) from rfl, Int.natCast_inj, and_zero _ _ t hr]
  constructor
  · intro h j hj b
    rw [← enc_bit (comp be t) 8 j (Nat.lt_trans hj ht)]; exact h j hj b
  · intro h j hj b
    rw [enc_bit (comp be t) 8 j (Nat.lt_trans hj ht)]; exact h j hj b

/-- rooms and crowds -/
theorem count_idx {be : List (Int × Int)} (hbe : be.length = 8) (q : Int × Int → Bool) : be.countP q = (List.range 8).countP (fun i => q (be.getD i (0, 0))) := by
  have e := map_getD_range (0, 0) be
  rw [hbe] at e
  conv => lhs; rw [← e]
  rw [List.countP_map]
  rfl
theorem argmax (f : Nat → Int) : ∀ (l : List Nat), l ≠ [] → ∃ a ∈ l, ∀ b ∈ l, f b ≤ f a
  | [], h => absurd rfl h
  | [a], _ => ⟨a, .head _, fun b hb => by rw [List.mem_singleton.mp hb]; exact Int.le_refl _⟩
  | a :: c :: l, _ => by
    obtain ⟨m, hm, h⟩ := argmax f (c :: l) (by simp)
    by_cases e : f m ≤ f a
    · refine ⟨a, .head _, fun b hb => ?_⟩
      rcases List.mem_cons.mp hb with rfl | hb
      · exact Int.le_refl _
      · exact Int.le_trans (h b hb) e
    · refine ⟨m, .tail _ hm, fun b hb => ?_⟩
      rcases List.mem_cons.mp hb with rfl | hb
      · lia
      · exact h b hb
theorem crowds_law {be bs : List (Int × Int)} (hbe : be.length = 8) (ok : OkBe be) (hperm : bs.Perm be) (hpw : bs.Pairwise (fun x y => keyOf x ≤ keyOf y)) :
    ((roomsAt bs 8).length : Int) ∈ crAt (apAt be 8) 8 ∧ ∀ a ∈ crAt (apAt be 8) 8, a ≤ ((roomsAt bs 8).length : Int) := by
  obtain ⟨r1, r2⟩ := rooms_law hbe ok hperm hpw
  have up : ∀ a ∈ crAt (apAt be 8) 8, a ≤ ((roomsAt bs 8).length : Int) := by
    intro a ha
    rw [crAt_g] at ha
    rcases gAt_mem (rel := fun t j => comp be t j = false) (cr_ok hbe ok) ha with e | ⟨p, hp, e⟩
    · lia
    · rw [e]
      by_cases hne : (List.range 8).filter p = []
      · rw [List.countP_eq_length_filter, hne]
        simp
      · obtain ⟨i, hi, hmax⟩ := argmax (fun i => (be.getD i (0, 0)).1) _ hne
        have hi' := List.mem_filter.mp hi
        have hi8 := List.mem_range.mp hi'.1
        have := r1 (be.getD i (0, 0)).1
        rw [count_idx hbe] at this
        have h2 : (List.range 8).countP p ≤ (List.range 8).countP (fun k => inn (be.getD i (0, 0)).1 (be.getD k (0, 0))) := List.countP_mono_left fun k hk hpk => by
          have hk8 := List.mem_range.mp hk
          unfold inn
          refine decide_eq_true ⟨hmax k (List.mem_filter.mpr ⟨hk, hpk⟩), ?_⟩
          rcases Nat.lt_trichotomy k i with h | h | h
          · have c := of_decide_eq_false (hp i hi8 k h hi'.2 hpk)
            exact Int.not_le.mp fun q => c (.inr (mem_ovs.mpr ⟨hk8, q⟩))
          · rw [h]; exact (ok _ (getD_mem8 hbe hi8)).2.1
          · have c := of_decide_eq_false (hp k hk8 i h hpk hi'.2)
            exact Int.not_le.mp fun q => c (.inl (mem_ovs.mpr ⟨hk8, q⟩))
        lia
  refine ⟨?_, up⟩
  have has : ∀ x, (be.countP (inn x) : Int) ∈ crAt (apAt be 8) 8 := by
    intro x
    rw [crAt_g, count_idx hbe]
    refine gAt_has (rel := fun t j => comp be t j = false) (cr_ok hbe ok) _ ?_
    intro i _ j _ hi hj
    have h1 := of_decide_eq_true hi
    have h2 := of_decide_eq_true hj
    refine decide_eq_false fun c => ?_
    rcases c with c | c
    · have := (mem_ovs.mp c).2; lia
    · have := (mem_ovs.mp c).2; lia
  rcases r2 with h | ⟨x, h⟩
  · have := has (-1)
    have e : be.countP (inn (-1)) ≤ (roomsAt bs 8).length := r1 (-1)
    rw [show be.countP (inn (-1)) = (roomsAt bs 8).length by lia] at this
    exact this
  · have e := r1 x
    have := has x
    rw [show be.countP (inn x) = (roomsAt bs 8).length by lia] at this
    exact this
/-! the sorter's graph, in plain Lean -/
structure GrW (G : Gr) : Prop where
  nd : G.keys.Nodup
  np0 : ∀ k, k ∉ G.keys → G.np k = 0
  su0 : ∀ k, k ∉ G.keys → G.succ k = []
theorem Gr.touch_keys (G : Gr) (k x : Int) : x ∈ (G.touch k).keys ↔ x ∈ G.keys ∨ x = k := by
  unfold Gr.touch
  split
  · rename_i h
    exact ⟨.inl, fun h' => h'.elim id (fun e => e ▸ h)⟩
  · show x ∈ G.keys ++ [k] ↔ _
    rw [List.mem_append, List.mem_singleton]
theorem GrW.tnp {G : Gr} (h : GrW G) (k : Int) : (G.touch k).np = G.np := by
  unfold Gr.touch
  split
  · rfl
  · rename_i hk
    funext j
    show (if j = k then 0 else G.np j) = G.np j
    by_cases e : j = k
    · rw [if_pos e, e, h.np0 k hk]
    · rw [if_neg e]
theorem GrW.tsu {G : Gr} (h : GrW G) (k : Int) : (G.touch k).succ = G.succ := by
  unfold Gr.touch
  split
  · rfl
  · rename_i hk
    funext j
    show (if j = k then [] else G.succ j) = G.succ j
    by_cases e : j = k
    · rw [if_pos e, e, h.su0 k hk]
    · rw [if_neg e]
theorem GrW.touch {G : Gr} (h : GrW G) (k : Int) : GrW (G.touch k) := by
  refine ⟨?_, fun x hx => ?_, fun x hx => ?_⟩
  · unfold Gr.touch
    split
    · exact h.nd
    · rename_i hk
      show (G.keys ++ [k]).Nodup
      rw [List.nodup_append]
      exact ⟨h.nd, by simp, fun a ha b hb e => hk (by rw [← List.mem_singleton.mp hb, ← e]; exact ha)⟩
  · rw [h.tnp]; exact h.np0 x fun c => hx ((G.touch_keys k x).mpr (.inl c))
  · rw [h.tsu]; exact h.su0 x fun c => hx ((G.touch_keys k x).mpr (.inl c))
theorem GrW.lsu {G : Gr} (h : GrW G) (j p x : Int) : (Gr.link j G p).succ x = if x = p then G.succ x ++ [j] else G.succ x := by
  show (if x = p then (G.touch p).succ p ++ [j] else (G.touch p).succ x) = _
  rw [h.tsu]
  by_cases e : x = p
  · rw [if_pos e, if_pos e, e]
  · rw [if_neg e, if_neg e]
theorem GrW.link {G : Gr} (h : GrW G) (j p : Int) : GrW (Gr.link j G p) := by
  refine ⟨(h.touch p).nd, (h.touch p).np0, fun x hx => ?_⟩
  have hx' : x ∉ (G.touch p).keys := hx
  rw [G.touch_keys] at hx'
  rw [h.lsu, if_neg (fun c => hx' (.inr c))]
  exact h.su0 x fun c => hx' (.inl c)
theorem GrW.links (j : Int) : ∀ (ps : List Int) {G : Gr}, GrW G → ps.Nodup → GrW (ps.foldl (Gr.link j) G) ∧ (ps.foldl (Gr.link j) G).np = G.np ∧ (∀ x, x ∈ (ps.foldl (Gr.link j) G).keys ↔ x ∈ G.keys ∨ x ∈ ps) ∧ ∀ x, (ps.foldl (Gr.link j) G).succ x = if x ∈ ps then G.succ x ++ [j] else G.succ x
  | [], G, h, _ => ⟨h, rfl, fun x => by simp, fun x => by simp⟩
  | p :: ps, G, h, hn => by
    have hn' := List.nodup_cons.mp hn
    obtain ⟨a, b, c, d⟩ := GrW.links j ps (h.link j p) hn'.2
    rw [List.foldl_cons]
    refine ⟨a, b.trans (h.tnp p), fun x => ?_, fun x => ?_⟩
    · rw [c x, show x ∈ (Gr.link j G p).keys ↔ _ from G.touch_keys p x, List.mem_cons]
      exact or_assoc
    · rw [d x, h.lsu]
      by_cases e : x = p
      · rw [if_neg (by rw [e]; exact hn'.1), if_pos e, if_pos (by rw [e]; exact .head _)]
      · rw [if_neg e]
        by_cases e2 : x ∈ ps
        · rw [if_pos e2, if_pos (.tail _ e2)]
        · rw [if_neg e2, if_neg (fun c => (List.mem_cons.mp c).elim e e2)]
theorem GrW.count {G : Gr} (h : GrW G) (j n : Int) : GrW (G.count j n) ∧ (∀ x, (G.count j n).np x = if x = j then G.np x + n else G.np x) ∧ (G.count j n).succ = G.succ := by
  have e : ∀ x, (G.count j n).np x = if x = j then G.np x + n else G.np x := fun x => by
    show (if x = j then (G.touch j).np j + n else (G.touch j).np x) = _
    rw [h.tnp]
    by_cases e : x = j
    · rw [if_pos e, if_pos e, e]
    · rw [if_neg e, if_neg e]
  refine ⟨⟨(h.touch j).nd, fun x hx => ?_, (h.touch j).su0⟩, e, h.tsu j⟩
  have hx' : x ∉ (G.touch j).keys := hx
  rw [G.touch_keys] at hx'
  rw [e, if_neg (fun c => hx' (.inr c))]
  exact h.np0 x fun c => hx' (.inl c)
theorem mem_ofNat {l : List Nat} {i : Nat} : (i : Int) ∈ l.map Int.ofNat ↔ i ∈ l := by
  rw [List.mem_map]
  constructor
  · rintro ⟨a, ha, e⟩
    have : a = i := Int.ofNat.inj e
    exact this ▸ ha
  · exact fun h => ⟨i, h, rfl⟩
theorem nodup_ofNat {l : List Nat} (h : l.Nodup) : (l.map Int.ofNat).Nodup := List.Pairwise.map _ (fun _ _ h c => h (Int.ofNat.inj c)) h
structure GrB (be : List (Int × Int)) (n : Nat) (G : Gr) : Prop where
  w : GrW G
  k1 : ∀ k ∈ G.keys, ∃ i : Nat, i < 8 ∧ k = (i : Int)
  k2 : ∀ i : Nat, i < n → (i : Int) ∈ G.keys
  np : ∀ i : Nat, G.np (i : Int) = if i < n then ((ovs be i).length : Int) else 0
  su : ∀ i : Nat, G.succ (i : Int) = ((List.range n).filter fun j => decide (i ∈ ovs be j)).map Int.ofNat
theorem grAt_B (be : List (Int × Int)) : ∀ n, n ≤ 8 → GrB be n (grAt be n)
  | 0, _ => by
    refine ⟨⟨List.nodup_nil, fun _ _ => rfl, fun _ _ => rfl⟩, fun k hk => absurd hk List.not_mem_nil, fun i hi => absurd hi (Nat.not_lt_zero _), fun i => ?_, fun i => rfl⟩
    rw [if_neg (Nat.not_lt_zero _)]
    rfl
  | n + 1, hn => by
    have ih := grAt_B be n (by lia)
    rw [grAt_succ]
    unfold Gr.addN
    obtain ⟨w1, n1, s1⟩ := ih.w.count (n : Int) (((ovs be n).map Int.ofNat).length : Int)
    obtain ⟨w2, n2, k2, s2⟩ := GrW.links (n : Int) ((ovs be n).map Int.ofNat) w1 (nodup_ofNat (ovs_nodup be n))
    have kk : ∀ x, x ∈ ((grAt be n).count (n : Int) (((ovs be n).map Int.ofNat).length : Int)).keys ↔ x ∈ (grAt be n).keys ∨ x = (n : Int) := fun x => Gr.touch_keys _ _ x
    refine ⟨w2, fun k hk => ?_, fun i hi => ?_, fun i => ?_, fun i => ?_⟩
    · rw [k2, kk] at hk
      rcases hk with (hk | hk) | hk
      · exact ih.k1 k hk
      · exact ⟨n, by lia, hk⟩
      · obtain ⟨i, hi, e⟩ := List.mem_map.mp hk
        exact ⟨i, ovs_lt hi, e.symm⟩
    · rw [k2, kk]
      by_cases e : i = n
      · exact .inl (.inr (by rw [e]))
      · exact .inl (.inl (ih.k2 i (by lia)))
    · rw [n2, n1, ih.np, List.length_map]
      by_cases e : i = n
      · subst e
        rw [if_pos rfl, if_neg (Nat.lt_irrefl _), if_pos (Nat.lt_succ_self _)]
        lia
      · rw [if_neg (by lia)]
        by_cases h : i < n
        · rw [if_pos h, if_pos (by lia)]
        · rw [if_neg h, if_neg (by lia)]
    · rw [s2, s1, ih.su, List.range_succ, List.filter_append, List.map_append]
      by_cases e : i ∈ ovs be n
      · rw [if_pos (mem_ofNat.mpr e), List.filter_cons_of_pos (p := fun j => decide (i ∈ ovs be j)) (decide_eq_true e)]
        rfl
      · rw [if_neg (fun c => e (mem_ofNat.mp c)), List.filter_cons_of_neg (p := fun j => decide (i ∈ ovs be j)) (fun c => e (of_decide_eq_true c))]
        rw [List.filter_nil, List.map_nil, List.append_nil]
/-- the graph of eight stays -/
theorem gr8_keys (be : List (Int × Int)) {k : Int} : k ∈ (grAt be 8).keys ↔ ∃ i : Nat, i < 8 ∧ k = (i : Int) :=
  ⟨(grAt_B be 8 (Nat.le_refl _)).k1 k, fun ⟨i, hi, e⟩ => e ▸ (grAt_B be 8 (Nat.le_refl _)).k2 i hi⟩
theorem gr8_np (be : List (Int × Int)) {i : Nat} (hi : i < 8) : (grAt be 8).np (i : Int) = ((ovs be i).length : Int) := by rw [(grAt_B be 8 (Nat.le_refl _)).np, if_pos hi]
theorem gr8_su (be : List (Int × Int)) (i j : Nat) : (j : Int) ∈ (grAt be 8).succ (i : Int) ↔ j < 8 ∧ i ∈ ovs be j := by
  rw [(grAt_B be 8 (Nat.le_refl _)).su, mem_ofNat, List.mem_filter, List.mem_range, decide_eq_true_eq]
theorem gr8_su' (be : List (Int × Int)) (i : Nat) {x : Int} (h : x ∈ (grAt be 8).succ (i : Int)) : ∃ j : Nat, x = (j : Int) ∧ j < 8 ∧ i ∈ ovs be j := by
  have h' := h
  rw [(grAt_B be 8 (Nat.le_refl _)).su, List.mem_map] at h'
  obtain ⟨j, _, e⟩ := h'
  have e : x = (j : Int) := e.symm
  subst e
  exact ⟨j, rfl, (gr8_su be i j).mp h⟩
theorem gr8_nd (be : List (Int × Int)) (i : Nat) : ((grAt be 8).succ (i : Int)).Nodup := by
  rw [(grAt_B be 8 (Nat.le_refl _)).su]
  exact nodup_ofNat (List.nodup_range.filter _)
theorem pl_inK (be : List (Int × Int)) : ∀ k ∈ (grAt be 8).keys, ∀ j ∈ (grAt be 8).succ k, j ∈ (grAt be 8).keys := by
  intro k hk j hj
  obtain ⟨i, _, rfl⟩ := (gr8_keys be).mp hk
  obtain ⟨x, rfl, hx, _⟩ := gr8_su' be i hj
  exact (gr8_keys be).mpr ⟨x, hx, rfl⟩
theorem pl_rank {be : List (Int × Int)} (hbe : be.length = 8) (ok : OkBe be) : ∀ k ∈ (grAt be 8).keys, ∀ j ∈ (grAt be 8).succ k, rk be k < rk be j := by
  intro k hk j hj
  obtain ⟨i, hi, rfl⟩ := (gr8_keys be).mp hk
  obtain ⟨x, rfl, hx, ho⟩ := gr8_su' be i hj
  have h2 := ok _ (getD_mem8 hbe hx)
  have h3 := (mem_ovs.mp ho).2
  show (be.getD i (0, 0)).2.toNat < (be.getD x (0, 0)).2.toNat
  exact (Int.toNat_lt_toNat (Int.lt_of_le_of_lt h2.1 h2.2.1)).mpr (Int.lt_of_le_of_lt h3 h2.2.1)
/-! the rounds, in plain Lean -/
def Dn (be : List (Int × Int)) : Nat → Nat → Bool
  | 0, _ => false
  | t + 1, j => (ovs be j).all (Dn be t)
theorem Dn_succ {be : List (Int × Int)} {t j : Nat} : Dn be (t + 1) j = true ↔ ∀ i ∈ ovs be j, Dn be t i = true := List.all_eq_true
theorem Dn_up {be : List (Int × Int)} : ∀ t j, Dn be t j = true → Dn be (t + 1) j = true
  | 0, j, h => by cases h
  | t + 1, j, h => Dn_succ.mpr fun i hi => Dn_up t i (Dn_succ.mp h i hi)
theorem Dn_le {be : List (Int × Int)} {s t j : Nat} (hs : s ≤ t) (h : Dn be s j = true) : Dn be t j = true := by
  induction hs with
  | refl => exact h
  | step _ ih => exact Dn_up _ _ ih

theorem decs_eq : ∀ (l : List Int) (f : Int → Int) (r : List Int), l.Nodup → l.foldl dec (f, r) = (fun y => if y ∈ l then f y - 1 else f y, r ++ l.filter fun y => decide (f y - 1 = 0))
  | [], f, r, _ => by simp
  | x :: l, f, r, hn => by
    have hn' := List.nodup_cons.mp hn
    rw [List.foldl_cons]
    show l.foldl dec (fun y => if y = x then f x - 1 else f y, if f x - 1 = 0 then r ++ [x] else r) = _
    rw [decs_eq l _ _ hn'.2]
    refine Prod.ext ?_ ?_
    · funext y
      show (if y ∈ l then (if y = x then f x - 1 else f y) - 1 else if y = x then f x - 1 else f y) = if y ∈ x :: l then f y - 1 else f y
      by_cases e : y = x
      · subst e
        rw [if_neg hn'.1, if_pos rfl, if_pos (.head _)]
      · rw [if_neg e]
        by_cases e2 : y ∈ l
        · rw [if_pos e2, if_pos (.tail _ e2)]
        · rw [if_neg e2, if_neg (fun c => (List.mem_cons.mp c).elim e e2)]
    · show (if f x - 1 = 0 then r ++ [x] else r) ++ l.filter (fun y => decide ((if y = x then f x - 1 else f y) - 1 = 0)) = r ++ (x :: l).filter fun y => decide (f y - 1 = 0)
      have e : l.filter (fun y => decide ((if y = x then f x - 1 else f y) - 1 = 0)) = l.filter fun y => decide (f y - 1 = 0) := List.filter_congr fun y hy => by rw [if_neg (show ¬ y = x from fun c => hn'.1 (c ▸ hy))]
      rw [e]
      by_cases c : f x - 1 = 0
      · rw [if_pos c, List.filter_cons_of_pos (p := fun y => decide (f y - 1 = 0)) (decide_eq_true c), List.append_assoc]
        rfl
      · rw [if_neg c, List.filter_cons_of_neg (p := fun y => decide (f y - 1 = 0)) (fun x => c (of_decide_eq_true x))]

/-- inside one round: `P` is done -/
def Sn (be : List (Int × Int)) (t : Nat) (P : List Int) (j : Nat) : Bool := Dn be t j || decide ((j : Int) ∈ P)
structure InR (be : List (Int × Int)) (t : Nat) (P : List Int) (st : (Int → Int) × List Int) : Prop where
  np : ∀ j : Nat, j < 8 → st.1 (j : Int) = if Sn be t P j = true then -2 else if Dn be (t + 1) j = true then -1 else ((ovs be j).countP (fun i => !Sn be t P i) : Int)
  nd : st.2.Nodup
  mem : ∀ x, x ∈ st.2 ↔ ∃ j : Nat, x = (j : Int) ∧ j < 8 ∧ Dn be (t + 1) j = false ∧ ∀ i ∈ ovs be j, Sn be t P i = true
theorem Sn_snoc {be : List (Int × Int)} {t : Nat} {P : List Int} {k j : Nat} : Sn be t (P ++ [(k : Int)]) j = true ↔ Sn be t P j = true ∨ j = k := by
  unfold Sn
  rw [Bool.or_eq_true, Bool.or_eq_true, decide_eq_true_eq, decide_eq_true_eq, List.mem_append, List.mem_singleton, Int.natCast_inj, or_assoc]
theorem countP_drop {p q : Nat → Bool} {k : Nat} : ∀ {l : List Nat}, l.Nodup → (∀ i, q i = true ↔ p i = true ∧ i ≠ k) → p k = true → l.countP p = l.countP q + if k ∈ l then 1 else 0
  | [], _, _, _ => rfl
  | a :: l, hn, h, hk => by
    have hn' := List.nodup_cons.mp hn
    have ih := countP_drop hn'.2 h hk
    rw [List.countP_cons, List.countP_cons, ih]
    by_cases e : a = k
    · subst e
      rw [if_neg hn'.1, if_pos hk, if_neg (fun c => ((h a).mp c).2 rfl), if_pos (.head _)]
    · have e1 : (k ∈ a :: l) = (k ∈ l) := by
        rw [List.mem_cons]
        exact propext ⟨fun c => c.elim (fun c => absurd c.symm e) id, .inr⟩
      have e2 : p a = q a := Bool.eq_iff_iff.mpr ⟨fun c => (h a).mpr ⟨c, e⟩, fun c => ((h a).mp c).1⟩
      simp only [e1, e2]
      lia
theorem InR.step {be : List (Int × Int)} (hbe : be.length = 8) (ok : OkBe be) {t : Nat} {P : List Int} {st : (Int → Int) × List Int} (r : InR be t P st) {k : Nat} (hk : k < 8) (hk1 : Dn be (t + 1) k = true) (hk2 : Sn be t P k = false)
    (hP : ∀ j, Sn be t P j = true → j < 8 → Dn be (t + 1) j = true) : InR be t (P ++ [(k : Int)]) (done1 (grAt be 8).succ st (k : Int)) := by
  have hk0 : Dn be t k = false := by
    unfold Sn at hk2
    exact (Bool.or_eq_false_iff.mp hk2).1
  have nk : ∀ j, Dn be (t + 1) j = true → k ∉ ovs be j := fun j hj c => by rw [Dn_succ.mp hj k c] at hk0; cases hk0
  have kk : k ∉ ovs be k := ovs_irrefl hbe ok
  have cnt : ∀ j, (ovs be j).countP (fun i => !Sn be t P i) = (ovs be j).countP (fun i => !Sn be t (P ++ [(k : Int)]) i) + if k ∈ ovs be j then 1 else 0 := fun j =>
    countP_drop (ovs_nodup be j) (fun i => by
      rw [Bool.not_eq_true', Bool.not_eq_true', ← Bool.not_eq_true, ← Bool.not_eq_true, Sn_snoc]
      exact not_or) (by rw [hk2]; rfl)
  unfold done1
  rw [decs_eq _ _ _ (gr8_nd be k)]
  refine ⟨fun j hj => ?_, ?_, fun x => ?_⟩
  · show (if (j : Int) ∈ (grAt be 8).succ (k : Int) then (if (j : Int) = (k : Int) then -2 else st.1 (j : Int)) - 1 else if (j : Int) = (k : Int) then -2 else st.1 (j : Int)) = _
    by_cases ej : j = k
    · subst ej
      rw [if_neg (fun c => kk ((gr8_su be j j).mp c).2), if_pos rfl, if_pos (Sn_snoc.mpr (.inr rfl))]
    · rw [if_neg (fun c => ej (Int.natCast_inj.mp c)), r.np j hj]
      by_cases e1 : Sn be t P j = true
      · rw [if_neg (fun c => nk j (hP j e1 hj) ((gr8_su be k j).mp c).2), if_pos e1, if_pos (Sn_snoc.mpr (.inl e1))]
      · rw [if_neg e1, if_neg (c := Sn be t (P ++ [(k : Int)]) j = true) (fun c => (Sn_snoc.mp c).elim e1 ej)]
        by_cases e2 : Dn be (t + 1) j = true
        · rw [if_neg (fun c => nk j e2 ((gr8_su be k j).mp c).2), if_pos e2, if_pos e2]
        · rw [if_neg e2, if_neg e2, cnt j]
          by_cases e3 : k ∈ ovs be j
          · rw [if_pos ((gr8_su be k j).mpr ⟨hj, e3⟩), if_pos e3]
            lia
          · rw [if_neg (fun c => e3 ((gr8_su be k j).mp c).2), if_neg e3]
            lia
  · show (st.2 ++ _).Nodup
    rw [List.nodup_append]
    refine ⟨r.nd, (gr8_nd be k).filter _, fun a ha b hb e => ?_⟩
    subst e
    obtain ⟨j, rfl, hj, _, h2⟩ := (r.mem _).mp ha
    have := h2 k ((gr8_su be k j).mp (List.mem_filter.mp hb).1).2
    rw [hk2] at this
    cases this
  · show x ∈ st.2 ++ _ ↔ _
    rw [List.mem_append, r.mem]
    constructor
    · rintro (⟨j, rfl, hj, h1, h2⟩ | h)
      · exact ⟨j, rfl, hj, h1, fun i hi => Sn_snoc.mpr (.inl (h2 i hi))⟩
      · obtain ⟨h1, h2⟩ := List.mem_filter.mp h
        obtain ⟨j, rfl, hj, ho⟩ := gr8_su' be k h1
        have h2 := of_decide_eq_true h2
        have ej : j ≠ k := fun e => kk (e ▸ ho)
        have nd1 : ¬ Dn be (t + 1) j = true := fun c => nk j c ho
        have ns : ¬ Sn be t P j = true := fun c => nd1 (hP j c hj)
        rw [if_neg (fun c => ej (Int.natCast_inj.mp c)), r.np j hj, if_neg ns, if_neg nd1, cnt j, if_pos ho] at h2
        have h3 : (ovs be j).countP (fun i => !Sn be t (P ++ [(k : Int)]) i) = 0 := by lia
        refine ⟨j, rfl, hj, Bool.not_eq_true _ ▸ nd1, fun i hi => ?_⟩
        have := List.countP_eq_zero.mp h3 i hi
        simpa using this
    · rintro ⟨j, rfl, hj, h1, h2⟩
      by_cases e3 : k ∈ ovs be j
      · refine .inr (List.mem_filter.mpr ⟨(gr8_su be k j).mpr ⟨hj, e3⟩, decide_eq_true ?_⟩)
        have ej : j ≠ k := fun e => kk (by rw [e] at e3; exact e3)
        have nd1 : ¬ Dn be (t + 1) j = true := by rw [h1]; exact Bool.false_ne_true
        have ns : ¬ Sn be t P j = true := fun c => nd1 (hP j c hj)
        rw [if_neg (fun c => ej (Int.natCast_inj.mp c)), r.np j hj, if_neg ns, if_neg nd1, cnt j, if_pos e3]
        have h3 : (ovs be j).countP (fun i => !Sn be t (P ++ [(k : Int)]) i) = 0 := List.countP_eq_zero.mpr fun i hi => by rw [h2 i hi]; exact Bool.false_ne_true
        lia
      · refine .inl ⟨j, rfl, hj, h1, fun i hi => ?_⟩
        rcases Sn_snoc.mp (h2 i hi) with h | h
        · exact h
        · exact absurd (h ▸ hi) e3
theorem InR.run {be : List (Int × Int)} (hbe : be.length = 8) (ok : OkBe be) {t : Nat} : ∀ (l P : List Int) (st : (Int → Int) × List Int), InR be t P st → (P ++ l).Nodup → (∀ x ∈ P ++ l, ∃ j : Nat, x = (j : Int) ∧ j < 8 ∧ Dn be (t + 1) j = true ∧ Dn be t j = false) → InR be t (P ++ l) (l.foldl (done1 (grAt be 8).succ) st)
  | [], P, st, r, _, _ => by rw [List.append_nil]; exact r
  | x :: l, P, st, r, hn, hx => by
    obtain ⟨k, rfl, hk, h1, h2⟩ := hx x (List.mem_append_right _ (.head _))
    have e : P ++ (k : Int) :: l = (P ++ [(k : Int)]) ++ l := by rw [List.append_assoc]; rfl
    have hkP : (k : Int) ∉ P := fun c => (List.nodup_append.mp hn).2.2 _ c _ (.head _) rfl
    rw [e] at hn hx ⊢
    rw [List.foldl_cons]
    refine InR.run hbe ok l _ _ (r.step hbe ok hk h1 ?_ ?_) hn hx
    · unfold Sn
      rw [h2, decide_eq_false hkP]
      rfl
    · intro j hj h8
      unfold Sn at hj
      rw [Bool.or_eq_true, decide_eq_true_eq] at hj
      rcases hj with hj | hj
      · exact Dn_up _ _ hj
      · obtain ⟨i, e, _, hi, _⟩ := hx _ (List.mem_append_left _ (List.mem_append_left _ hj))
        rw [Int.natCast_inj.mp e]
        exact hi

/-- ahead of round `t` -/
structure AtR (be : List (Int × Int)) (t : Nat) (st : (Int → Int) × List Int × Nat) : Prop where
  np : ∀ j : Nat, j < 8 → st.1 (j : Int) = if Dn be t j = true then -2 else ((ovs be j).countP (fun i => !Dn be t i) : Int)
  nd : st.2.1.Nodup
  mem : ∀ x, x ∈ st.2.1 ↔ ∃ j : Nat, x = (j : Int) ∧ j < 8 ∧ Dn be (t + 1) j = true ∧ Dn be t j = false
theorem AtR.zero (be : List (Int × Int)) : AtR be 0 (st0 be) := by
  refine ⟨fun j hj => ?_, (grAt_B be 8 (Nat.le_refl _)).w.nd.filter _, fun x => ?_⟩
  · show (grAt be 8).np (j : Int) = _
    rw [gr8_np be hj, if_neg (by exact Bool.false_ne_true)]
    congr 1
    exact (List.countP_eq_length.mpr fun _ _ => rfl).symm
  · show x ∈ List.filter _ _ ↔ _
    rw [List.mem_filter, gr8_keys]
    constructor
    · rintro ⟨⟨j, hj, rfl⟩, h⟩
      have h := of_decide_eq_true h
      rw [gr8_np be hj] at h
      have h0 : ovs be j = [] := List.length_eq_zero_iff.mp (by lia)
      exact ⟨j, rfl, hj, Dn_succ.mpr (fun i hi => by rw [h0] at hi; exact absurd hi List.not_mem_nil), rfl⟩
    · rintro ⟨j, rfl, hj, h, _⟩
      refine ⟨⟨j, hj, rfl⟩, decide_eq_true ?_⟩
      rw [gr8_np be hj]
      have h0 : ovs be j = [] := by
        cases e : ovs be j with
        | nil => rfl
        | cons a l =>
          have := Dn_succ.mp h a (by rw [e]; exact .head _)
          cases this
      rw [h0]
      rfl
theorem AtR.start {be : List (Int × Int)} {t : Nat} {st : (Int → Int) × List Int × Nat} (r : AtR be t st) : InR be t [] (fun k => if k ∈ st.2.1 then -1 else st.1 k, []) := by
  have e : ∀ j, Sn be t [] j = Dn be t j := fun j => by
    unfold Sn
    rw [decide_eq_false List.not_mem_nil, Bool.or_false]
  refine ⟨fun j hj => ?_, List.nodup_nil, fun x => ?_⟩
  · show (if (j : Int) ∈ st.2.1 then -1 else st.1 (j : Int)) = _
    simp only [e]
    rw [r.np j hj]
    by_cases e1 : Dn be t j = true
    · rw [if_neg (fun c => by obtain ⟨i, ei, _, _, h⟩ := (r.mem _).mp c; rw [← Int.natCast_inj.mp ei, e1] at h; cases h), if_pos e1, if_pos e1]
    · rw [if_neg e1, if_neg e1]
      by_cases e2 : Dn be (t + 1) j = true
      · rw [if_pos ((r.mem _).mpr ⟨j, rfl, hj, e2, Bool.not_eq_true _ ▸ e1⟩), if_pos e2]
      · rw [if_neg (fun c => by obtain ⟨i, ei, _, h, _⟩ := (r.mem _).mp c; rw [← Int.natCast_inj.mp ei] at h; exact e2 h), if_neg e2]
  · refine ⟨fun c => absurd c List.not_mem_nil, ?_⟩
    rintro ⟨j, _, _, h1, h2⟩
    have : Dn be (t + 1) j = true := Dn_succ.mpr fun i hi => by rw [← e]; exact h2 i hi
    rw [h1] at this
    cases this
theorem AtR.step {be : List (Int × Int)} (hbe : be.length = 8) (ok : OkBe be) {t : Nat} {st : (Int → Int) × List Int × Nat} (r : AtR be t st) : AtR be (t + 1) (turnStep (grAt be 8).succ st) := by
  have h := InR.run hbe ok st.2.1 [] _ r.start r.nd (fun x hx => (r.mem x).mp hx)
  rw [List.nil_append] at h
  have e : ∀ j, j < 8 → (Sn be t st.2.1 j = true ↔ Dn be (t + 1) j = true) := by
    intro j hj
    unfold Sn
    rw [Bool.or_eq_true, decide_eq_true_eq]
    constructor
    · rintro (h | h)
      · exact Dn_up _ _ h
      · obtain ⟨i, ei, _, h, _⟩ := (r.mem _).mp h
        rw [Int.natCast_inj.mp ei]
        exact h
    · intro h
      by_cases e : Dn be t j = true
      · exact .inl e
      · exact .inr ((r.mem _).mpr ⟨j, rfl, hj, h, Bool.not_eq_true _ ▸ e⟩)
  have e' : ∀ j, j < 8 → Sn be t st.2.1 j = Dn be (t + 1) j := fun j hj => Bool.eq_iff_iff.mpr (e j hj)
  refine ⟨fun j hj => ?_, h.nd, fun x => ?_⟩
  · refine (h.np j hj).trans ?_
    rw [e' j hj]
    by_cases c : Dn be (t + 1) j = true
    · rw [if_pos c, if_pos c]
    · rw [if_neg c, if_neg c, if_neg c]
      congr 1
      exact List.countP_congr fun i hi => by rw [e' i (ovs_lt hi)]
  · refine (h.mem x).trans ?_
    constructor
    · rintro ⟨j, rfl, hj, h1, h2⟩
      exact ⟨j, rfl, hj, Dn_succ.mpr fun i hi => (e i (ovs_lt hi)).mp (h2 i hi), h1⟩
    · rintro ⟨j, rfl, hj, h1, h2⟩
      exact ⟨j, rfl, hj, h2, fun i hi => (e i (ovs_lt hi)).mpr (Dn_succ.mp h1 i hi)⟩
theorem AtR.all {be : List (Int × Int)} (hbe : be.length = 8) (ok : OkBe be) : ∀ t, AtR be t (turns (grAt be 8).succ (st0 be) t)
  | 0 => AtR.zero be
  | t + 1 => (AtR.all hbe ok t).step hbe ok
theorem len_of_sub : ∀ (l l' : List Int), l.Nodup → (∀ x ∈ l, x ∈ l') → l.length ≤ l'.length
  | [], _, _, _ => Nat.zero_le _
  | a :: l, l', hn, h => by
    have hn' := List.nodup_cons.mp hn
    have ha := h a (.head _)
    have := len_of_sub l (l'.erase a) hn'.2 (fun x hx => (List.mem_erase_of_ne (fun e => hn'.1 (by rw [← e]; exact hx))).mpr (h x (.tail _ hx)))
    rw [List.length_erase_of_mem ha] at this
    rw [List.length_cons]
    exact Nat.succ_le_of_lt (Nat.lt_of_le_of_lt this (Nat.sub_lt (List.length_pos_of_mem ha) Nat.one_pos))
theorem AtR.ok {be : List (Int × Int)} (hbe : be.length = 8) (ok : OkBe be) {t : Nat} {st : (Int → Int) × List Int × Nat} (r : AtR be t st) : TurnOk (grAt be 8).keys (grAt be 8).succ st := by
  have sub : ∀ k ∈ st.2.1, k ∈ (grAt be 8).keys := fun k hk => by
    obtain ⟨j, rfl, hj, _⟩ := (r.mem k).mp hk
    exact (gr8_keys be).mpr ⟨j, hj, rfl⟩
  refine ⟨sub, ?_, fun i k hk => ?_⟩
  · have h1 := len_of_sub _ _ r.nd sub
    have h2 := grAt_len be 8
    lia
  · have hi : i < st.2.1.length := (List.getElem?_eq_some_iff.mp hk).1
    have ht : st.2.1.take i ++ st.2.1.drop i = st.2.1 := List.take_append_drop i _
    have hd : st.2.1.drop i = k :: st.2.1.drop (i + 1) := by
      rw [List.drop_eq_getElem_cons hi, (List.getElem?_eq_some_iff.mp hk).2]
    have hnd := r.nd
    rw [← ht, hd] at hnd
    have hkP : k ∉ st.2.1.take i := fun c => (List.nodup_append.mp hnd).2.2 _ c _ (.head _) rfl
    have h := InR.run hbe ok (st.2.1.take i) [] _ r.start (List.nodup_append.mp hnd).1 (fun x hx => (r.mem x).mp (List.mem_of_mem_take hx))
    rw [List.nil_append] at h
    obtain ⟨j, rfl, hj, h1, h2⟩ := (r.mem k).mp (List.mem_of_getElem? hk)
    rw [h.np j hj, if_neg (by unfold Sn; rw [h2, decide_eq_false hkP]; exact Bool.false_ne_true), if_pos h1]
/-! rounds and chains, in plain Lean -/
structure Chain (be : List (Int × Int)) (p : Nat → Bool) : Prop where
  comp : ∀ i, i < 8 → ∀ j, j < 8 → i ≠ j → p i = true → p j = true → i ∈ ovs be j ∨ j ∈ ovs be i
theorem countP_add {p q : Nat → Bool} {k : Nat} (hk : k < 8) (hq : ∀ i, q i = true ↔ p i = true ∨ i = k) (hp : p k = false) : (List.range 8).countP q = (List.range 8).countP p + 1 := by
  have h := countP_drop (p := q) (q := p) (k := k) (l := List.range 8) List.nodup_range (fun i => by
    rw [hq]
    constructor
    · exact fun h => ⟨.inl h, fun e => by rw [e, hp] at h; cases h⟩
    · exact fun h => h.1.elim id (fun e => absurd e h.2)) ((hq k).mpr (.inr rfl))
  rw [if_pos (List.mem_range.mpr hk)] at h
  exact h
theorem chain_of {be : List (Int × Int)} (hbe : be.length = 8) (ok : OkBe be) : ∀ t j, j < 8 → Dn be t j = false → ∃ p, Chain be p ∧ (List.range 8).countP p = t + 1 ∧ p j = true ∧ ∀ k, p k = true → k = j ∨ k ∈ ovs be j
  | 0, j, hj, _ => by
    refine ⟨fun k => decide (k = j), ⟨fun i _ k _ h a b => absurd ((of_decide_eq_true a).trans (of_decide_eq_true b).symm) h⟩, ?_, decide_eq_true rfl, fun k hk => .inl (of_decide_eq_true hk)⟩
    rw [countP_add (p := fun _ => false) hj (fun i => by rw [decide_eq_true_eq]; exact ⟨.inr, fun h => h.elim (fun c => by cases c) id⟩) rfl]
    rw [List.countP_false]
    rfl
  | t + 1, j, hj, h => by
    have : ¬ ∀ i ∈ ovs be j, Dn be t i = true := fun c => by rw [Dn_succ.mpr c] at h; cases h
    have : ∃ i, i ∈ ovs be j ∧ Dn be t i = false := by
      apply Classical.byContradiction
      intro c
      exact this fun i hi => Classical.byContradiction fun d => c ⟨i, hi, Bool.not_eq_true _ ▸ d⟩
    obtain ⟨i, hi, hd⟩ := this
    obtain ⟨p, hc, hcnt, hpi, hpb⟩ := chain_of hbe ok t i (ovs_lt hi) hd
    have hpj : p j = false := by
      cases e : p j with
      | false => rfl
      | true =>
        rcases hpb j e with c | c
        · rw [c] at hi; exact absurd hi (ovs_irrefl hbe ok)
        · exact absurd hi (ovs_asymm hbe ok c)
    have below : ∀ k, p k = true → k ∈ ovs be j := fun k hk => by
      rcases hpb k hk with c | c
      · rw [c]; exact hi
      · exact ovs_trans hbe ok c hi
    refine ⟨fun k => p k || decide (k = j), ⟨?_⟩, ?_, ?_, ?_⟩
    · intro a ha b hb hab pa pb
      rw [Bool.or_eq_true, decide_eq_true_eq] at pa pb
      rcases pa with pa | pa
      · rcases pb with pb | pb
        · exact hc.comp a ha b hb hab pa pb
        · rw [pb]; exact .inl (below a pa)
      · rcases pb with pb | pb
        · rw [pa]; exact .inr (below b pb)
        · exact absurd (pa.trans pb.symm) hab
    · rw [countP_add (p := p) hj (fun i => by rw [Bool.or_eq_true, decide_eq_true_eq]) hpj, hcnt]
    · show (p j || decide (j = j)) = true
      rw [decide_eq_true rfl, Bool.or_true]
    · intro k hk
      rw [Bool.or_eq_true, decide_eq_true_eq] at hk
      exact hk.elim (fun h => .inr (below k h)) .inl
theorem Dn_8 {be : List (Int × Int)} (hbe : be.length = 8) (ok : OkBe be) {j : Nat} (hj : j < 8) : Dn be 8 j = true := by
  cases e : Dn be 8 j with
  | true => rfl
  | false =>
    obtain ⟨p, _, h, _⟩ := chain_of hbe ok 8 j hj e
    have := List.countP_le_length (p := p) (l := List.range 8)
    rw [List.length_range] at this
    lia
theorem chain_le {be : List (Int × Int)} (hbe : be.length = 8) (ok : OkBe be) : ∀ c p, Chain be p → (∀ k, k < 8 → p k = true → Dn be c k = true) → (List.range 8).countP p ≤ c
  | 0, p, _, h => by
    rw [List.countP_eq_zero.mpr fun k hk c => by have := h k (List.mem_range.mp hk) c; cases this]
    exact Nat.le_refl _
  | c + 1, p, hc, h => by
    by_cases hne : (List.range 8).filter p = []
    · rw [List.countP_eq_length_filter, hne]
      exact Nat.zero_le _
    · obtain ⟨j, hj, hmax⟩ := argmax (fun i => (be.getD i (0, 0)).2) _ hne
      obtain ⟨hj8, hpj⟩ := List.mem_filter.mp hj
      have hj8 := List.mem_range.mp hj8
      have low : ∀ k, k < 8 → k ≠ j → p k = true → k ∈ ovs be j := by
        intro k hk hkj hpk
        rcases hc.comp k hk j hj8 hkj hpk hpj with a | a
        · exact a
        · have h1 := (mem_ovs.mp a).2
          have h2 := hmax k (List.mem_filter.mpr ⟨List.mem_range.mpr hk, hpk⟩)
          have h3 := ok _ (getD_mem8 hbe hk)
          lia
      have ih := chain_le hbe ok c (fun k => p k && decide (k ≠ j)) ⟨fun a ha b hb hab pa pb => hc.comp a ha b hb hab (Bool.and_eq_true_iff.mp pa).1 (Bool.and_eq_true_iff.mp pb).1⟩ (fun k hk hpk => by
        obtain ⟨a, b⟩ := Bool.and_eq_true_iff.mp hpk
        exact Dn_succ.mp (h j hj8 hpj) k (low k hk (of_decide_eq_true b) a))
      rw [countP_add (p := fun k => p k && decide (k ≠ j)) (q := p) hj8 (fun i => by
        rw [Bool.and_eq_true, decide_eq_true_eq]
        constructor
        · intro hi
          by_cases e : i = j
          · exact .inr e
          · exact .inl ⟨hi, e⟩
        · rintro (⟨a, _⟩ | e)
          · exact a
          · rw [e]; exact hpj) (by show (p j && decide (j ≠ j)) = false; rw [decide_eq_false (fun c => c rfl), Bool.and_false])]
      lia
structure RdAt (be : List (Int × Int)) (t r : Nat) : Prop where
  le : r ≤ t
  all : ∀ j, j < 8 → Dn be t j = true → Dn be r j = true
  top : r = 0 ∨ ∃ j s, r = s + 1 ∧ j < 8 ∧ Dn be s j = false
theorem RdAt.of {be : List (Int × Int)} (hbe : be.length = 8) (ok : OkBe be) : ∀ t, RdAt be t (turns (grAt be 8).succ (st0 be) t).2.2
  | 0 => ⟨Nat.le_refl _, fun _ _ h => h, .inl rfl⟩
  | t + 1 => by
    have ih := RdAt.of hbe ok t
    have A := AtR.all hbe ok t
    show RdAt be (t + 1) (turnStep (grAt be 8).succ (turns (grAt be 8).succ (st0 be) t)).2.2
    show RdAt be (t + 1) (if (turns (grAt be 8).succ (st0 be) t).2.1 = [] then (turns (grAt be 8).succ (st0 be) t).2.2 else (turns (grAt be 8).succ (st0 be) t).2.2 + 1)
    generalize turns (grAt be 8).succ (st0 be) t = st at ih A
    by_cases e : st.2.1 = []
    · rw [if_pos e]
      refine ⟨Nat.le_succ_of_le ih.le, fun j hj h => ih.all j hj ?_, ih.top⟩
      cases c : Dn be t j with
      | true => rfl
      | false =>
        have := (A.mem (j : Int)).mpr ⟨j, rfl, hj, h, c⟩
        rw [e] at this
        exact absurd this List.not_mem_nil
    · rw [if_neg e]
      refine ⟨Nat.succ_le_succ ih.le, fun j hj h => Dn_succ.mpr fun i hi => ih.all i (ovs_lt hi) (Dn_succ.mp h i hi), .inr ?_⟩
      obtain ⟨x, hx⟩ := List.exists_mem_of_ne_nil _ e
      obtain ⟨j, rfl, hj, h1, h2⟩ := (A.mem x).mp hx
      refine ⟨j, st.2.2, rfl, hj, ?_⟩
      cases c : Dn be st.2.2 j with
      | false => rfl
      | true => rw [Dn_le ih.le c] at h2; cases h2
theorem chain_comp {be : List (Int × Int)} {p : Nat → Bool} (h : Chain be p) : ∀ i, i < 8 → ∀ j, j < i → p i = true → p j = true → comp be i j = true :=
  fun i hi j hj a b => decide_eq_true (h.comp i hi j (by lia) (by lia) a b)
theorem chain_rel {be : List (Int × Int)} {p : Nat → Bool} (h : ∀ i, i < 8 → ∀ j, j < i → p i = true → p j = true → comp be i j = true) : Chain be p := by
  refine ⟨fun i hi j hj hij a b => ?_⟩
  rcases Nat.lt_trichotomy i j with c | c | c
  · exact (of_decide_eq_true (h j hj i c b a)).symm
  · exact absurd c hij
  · exact of_decide_eq_true (h i hi j c a b)
/-- what the walk asks -/
theorem plain_law (be : List (Int × Int)) (hbe : be.length = 8) (ok : ∀ p ∈ be, 0 ≤ p.1 ∧ p.1 < p.2 ∧ p.2 < 64) : PlainLaw be := by
  have R := RdAt.of hbe ok 9
  refine ⟨pl_inK be, pl_rank hbe ok, fun t _ => (AtR.all hbe ok t).ok hbe ok, ?_, ?_, ?_, fun bs h1 h2 => (crowds_law hbe ok h1 h2).1, fun bs h1 h2 => (crowds_law hbe ok h1 h2).2⟩
  · have A := AtR.all hbe ok 9
    refine List.eq_nil_iff_forall_not_mem.mpr fun x hx => ?_
    obtain ⟨j, _, hj, _, h⟩ := (A.mem x).mp hx
    rw [Dn_le (by decide) (Dn_8 hbe ok hj)] at h
    cases h
  · rw [chAt_g]
    rcases R.top with e | ⟨j, s, e, hj, hd⟩
    · rw [e]
      have := gAt_has (rel := fun t j => comp be t j = true) (ch_ok hbe ok) (fun _ => false) (fun _ _ _ _ a => by cases a)
      rw [List.countP_false] at this
      exact this
    · obtain ⟨p, hc, hcnt, _⟩ := chain_of hbe ok s j hj hd
      have := gAt_has (rel := fun t j => comp be t j = true) (ch_ok hbe ok) p (chain_comp hc)
      rw [hcnt, ← e] at this
      exact this
  · intro a ha
    rw [chAt_g] at ha
    rcases gAt_mem (rel := fun t j => comp be t j = true) (ch_ok hbe ok) ha with e | ⟨p, hp, e⟩
    · lia
    · rw [e]
      exact Int.ofNat_le.mpr (chain_le hbe ok _ p (chain_rel hp) fun k hk _ => R.all k hk (Dn_le (by decide) (Dn_8 hbe ok hk)))
end Mine
theorem PySem.Challenge.cw_dn0074_01_holds : PySem.Challenge.rw_dn0074_01.Holds :=
  Mine.hd (by
    k_go0
    rename_i w s₀ s₁ mg mb G Y fa o pm doc ho hg KX X V GL T B TE TW w11 w10 M w9 w8 hcd ns hs hlay0 hL1 hr1 hl2 w6 w5 scr vs w2 hL ra w1 r0 hI hr hcond hc2 K0 hD h₁ tk₁ F oj os left right N0 X0
    have Gg : Mine.Gnd w mg mb s₁.heap := ⟨KX, topRead_of T⟩
    refine wpAny_mono (Mine.law_all (fa := fa) (cd := .ref w9) (scr := scr) (vs := vs) (ns := ns) Gg F rfl hL hI (by lia) ⟨os, _, (N0 _ (.tail _ (.head _))).1, right⟩ ⟨oj, (N0 _ (.head _)).1, left⟩ Mine.plain_law Mine.rooms_good ?_) (fun _ _ h => h) (fun _ _ h => h.elim)
    intro h' tk m' F'
    refine goodW_bool F' hg (raisesW_false ?_) ?_
    · wrow_none_raised
    · kc_post)
