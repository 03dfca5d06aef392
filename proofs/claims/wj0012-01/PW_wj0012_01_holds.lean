import PyProof.Rows.All
import Wide.All
import OpenK.AllK
import Wide.FinOn
import Lean
import PySem.Challenge.RW_wj0012_01
open PySem PySem.W PyProof.Rows PySem.Spec PySem.Calls
set_option Elab.async false
set_option maxRecDepth 100000
set_option maxHeartbeats 8000000
namespace Mine
open_top hd for PySem.Challenge.rw_wj0012_01

section
variable {prog : Program} {w : World} {A₀ A : Around} {E : Value → Shared → Prop} {s : Shared} {K : Frag} {L : Addr} {h₀ base : Heap} {m mg mb : Str → Option Value} {p : Program} {loose : List Str} {mean : ExcName → Option Value}
/-- entering a def that leaves all that stood as it stood: the ground is the heap of the call -/
theorem enter0 {env : Env} {outer : List Env} {R : Result → Shared → Prop} {name qual : Str} {params : Arguments} {body : List Stmt} {scope : Scope} {dV kV doc pm cdv ct oc : Value} {an od : Option Addr} {osl : Array (Option Value)} {f : Addr} {args : Args} {binds : List (Str × Value)}
    (B : Below A₀ base outer h₀) (F : Fr h₀ L s.heap m) (X₀ : K.In h₀) (T : Top p loose mean mg mb h₀) (hA : A.frames = some (env :: outer)) (hf : env.frame = some L) (hke : env.scope.kind = .function)
    (ho : K.lookup f = some ⟨oc, od, .func (fnOf name qual params body scope dV kV doc pm an cdv ct), osl⟩) (hcd : codeIn K cdv qual = true) (hroom : A.depth < recursionLimit)
    (hbind : BindsTo s (fnOf name qual params body scope dV kV doc pm an cdv ct) args binds) (hloc : ∀ y ∈ binds, scope.names.lookup y.1 = some .local)
    (h : ∀ g L' h₁, s.heap.StaysIn g → Fr g L' h₁ (fun y => binds.reverse.lookup y) → News g L' h₁ [] → Below A base (env :: outer) g → K.In g → Top p loose mean mg mb g →
      wpAny (model prog w) (A.deeper (envOf qual scope L' f cdv)) (execs body (envOf qual scope L' f cdv))
        (fun fl s' => R (.ok (.ret (match fl with | .ret v => v | _ => .none))) s')
        (fun e s' => wpAny (model prog w) (A.deeper (envOf qual scope L' f cdv)) (leaving (envOf qual scope L' f cdv) e) (fun _ s'' => R (.error e) s'') (fun e' s'' => R (.error e') s'') s')
        { s with heap := h₁, toks := s.toks + binds.length })
    (hco : scope.isCoroutine = false) (hgen : scope.isGenerator = false) (hk : scope.kind = .function)
    (hcell : ∀ x ∈ scope.names, x.2 ≠ .cell) : codeAny (model prog w) A (.call (.ref f) args) R s := by
  have B₁ := pushX B F hf hke
  have BG : Below A base (env :: outer) s.heap := ⟨hA, B₁.stays, B₁.frames⟩
  refine codeAny_call_def (fd := fnX name qual params body scope [] dV kV doc pm an cdv ct) (body := body) (binds := binds) hroom ((X₀.keeps F.keep) _ _ ho) rfl (T.nolimit.keeps F.keep) (codeRec_of (X₀.keeps F.keep) hcd) rfl hbind hcell hloc (fun h₁ hns hk₁ => ?_) hco hgen hk
  exact h s.heap s.heap.objs.size h₁ (fun _ _ e => e) ⟨hns, hk₁, Nat.le_refl _⟩ News.nil BG (X₀.keeps F.keep) (T.keeps F.keep)

theorem enter0C {env : Env} {outer : List Env} {R : Result → Shared → Prop} {name qual : Str} {params : Arguments} {body : List Stmt} {scope : Scope} {dV kV doc pm cdv ct oc : Value} {an od : Option Addr} {osl : Array (Option Value)} {f : Addr} {args : Args} {binds : List (Str × Value)}
    (B : Below A₀ base outer h₀) (F : Fr h₀ L s.heap m) (X₀ : K.In h₀) (T : Top p loose mean mg mb h₀) (hA : A.frames = some (env :: outer)) (hf : env.frame = some L) (hke : env.scope.kind = .function)
    (ho : K.lookup f = some ⟨oc, od, .func (fnOf name qual params body scope dV kV doc pm an cdv ct), osl⟩) (hcd : codeIn K cdv qual = true) (hroom : A.depth < recursionLimit)
    (hbind : BindsTo s (fnOf name qual params body scope dV kV doc pm an cdv ct) args binds) (hkind : (binds.all fun y => scope.names.lookup y.1 == some .local || scope.names.lookup y.1 == some .cell) = true)
    (hnd : ((cellsFrom 0 scope.names []).map (·.1)).Nodup)
    (h : ∀ g L' h₁ tk cells, s.heap.StaysIn g → s.heap.objs.size ≤ L' → Fr g L' h₁ (bindL (envOfC qual scope L' f cdv).kindOf binds fun _ => none) → News g L' h₁ cells →
      CellsAre (bindC (envOfC qual scope L' f cdv).kindOf binds fun _ => none) (cellsFrom (L' + 1) scope.names []) cells → Below A base (env :: outer) g → K.In g → Top p loose mean mg mb g →
      wpAny (model prog w) (A.deeper (envOfC qual scope L' f cdv)) (execs body (envOfC qual scope L' f cdv))
        (fun fl s' => R (.ok (.ret (match fl with | .ret v => v | _ => .none))) s')
        (fun e s' => wpAny (model prog w) (A.deeper (envOfC qual scope L' f cdv)) (leaving (envOfC qual scope L' f cdv) e) (fun _ s'' => R (.error e) s'') (fun e' s'' => R (.error e') s'') s')
        { s with heap := h₁, toks := tk })
    (hco : scope.isCoroutine = false) (hgen : scope.isGenerator = false) (hk : scope.kind = .function) : codeAny (model prog w) A (.call (.ref f) args) R s := by
  have B₁ := pushX B F hf hke
  have BG : Below A base (env :: outer) s.heap := ⟨hA, B₁.stays, B₁.frames⟩
  refine codeAny_call_function hroom ((X₀.keeps F.keep) _ _ ho) rfl hco hgen rfl (codeRec_of (X₀.keeps F.keep) hcd) (hbind _ _ _ _ ?_)
  refine wpAny_newFunctionEnv_cells hk (kindsX hkind _) fun env' he s' x => ?_
  subst he
  refine ⟨(T.nolimit.keeps F.keep).keeps x.toInCall.keep, codeAny_func ?_⟩
  obtain ⟨h₁, tk, rfl, _⟩ := x.done
  obtain ⟨cells, NC, Y⟩ := Cl.news (h₀ := s.heap) (Nat.le_refl _) fun n c hm => ⟨x.cell n c (lookup_of_mem_nodup (cellsFrom_names scope.names 0 (s.heap.objs.size + 1) [] [] rfl ▸ hnd) hm), x.above n c hm⟩
  exact h s.heap s.heap.objs.size h₁ tk cells (fun _ _ e => e) (Nat.le_refl _) ⟨x.toInCall.ns, x.toInCall.keep, Nat.le_refl _⟩ NC Y BG (X₀.keeps F.keep) (T.keeps F.keep)
end

/-- what a call of a def of the text's that changes nothing gives back -/
def Con (rd ru : Nat) (f : Addr) (vs : List Value) (Pre : Heap → Prop) (Out : Heap → Heap → Value → Prop) : Prop :=
  ∀ (w : World) (mean : ExcName → Option Value) (mg mb : Str → Option Value) (dp un : Nat) (gd : Option (List Code)) (cn : Str) (cs : Scope) (a : Addr) (ccd : Value) (cl : List (Str × Addr)) (outer : List Env) (A₀ : Around) (base h₀ : Heap) (L : Addr) (m : Str → Option Value) (s : Shared) (Q E : Value → Shared → Prop),
    Below A₀ base outer h₀ → Fr h₀ L s.heap m → (Mine.hd.heap_39 w.params).In h₀ → Top Mine.hd.view_39 (looseW Mine.hd.view_39 []) mean mg mb h₀ → cs.kind = .function → dp + rd < recursionLimit → un + ru < cLine → Pre s.heap →
    (∀ v h' tk', s.heap.StaysIn h' → Out s.heap h' v → Q v { s with heap := h', toks := tk' }) →
    wpAny (model Challenge.rw_wj0012_01.row.prog w) (ktrTop dp un gd cn cs L a ccd cl outer) (call (.ref f) vs) Q E s

theorem Con.use {rd ru : Nat} {f : Addr} {vs : List Value} {Pre : Heap → Prop} {Out : Heap → Heap → Value → Prop} (C : Con rd ru f vs Pre Out)
    {w : World} {mean : ExcName → Option Value} {mg mb : Str → Option Value} {dp un : Nat} {gd : Option (List Code)} {cn : Str} {cs : Scope} {a : Addr} {ccd : Value} {cl : List (Str × Addr)} {outer : List Env} {A₀ : Around} {base h₀ : Heap} {L : Addr} {m : Str → Option Value} {s : Shared} {Q E : Value → Shared → Prop}
    (B : Below A₀ base outer h₀) (F : Fr h₀ L s.heap m) (X : (Mine.hd.heap_39 w.params).In h₀) (T : Top Mine.hd.view_39 (looseW Mine.hd.view_39 []) mean mg mb h₀) (hk : cs.kind = .function) (hd : dp + rd < recursionLimit) (hu : un + ru < cLine) (hp : Pre s.heap)
    (hR : ∀ v h' tk', s.heap.StaysIn h' → Out s.heap h' v → Q v { s with heap := h', toks := tk' }) :
    wpAny (model Challenge.rw_wj0012_01.row.prog w) (ktrTop dp un gd cn cs L a ccd cl outer) (call (.ref f) vs) Q E s :=
  C w mean mg mb dp un gd cn cs a ccd cl outer A₀ base h₀ L m s Q E B F X T hk hd hu hp hR

theorem Con.useN {rd ru : Nat} {f : Addr} {vs : List Value} {Pre : Heap → Prop} {Out : Heap → Heap → Value → Prop} (C : Con rd ru f vs Pre Out)
    {w : World} {mean : ExcName → Option Value} {mg mb : Str → Option Value} {dp un : Nat} {gd : Option (List Code)} {cn : Str} {cs : Scope} {a : Addr} {ccd : Value} {cl : List (Str × Addr)} {outer : List Env} {A₀ : Around} {base h₀ : Heap} {L : Addr} {m : Str → Option Value} {news : List (Addr × Obj)} {s : Shared} {Q E : Value → Shared → Prop}
    (B : Below A₀ base outer h₀) (F : Fr h₀ L s.heap m) (N : News h₀ L s.heap news) (X : (Mine.hd.heap_39 w.params).In h₀) (T : Top Mine.hd.view_39 (looseW Mine.hd.view_39 []) mean mg mb h₀) (hk : cs.kind = .function) (hd : dp + rd < recursionLimit) (hu : un + ru < cLine) (hp : Pre s.heap)
    (hR : ∀ v h' tk', Fr h₀ L h' m → News h₀ L h' news → Out s.heap h' v → Q v { s with heap := h', toks := tk' }) :
    wpAny (model Challenge.rw_wj0012_01.row.prog w) (ktrTop dp un gd cn cs L a ccd cl outer) (call (.ref f) vs) Q E s :=
  C.use B F X T hk hd hu hp fun v h' tk' st o => hR v h' tk' (F.keeps st) (N.grown st) o

/-- a new list of ints -/
def NewInts (ns : List Int) (h h' : Heap) (v : Value) : Prop :=
  ∃ l vs c, v = .ref l ∧ h'.get? l = some (listOf (List.toArray vs) c) ∧ h.get? l = none ∧ IntsAre vs ns

theorem off1_of {D : Addr} : ∀ {news : List (Addr × Obj)}, (∀ p ∈ news, p.1 ≠ D) → LCg.Off1 D news
  | [], _ => trivial
  | _ :: _, h => ⟨h _ (.head _), off1_of fun p hp => h p (.tail _ hp)⟩
section
variable {h₀ h h' : Heap} {L : Addr} {m : Str → Option Value} {news : List (Addr × Obj)} {ns : List Int} {v : Value}
theorem NewInts.use (F : Fr h₀ L h m) (N : News h₀ L h news) (st : h.StaysIn h') (x : NewInts ns h h' v) :
    ∃ l vs c, v = .ref l ∧ IntsAre vs ns ∧ Fr h₀ L h' m ∧ News h₀ L h' ((l, listOf (List.toArray vs) c) :: news) ∧ LCg.Off1 l news := by
  obtain ⟨l, vs, c, hv, hl, hs, hi⟩ := x
  refine ⟨l, vs, c, hv, hi, F.keeps st, fun p hp => ?_, off1_of fun p hp q => ?_⟩
  · rcases List.mem_cons.mp hp with rfl | hp
    · refine ⟨hl, fun q => ?_, ?_⟩
      · obtain ⟨o, es, ep, e, _⟩ := F.ns
        have q' : l = L := q
        rw [← q', hs] at e
        exact nomatch e
      · cases e : h₀.get? l with
        | none => rfl
        | some o =>
          have := F.keep _ _ e
          rw [hs] at this
          exact nomatch this
    · exact (N.grown st) p hp
  · have := (N p hp).1
    rw [q, hs] at this
    exact nomatch this
end
theorem Con.useL {rd ru : Nat} {f : Addr} {vs : List Value} {Pre : Heap → Prop} {S : List Int → Prop} (C : Con rd ru f vs Pre (fun h h' v => ∃ rs, NewInts rs h h' v ∧ S rs))
    {w : World} {mean : ExcName → Option Value} {mg mb : Str → Option Value} {dp un : Nat} {gd : Option (List Code)} {cn : Str} {cs : Scope} {a : Addr} {ccd : Value} {cl : List (Str × Addr)} {outer : List Env} {A₀ : Around} {base h₀ : Heap} {L : Addr} {m : Str → Option Value} {news : List (Addr × Obj)} {s : Shared} {Q E : Value → Shared → Prop}
    (B : Below A₀ base outer h₀) (F : Fr h₀ L s.heap m) (N : News h₀ L s.heap news) (X : (Mine.hd.heap_39 w.params).In h₀) (T : Top Mine.hd.view_39 (looseW Mine.hd.view_39 []) mean mg mb h₀) (hk : cs.kind = .function) (hd : dp + rd < recursionLimit) (hu : un + ru < cLine) (hp : Pre s.heap)
    (hR : ∀ rs l ys c h' tk', S rs → IntsAre ys rs → Fr h₀ L h' m → News h₀ L h' ((l, listOf (List.toArray ys) c) :: news) → LCg.Off1 l news → Q (.ref l) { s with heap := h', toks := tk' }) :
    wpAny (model Challenge.rw_wj0012_01.row.prog w) (ktrTop dp un gd cn cs L a ccd cl outer) (call (.ref f) vs) Q E s :=
  C.use B F X T hk hd hu hp fun v h' tk' st o => by
    obtain ⟨rs, x, hs⟩ := o
    obtain ⟨l, ys, c, rfl, hi, F', N', lt⟩ := x.use F N st
    exact hR rs l ys c h' tk' hs hi F' N' lt

theorem lk_hit {x : Str} {v : Value} {r : Option Value} [Decidable (x = x)] : (if x = x then some v else r) = some v := if_pos rfl
theorem lk_miss {x x' : Str} {v : Value} {o r : Option Value} [Decidable (x = x')] (hn : decide (x = x') = false) (h : r = some v) : (if x = x' then o else r) = some v := by
  rw [if_neg (of_decide_eq_false hn)]; exact h

/-- the letters' codes: True x, False X -/
def lc (p : Bool) : Nat := if p then 120 else 88
def w0 : Str := ⟨#[]⟩
def w1 (p : Bool) : Str := ⟨#[lc p]⟩
def w2 (p q : Bool) : Str := ⟨#[lc p, lc q]⟩

theorem sl2_a (p q : Bool) : Txt.slice (w2 p q) (some 0) none = w2 p q := by cases p <;> cases q <;> decide +kernel
theorem sl2_a' (p q : Bool) {i : Int} (h : i = 0) : Txt.slice (w2 p q) (some i) none = w2 p q := by subst h; exact sl2_a _ _
theorem sl2_b (p q : Bool) : Txt.slice (w2 p q) (some 1) none = w1 q := by cases p <;> cases q <;> decide +kernel
theorem sl2_b' (p q : Bool) {i : Int} (h : i = 1) : Txt.slice (w2 p q) (some i) none = w1 q := by subst h; exact sl2_b _ _
theorem sl2_c (p q : Bool) : Txt.slice (w2 p q) (some 2) none = w0 := by cases p <;> cases q <;> decide +kernel
theorem sl2_c' (p q : Bool) {i : Int} (h : i = 2) : Txt.slice (w2 p q) (some i) none = w0 := by subst h; exact sl2_c _ _
theorem sl2_d (p q : Bool) : Txt.slice (w2 p q) none none = w2 p q := by cases p <;> cases q <;> decide +kernel
theorem sl2_e (p q : Bool) : Txt.slice (w2 p q) none (some (-1)) = w1 p := by cases p <;> cases q <;> decide +kernel
theorem sl2_e' (p q : Bool) {i : Int} (h : i = (-1)) : Txt.slice (w2 p q) none (some i) = w1 p := by subst h; exact sl2_e _ _
theorem sl2_f (p q : Bool) : Txt.slice (w2 p q) none (some (-2)) = w0 := by cases p <;> cases q <;> decide +kernel
theorem sl2_f' (p q : Bool) {i : Int} (h : i = (-2)) : Txt.slice (w2 p q) none (some i) = w0 := by subst h; exact sl2_f _ _
theorem sl1_a (p : Bool) : Txt.slice (w1 p) (some 0) none = w1 p := by cases p <;> decide +kernel
theorem sl1_a' (p : Bool) {i : Int} (h : i = 0) : Txt.slice (w1 p) (some i) none = w1 p := by subst h; exact sl1_a _
theorem sl1_b (p : Bool) : Txt.slice (w1 p) (some 1) none = w0 := by cases p <;> decide +kernel
theorem sl1_b' (p : Bool) {i : Int} (h : i = 1) : Txt.slice (w1 p) (some i) none = w0 := by subst h; exact sl1_b _
theorem sl1_d (p : Bool) : Txt.slice (w1 p) none none = w1 p := by cases p <;> decide +kernel
theorem sl1_e (p : Bool) : Txt.slice (w1 p) none (some (-1)) = w0 := by cases p <;> decide +kernel
theorem sl1_e' (p : Bool) {i : Int} (h : i = (-1)) : Txt.slice (w1 p) none (some i) = w0 := by subst h; exact sl1_e _
theorem it2_a (p q : Bool) : Txt.item (w2 p q) 0 = w1 p := by cases p <;> cases q <;> decide +kernel
theorem it2_a' (p q : Bool) {i : Int} (h : i = 0) : Txt.item (w2 p q) i = w1 p := by subst h; exact it2_a _ _
theorem it2_b (p q : Bool) : Txt.item (w2 p q) 1 = w1 q := by cases p <;> cases q <;> decide +kernel
theorem it2_b' (p q : Bool) {i : Int} (h : i = 1) : Txt.item (w2 p q) i = w1 q := by subst h; exact it2_b _ _
theorem it2_c (p q : Bool) : Txt.item (w2 p q) (-1) = w1 q := by cases p <;> cases q <;> decide +kernel
theorem it2_c' (p q : Bool) {i : Int} (h : i = (-1)) : Txt.item (w2 p q) i = w1 q := by subst h; exact it2_c _ _
theorem it2_d (p q : Bool) : Txt.item (w2 p q) (-2) = w1 p := by cases p <;> cases q <;> decide +kernel
theorem it2_d' (p q : Bool) {i : Int} (h : i = (-2)) : Txt.item (w2 p q) i = w1 p := by subst h; exact it2_d _ _
theorem it1_a (p : Bool) : Txt.item (w1 p) 0 = w1 p := by cases p <;> decide +kernel
theorem it1_a' (p : Bool) {i : Int} (h : i = 0) : Txt.item (w1 p) i = w1 p := by subst h; exact it1_a _
theorem it1_c (p : Bool) : Txt.item (w1 p) (-1) = w1 p := by cases p <;> decide +kernel
theorem it1_c' (p : Bool) {i : Int} (h : i = (-1)) : Txt.item (w1 p) i = w1 p := by subst h; exact it1_c _
theorem eq_w1 (p q : Bool) : (w1 p == w1 q) = (p == q) := by cases p <;> cases q <;> decide +kernel
theorem eq_w1n (p : Bool) : (w1 p == w1 (!p)) = false := by cases p <;> decide +kernel
theorem eq_w1n' (p : Bool) : (w1 (!p) == w1 p) = false := by cases p <;> decide +kernel
theorem eq_w1s (p : Bool) : (w1 p == w1 p) = true := by cases p <;> decide +kernel
theorem eq_w2_a (p q : Bool) : (w2 p q == w2 p (!q)) = false := by cases p <;> cases q <;> decide +kernel
theorem eq_w2_b (p q : Bool) : (w2 p q == w2 (!p) q) = false := by cases p <;> cases q <;> decide +kernel
theorem eq_w2_c (p q : Bool) : (w2 p q == w2 (!p) (!q)) = false := by cases p <;> cases q <;> decide +kernel
theorem eq_w2_d (p : Bool) : (w2 p (!p) == w2 (!p) p) = false := by cases p <;> decide +kernel
theorem tr_w2 (p q : Bool) : (((w2 p q).length : Int) != 0) = true := rfl
theorem tr_w1 (p : Bool) : (((w1 p).length : Int) != 0) = true := rfl
theorem tr_w0 : ((w0.length : Int) != 0) = false := rfl
theorem le_w2 (p q : Bool) : (w2 p q).length ≤ 2 := Nat.le_refl 2
theorem le_w1 (p : Bool) : (w1 p).length ≤ 2 := Nat.le_succ 1
theorem le_w0 : w0.length ≤ 2 := Nat.zero_le 2
theorem ln_w2 (p q : Bool) : ((w2 p q).length : Int) = 2 := rfl
theorem ln_w1 (p : Bool) : ((w1 p).length : Int) = 1 := rfl
theorem ln_w0 : (w0.length : Int) = 0 := rfl
theorem lo_w1 (p : Bool) : Txt.lower (w1 p) = w1 true := by cases p <;> decide +kernel
theorem lo_fit (p : Bool) : Builtin.Str.tooLong (Txt.lower (w1 p)).length = false := by cases p <;> decide +kernel

section
variable {prog : Program} {w : World} {A : Around} {E : Value → Shared → Prop} {s : Shared} {value slice : Expr} {x y : Str} {t u : Tok} {h₀ : Heap} {L : Addr} {m : Str → Option Value} {news : List (Addr × Obj)} {Q : Value → Shared → Prop}
theorem tl_nn (e : Txt.slice x none none = y) (hsz : x.length ≤ 2) (hF : Fr h₀ L s.heap m) (hN : News h₀ L s.heap news) (h : ∀ h' t' k, Fr h₀ L h' m → News h₀ L h' news → Q (.str y t') { s with heap := h', toks := k })
    (hs : subscripted slice false (.str x t) (.ref s.heap.objs.size) = operate [.ref s.heap.objs.size, .str x t] (getItem (.str x t) (.ref s.heap.objs.size)) := by with_unfolding_all rfl)
    (ht : ∀ r, letTemporaryGo value (.str x t) r = pure () := by intro _; with_unfolding_all rfl) :
    wpAny (model prog w) A (subscriptTail value slice (.str x t) (.ref s.heap.objs.size)) Q E { s with heap := s.heap.push { cls := .type "slice", data := .fields #[.none, .none, .none] } } :=
  slice_strN_nn hF hN (fun h' t' k a b => by rw [e]; exact h h' t' k a b) hs ht (by rw [sizeLine_eq]; omega)
theorem tl_ns {j : Int} {uj : Tok} (e : Txt.slice x none (some j) = y) (hsz : x.length ≤ 2) (hF : Fr h₀ L s.heap m) (hN : News h₀ L s.heap news) (h : ∀ h' t' k, Fr h₀ L h' m → News h₀ L h' news → Q (.str y t') { s with heap := h', toks := k })
    (hs : subscripted slice false (.str x t) (.ref s.heap.objs.size) = operate [.ref s.heap.objs.size, .str x t] (getItem (.str x t) (.ref s.heap.objs.size)) := by with_unfolding_all rfl)
    (ht : ∀ r, letTemporaryGo value (.str x t) r = pure () := by intro _; with_unfolding_all rfl) :
    wpAny (model prog w) A (subscriptTail value slice (.str x t) (.ref s.heap.objs.size)) Q E { s with heap := s.heap.push { cls := .type "slice", data := .fields #[.none, .int j uj, .none] } } :=
  slice_strN_ns hF hN (fun h' t' k a b => by rw [e]; exact h h' t' k a b) hs ht (by rw [sizeLine_eq]; omega)
theorem tl_sn {i : Int} {ui : Tok} (e : Txt.slice x (some i) none = y) (hsz : x.length ≤ 2) (hF : Fr h₀ L s.heap m) (hN : News h₀ L s.heap news) (h : ∀ h' t' k, Fr h₀ L h' m → News h₀ L h' news → Q (.str y t') { s with heap := h', toks := k })
    (hs : subscripted slice false (.str x t) (.ref s.heap.objs.size) = operate [.ref s.heap.objs.size, .str x t] (getItem (.str x t) (.ref s.heap.objs.size)) := by with_unfolding_all rfl)
    (ht : ∀ r, letTemporaryGo value (.str x t) r = pure () := by intro _; with_unfolding_all rfl) :
    wpAny (model prog w) A (subscriptTail value slice (.str x t) (.ref s.heap.objs.size)) Q E { s with heap := s.heap.push { cls := .type "slice", data := .fields #[.int i ui, .none, .none] } } :=
  slice_strN_sn hF hN (fun h' t' k a b => by rw [e]; exact h h' t' k a b) hs ht (by rw [sizeLine_eq]; omega)
theorem tl_it {i : Int} (e : Txt.item x i = y) (hr : fitsSsize i = true) (h1 : -(x.length : Int) ≤ i) (h2 : i < x.length)
    (h : Q (.str y s.toks) { s with toks := s.toks + 1 })
    (hs : subscripted slice false (.str x t) (.int i u) = operate [.str x t, .int i u] (getItem (.str x t) (.int i u)) := by with_unfolding_all rfl)
    (ht : ∀ r, letTemporaryGo value (.str x t) r = pure () := by intro _; with_unfolding_all rfl) :
    wpAny (model prog w) A (subscriptTail value slice (.str x t) (.int i u)) Q E s :=
  item_str hr h1 h2 (fun _ => by rw [e]; exact h) hs ht
theorem tl_eq {b : Bool} (e : (x == y) = b) (h : Q (.bool b) s) : wpAny (model prog w) A (compareOp .Eq (.str x t) (.str y u)) Q E s := eq_str (by rw [e]; exact h)
theorem tl_len {k : Int} (e : (x.length : Int) = k) (hk : k < 3) (h : Q (.int k (s.toks + 1)) { s with toks := s.toks + 1 + 1 }) : wpAny (model prog w) A (call (.builtin "len") [.str x t]) Q E s :=
  len_str (by omega) (by rw [e]; exact h)
theorem tl_tr {b : Bool} {Q : Bool → Shared → Prop} (e : ((x.length : Int) != 0) = b) (hk : x.length ≤ 2) (h : Q b { s with toks := s.toks + 1 + 1 }) : wpAny (model prog w) A (truthy (.str x t)) Q E s :=
  P.truthy_str (by omega) (by rw [e]; exact h)

theorem carried_int {v : Value} {n : Int} (h : Carried v (.int n)) : ∃ t, v = .int n t := by cases h; exact ⟨_, rfl⟩
theorem carried1 {ys : List Value} {a : Int} (h : CarriedAll ys [.int a]) : ∃ t, ys = [.int a t] := by
  cases h with
  | cons h r => cases r; obtain ⟨t, rfl⟩ := carried_int h; exact ⟨t, rfl⟩
theorem carried2 {ys : List Value} {a b : Int} (h : CarriedAll ys [.int a, .int b]) : ∃ t u, ys = [.int a t, .int b u] := by
  cases h with
  | cons h r => obtain ⟨t, rfl⟩ := carried_int h; obtain ⟨u, rfl⟩ := carried1 r; exact ⟨t, u, rfl⟩
theorem made_lt {h₀ h h' : Heap} {L D : Addr} {m : Str → Option Value} {news : List (Addr × Obj)} {its : Array Value} (F : Fr h₀ L h' m) (N' : News h₀ L h' news) (hn : h₀.get? D = none) (hD : D = h.objs.size) (N : News h₀ L h news) (np : NewPlain h' news D its) :
    ∃ c, News h₀ L h' ((D, listOf its c) :: news) ∧ (∀ p ∈ news, p.1 < D) := by
  obtain ⟨c, hc⟩ := made_enters np F N' hn
  exact ⟨c, hc, fun p hp => by rw [hD]; exact Heap.lt_size (N p hp).1⟩
theorem list_r1 {r : Addr} {t u v : Tok} (hh : A.handled = none) (F : Fr h₀ L s.heap m) (N : News h₀ L s.heap news) (hr : IsRange s.heap r 2 4 2 t u v)
    (h : ∀ h' tk D c t₀, Fr h₀ L h' m → News h₀ L h' ((D, listOf #[.int 2 t₀] c) :: news) → (∀ p ∈ news, p.1 < D) → Q (.ref D) { s with heap := h', toks := tk }) :
    wpAny (model prog w) A (call (.type "list") [.ref r]) Q E s :=
  list_rangeD hh F N hr (n := 1) (by decide) (by decide) (by decide) fun h' tk ys F' N' _ hn _ np hc => by
    obtain ⟨t₀, rfl⟩ := carried1 hc
    obtain ⟨c, N2, lt⟩ := made_lt F' N' hn rfl N np
    exact h h' tk _ c t₀ F' N2 lt
theorem list_r2 {r : Addr} {t u v : Tok} (hh : A.handled = none) (F : Fr h₀ L s.heap m) (N : News h₀ L s.heap news) (hr : IsRange s.heap r 2 6 2 t u v)
    (h : ∀ h' tk D c t₀ t₁, Fr h₀ L h' m → News h₀ L h' ((D, listOf #[.int 2 t₀, .int 4 t₁] c) :: news) → (∀ p ∈ news, p.1 < D) → Q (.ref D) { s with heap := h', toks := tk }) :
    wpAny (model prog w) A (call (.type "list") [.ref r]) Q E s :=
  list_rangeD hh F N hr (n := 2) (by decide) (by decide) (by decide) fun h' tk ys F' N' _ hn _ np hc => by
    obtain ⟨t₀, t₁, rfl⟩ := carried2 hc
    obtain ⟨c, N2, lt⟩ := made_lt F' N' hn rfl N np
    exact h h' tk _ c t₀ t₁ F' N2 lt

theorem mn_r {a b : Int} (hh : A.handled = none) (F : Fr h₀ L s.heap m) (N : News h₀ L s.heap news) (e : decide (b < a) = true)
    (h : ∀ h' tk, Fr h₀ L h' m → News h₀ L h' news → Q (.int b u) { s with heap := h', toks := tk }) : wpAny (model prog w) A (call (.builtin "min") [.int a t, .int b u]) Q E s :=
  min_two_N hh F N fun h' tk F' N' => by rw [if_pos (of_decide_eq_true e), if_pos (of_decide_eq_true e)]; exact h h' tk F' N'
theorem mn_l {a b : Int} (hh : A.handled = none) (F : Fr h₀ L s.heap m) (N : News h₀ L s.heap news) (e : decide (b < a) = false)
    (h : ∀ h' tk, Fr h₀ L h' m → News h₀ L h' news → Q (.int a t) { s with heap := h', toks := tk }) : wpAny (model prog w) A (call (.builtin "min") [.int a t, .int b u]) Q E s :=
  min_two_N hh F N fun h' tk F' N' => by rw [if_neg (of_decide_eq_false e), if_neg (of_decide_eq_false e)]; exact h h' tk F' N'
theorem fin3 {c X : Int} (h : ¬ c < X) (hc : c ≤ 1) (e : decide (1 < X) = true) : False := h (Int.lt_of_le_of_lt hc (of_decide_eq_true e))
end

/-- n % k for n > 0, else -(-n % k) -/
def rest (n k : Int) : Int := if n > 0 then Int.fmod n k else -(Int.fmod (-n) k)
/-- the sign of two letters -/
def coll (p q : Bool) : Int := if p = q then 0 else if p then 1 else -1
/-- the distance of two pairs of letters, told c -/
def lev (p q p' q' : Bool) (c : Int) : Int := if p = p' then (if q = q' then 0 else 1) else if q = q' then 1 else c + 1
/-- where the first False stands, in the flags with a False behind them -/
def runL (bs : List Bool) : Nat := (bs ++ [false]).findIdx (fun b => !b)

/-- the letter of a rest by 16 -/
def apb (r : Int) : UInt8 := UInt8.ofNat (65 + r.toNat)
/-- the bits of a mask, as the ints c of range(5) -/
def chosenOf (m : Nat) : List Int := ((List.range 5).filter fun c => m.testBit c).map fun (c : Nat) => (c : Int)
def sideAt (j : Nat) : Int := if j % 2 = 0 then 1 else -1
def totAt (ns fs cs : List Int) (m : Nat) : Nat → Int
  | 0 => 0
  | j + 1 => totAt ns fs cs m j + sideAt j * ns.getD ((cs.length : Int) - 1 + cs.getD (cs.length - 1 - j) 0).toNat 0 * fs.getD ((m : Int) - 2 ^ (cs.getD (cs.length - 1 - j) 0).toNat).toNat 0
/-- found behind k masks -/
def ldUp (ns : List Int) : Nat → List Int
  | 0 => [1]
  | k + 1 => ldUp ns k ++ [totAt ns (ldUp ns k) (chosenOf (k + 1)) (k + 1) (chosenOf (k + 1)).length]
def leadOf (fs : List Int) : List Int := [fs.getD 1 0, fs.getD 3 0, fs.getD 7 0, fs.getD 15 0, fs.getD 31 0]
def lead (ns : List Int) : List Int := leadOf (ldUp ns 31)

/-- a goal at which the walk stands still -/
def Hold (P : Prop) : Prop := P
theorem hold_in {P : Prop} (h : Hold P) : P := h
theorem hold_out {P : Prop} (h : P) : Hold P := h

def ForEnd (h₀ : Heap) (L I : Addr) (oI : Obj) (J : (Str → Option Value) → List (Addr × Obj) → Prop) (s₁ s₂ : Shared) : Prop :=
  ∃ h' tk m' news', s₂ = { s₁ with heap := h', toks := tk } ∧ Fr h₀ L h' m' ∧ News h₀ L h' ((I, oI) :: news') ∧ (∀ p ∈ news', p.1 ≠ I) ∧ J m' news'
def ForPost (h₀ : Heap) (L I : Addr) (oI : Obj) (J : (Str → Option Value) → List (Addr × Obj) → Prop) (s₁ : Shared) (Q : Flow → Shared → Prop) (f : Flow) (s₂ : Shared) : Prop :=
  match f with
  | .ret v => Q (.ret v) s₂
  | .brk => Q .next s₂
  | _ => ForEnd h₀ L I oI J s₁ s₂
theorem ForEnd.intro {h₀ : Heap} {L I : Addr} {oI : Obj} {J : (Str → Option Value) → List (Addr × Obj) → Prop} {s₁ : Shared} {h' : Heap} {tk : Nat} {m' : Str → Option Value} {all : List (Addr × Obj)} (news' : List (Addr × Obj))
    (F : Fr h₀ L h' m') (N : News h₀ L h' all) (sub : ∀ p ∈ (I, oI) :: news', p ∈ all) (off : ∀ p ∈ news', p.1 ≠ I) (j : J m' news') : ForEnd h₀ L I oI J s₁ { s₁ with heap := h', toks := tk } :=
  ⟨h', tk, m', news', rfl, F, fun p hp => N p (sub p hp), off, j⟩

section
variable {prog : Program} {w : World} {A : Around} {E : Value → Shared → Prop} {s : Shared} {h₀ : Heap} {L : Addr} {env : Env} {target : Expr} {body : List Stmt} {Q : Flow → Shared → Prop}
/-- a for loop by an invariant over the frame's map and the ledger, whatever its target -/
theorem for_W {I : Addr} {fp : List Addr} {n : Nat} {P : Nat → Value → Prop} {St : Nat → Heap → Prop} {m₀ : Str → Option Value} {news₀ : List (Addr × Obj)}
    (S : List (Addr × Obj) → Prop) (Inv : Nat → (Str → Option Value) → List (Addr × Obj) → Prop) (W : Walks prog w A I fp [I] n P St)
    (hIo : ∀ i h, St i h → ∃ o, h.get? I = some o)
    (hSt : ∀ i h h' o nw, St i h → h.get? I = some o → h'.get? I = some o → (∀ b o, h₀.get? b = some o → h'.get? b = some o) → News h₀ L h' nw → S nw → St i h')
    (hIL : L ≠ I) (hI₀ : h₀.get? I = none) (hst : St 0 s.heap) (F : Fr h₀ L s.heap m₀) (N : News h₀ L s.heap news₀) (off : ∀ p ∈ news₀, p.1 ≠ I) (h0 : Inv 0 m₀ news₀)
    (turn : ∀ i v m news h tk oI, i < n → P i v → Inv i m news → Fr h₀ L h m → News h₀ L h ((I, oI) :: news) → (∀ p ∈ news, p.1 ≠ I) →
      wpAny (model prog w) A (assign target env v) (fun _ s₂ => wpAny (model prog w) A (execs body env) (ForPost h₀ L I oI (fun m' news' => S news' ∧ Inv (i + 1) m' news') { s with heap := h, toks := tk } Q) E s₂) E { s with heap := h, toks := tk })
    (done : ∀ m news h tk, Inv n m news → Fr h₀ L h m → News h₀ L h news → Q .next { s with heap := h, toks := tk })
    (hE : PassesOwn (model prog w) A env E) (ht : ∀ v, letOwnedTupleGo target (.ref I) v = pure ()) :
    codeAny (model prog w) A (.forLoop target (.ref I) body [] env) (fun r s' => match r with | .ok f => Q f s' | .error e => cameBackBy (model prog w) A env E e s') s := by
  refine codeAny_forLoop (fun k s' => ∃ i h tk m news, s' = { s with heap := h, toks := tk } ∧ i ≤ n ∧ k = n + 1 - i ∧ St i h ∧ Fr h₀ L h m ∧ News h₀ L h news ∧ (∀ p ∈ news, p.1 ≠ I) ∧ Inv i m news) ?_ (n + 1)
    ⟨0, s.heap, s.toks, m₀, news₀, rfl, Nat.zero_le _, rfl, hst, F, N, off, h0⟩ ht
  rintro k s' ⟨i, h, tk, m, news, rfl, hi, rfl, hst', F', N', off', hInv⟩
  by_cases hlt : i < n
  · refine W.item i _ _ _ hlt hst' fun v h₁ tk₁ hP hst₁ hk₁ => ?_
    obtain ⟨oI, heI⟩ := hIo _ _ hst₁
    have F₁ : Fr h₀ L h₁ m := LCg.fr_but F' hk₁ hIL hI₀
    have N₁ : News h₀ L h₁ news := LCg.news_but N' hk₁ off'
    have N₂ : News h₀ L h₁ ((I, oI) :: news) := fun p hp => by
      rcases List.mem_cons.mp hp with rfl | hp
      · exact ⟨heI, Ne.symm hIL, hI₀⟩
      · exact N₁ p hp
    refine wpAny_passesOwn hE (wpAny_mono (turn i v m news h₁ tk₁ oI hlt hP hInv F₁ N₂ off') (fun _ s₂ h₂ => ?_) fun _ _ e => e)
    refine wpAny_passesOwn hE (wpAny_mono h₂ (fun f s₃ h₃ => ?_) fun _ _ e => e)
    have fin : ForEnd h₀ L I oI (fun m' news' => S news' ∧ Inv (i + 1) m' news') { s with heap := h₁, toks := tk₁ } s₃ →
        ∃ m, m < n + 1 - i ∧ ∃ i h tk m', ∃ news, s₃ = { s with heap := h, toks := tk } ∧ i ≤ n ∧ m = n + 1 - i ∧ St i h ∧ Fr h₀ L h m' ∧ News h₀ L h news ∧ (∀ p ∈ news, p.1 ≠ I) ∧ Inv i m' news := by
      rintro ⟨h', tk', m', news', rfl, F₃, N₃, off₃, hS, hJ⟩
      have N₃' : News h₀ L h' news' := fun p hp => N₃ p (List.mem_cons_of_mem _ hp)
      exact ⟨n + 1 - (i + 1), by omega, i + 1, h', tk', m', news', rfl, hlt, rfl, hSt _ _ _ _ _ hst₁ heI (N₃ (I, oI) List.mem_cons_self).1 F₃.keep N₃' hS, F₃, N₃', off₃, hJ⟩
    cases f with
    | ret v => exact h₃
    | brk => exact h₃
    | next => exact fin h₃
    | cont => exact fin h₃
  · obtain rfl : i = n := Nat.le_antisymm hi (Nat.not_lt.mp hlt)
    refine W.done _ _ _ hst' fun h₁ tk₁ hk₁ => ?_
    refine wpAny_execs_nil ?_
    exact done m news h₁ tk₁ hInv (LCg.fr_but F' hk₁ hIL hI₀) (LCg.news_but N' hk₁ off')

/-- over a range of ones -/
theorem for_range {r : Addr} {a b : Int} {t u v₀ : Tok} {n : Nat} {m₀ : Str → Option Value} {news₀ : List (Addr × Obj)}
    (Inv : Nat → (Str → Option Value) → List (Addr × Obj) → Prop) (hh : A.handled = none) (F : Fr h₀ L s.heap m₀) (N : News h₀ L s.heap news₀) (hr : IsRange s.heap r a b 1 t u v₀) (hsm : Builtin.Range.small a b 1 = true) (hn : Builtin.Range.rangeSize a b 1 = ((n : Nat) : Int))
    (h0 : Inv 0 m₀ news₀)
    (turn : ∀ i t m news h tk oI I, i < n → Inv i m news → Fr h₀ L h m → News h₀ L h ((I, oI) :: news) → (∀ p ∈ news, p.1 ≠ I) →
      wpAny (model prog w) A (assign target env (.int (a + (i : Int)) t)) (fun _ s₂ => wpAny (model prog w) A (execs body env) (ForPost h₀ L I oI (fun m' news' => True ∧ Inv (i + 1) m' news') { s with heap := h, toks := tk } Q) E s₂) E { s with heap := h, toks := tk })
    (done : ∀ m news h tk, Inv n m news → Fr h₀ L h m → News h₀ L h news → Q .next { s with heap := h, toks := tk })
    (hE : PassesOwn (model prog w) A env E) (ht : ∀ I v, letOwnedTupleGo target (.ref I) v = pure ()) :
    wpAny (model prog w) A (pyIter (.ref r)) (fun it s₂ => codeAny (model prog w) A (.forLoop target it body [] env) (fun r s' => match r with | .ok f => Q f s' | .error e => cameBackBy (model prog w) A env E e s') s₂) E s := by
  refine wpAny_pyIter_range hr hsm ?_
  refine for_W (s := { s with heap := s.heap.push _ }) (S := fun _ => True) (m₀ := m₀) (news₀ := news₀) Inv (LCg.range_walks hh a n) (fun i h st => ⟨_, st⟩) LCg.range_st (Nat.ne_of_lt F.ns.lt) (next_is_new F) (by show IsRangeIter _ _ _ _ _; rw [hn]; simpa using Heap.get?_push_size _ rfl)
    (F.keeps fun _ _ e => Heap.get?_push_of_some _ e) (N.grown fun _ _ e => Heap.get?_push_of_some _ e) (fun p hp => Nat.ne_of_lt (Heap.lt_size (N p hp).1)) h0 ?_ (fun m news h tk => done m news h tk) hE (ht _)
  rintro i v m news h tk oI hi ⟨t, rfl⟩ hInv F' N' off
  exact turn i t m news h tk oI _ hi hInv F' N' off

/-- over a list, from behind -/
theorem for_rev {I l : Addr} {vs : List Value} {c : Nat} {m₀ : Str → Option Value} {news₀ : List (Addr × Obj)}
    (Inv : Nat → (Str → Option Value) → List (Addr × Obj) → Prop) (hh : A.handled = none) (F : Fr h₀ L s.heap m₀) (N : News h₀ L s.heap ((I, PySem.revObj l ((vs.length : Int) - 1)) :: news₀)) (hm : (l, listOf (List.toArray vs) c) ∈ news₀) (hlI : l ≠ I) (off : ∀ p ∈ news₀, p.1 ≠ I)
    (h0 : Inv 0 m₀ news₀)
    (turn : ∀ j v m news h tk oI, j < vs.length → vs[vs.length - 1 - j]? = some v → Inv j m news → Fr h₀ L h m → News h₀ L h ((I, oI) :: news) → (∀ p ∈ news, p.1 ≠ I) →
      wpAny (model prog w) A (assign target env v) (fun _ s₂ => wpAny (model prog w) A (execs body env) (ForPost h₀ L I oI (fun m' news' => (l, listOf (List.toArray vs) c) ∈ news' ∧ Inv (j + 1) m' news') { s with heap := h, toks := tk } Q) E s₂) E { s with heap := h, toks := tk })
    (done : ∀ m news h tk, Inv vs.length m news → Fr h₀ L h m → News h₀ L h news → Q .next { s with heap := h, toks := tk })
    (hE : PassesOwn (model prog w) A env E) (ht : ∀ v, letOwnedTupleGo target (.ref I) v = pure ()) :
    wpAny (model prog w) A (pyIter (.ref I)) (fun it s₂ => codeAny (model prog w) A (.forLoop target it body [] env) (fun r s' => match r with | .ok f => Q f s' | .error e => cameBackBy (model prog w) A env E e s') s₂) E s := by
  have NI := N (I, PySem.revObj l ((vs.length : Int) - 1)) List.mem_cons_self
  have Nr : News h₀ L s.heap news₀ := fun p hp => N p (List.mem_cons_of_mem _ hp)
  have Nl := Nr _ hm
  have hit : s.heap.IsRevIter I l ((vs.length : Int) - 1) := ⟨_, NI.1, rfl, rfl⟩
  have hsz : vs.toArray.size = vs.length := by simp
  refine wpAny_pyIter_revIter hit ?_
  have W := Walks.listRev (prog := prog) (w := w) hh I l hlI vs.toArray
  refine for_W (S := fun nw => (l, listOf (List.toArray vs) c) ∈ nw) (m₀ := m₀) (news₀ := news₀) Inv W (fun i h st => ⟨_, st.2.1.choose_spec.1⟩) ?_ (Ne.symm NI.2.1) NI.2.2 ?_ F Nr off h0 ?_ (fun m news h tk hi => done m news h tk (by rw [hsz] at hi; exact hi)) hE ht
  · intro i h h' o nw st e e' k N' hS
    obtain ⟨h1, ⟨o', q, r⟩, h3⟩ := st
    rw [e] at q; cases q
    exact ⟨h1, ⟨o, e', r⟩, ⟨_, (N' _ hS).1, rfl, _, rfl⟩⟩
  · refine ⟨Nat.zero_le _, ?_, ⟨_, Nl.1, rfl, _, rfl⟩⟩
    have e : ((vs.toArray.size : Int) - 1 - ((0 : Nat) : Int)) = (vs.length : Int) - 1 := by simp
    rw [e]; exact hit
  · intro j v m news h tk oI hj hP hInv F' N' off'
    refine turn j v m news h tk oI (by rw [hsz] at hj; exact hj) ?_ hInv F' N' off'
    have hP' : vs.toArray[vs.toArray.size - 1 - j]? = some v := hP
    rw [hsz] at hP'
    simpa using hP'

/-- the same where the ledger stands -/
theorem for_rev1 {I l : Addr} {vs : List Value} {c : Nat} {m₀ : Str → Option Value} {news₀ : List (Addr × Obj)}
    (Inv : Nat → (Str → Option Value) → Prop) (hh : A.handled = none) (F : Fr h₀ L s.heap m₀) (N : News h₀ L s.heap ((I, PySem.revObj l ((vs.length : Int) - 1)) :: news₀)) (hm : (l, listOf (List.toArray vs) c) ∈ news₀) (off : ∀ p ∈ news₀, p.1 ≠ I)
    (h0 : Inv 0 m₀)
    (turn : ∀ j v m h tk oI, j < vs.length → vs[vs.length - 1 - j]? = some v → Inv j m → Fr h₀ L h m → News h₀ L h ((I, oI) :: news₀) → (∀ p ∈ news₀, p.1 ≠ I) →
      wpAny (model prog w) A (assign target env v) (fun _ s₂ => wpAny (model prog w) A (execs body env) (ForPost h₀ L I oI (fun m' news' => news' = news₀ ∧ Inv (j + 1) m') { s with heap := h, toks := tk } Q) E s₂) E { s with heap := h, toks := tk })
    (done : ∀ m h tk, Inv vs.length m → Fr h₀ L h m → News h₀ L h news₀ → Q .next { s with heap := h, toks := tk })
    (hE : PassesOwn (model prog w) A env E) (ht : ∀ v, letOwnedTupleGo target (.ref I) v = pure ()) :
    wpAny (model prog w) A (pyIter (.ref I)) (fun it s₂ => codeAny (model prog w) A (.forLoop target it body [] env) (fun r s' => match r with | .ok f => Q f s' | .error e => cameBackBy (model prog w) A env E e s') s₂) E s := by
  refine for_rev (fun j m news => news = news₀ ∧ Inv j m) hh F N hm (off _ hm) off ⟨rfl, h0⟩ ?_ ?_ hE ht
  · rintro j v m news h tk oI hj hv ⟨rfl, hI⟩ F' N' off'
    refine wpAny_mono (turn j v m h tk oI hj hv hI F' N' off') (fun _ s₂ h₂ => wpAny_mono h₂ (fun f s₃ h₃ => ?_) fun _ _ e => e) fun _ _ e => e
    have fin : ForEnd h₀ L I oI (fun m' news' => news' = news ∧ Inv (j + 1) m') { s with heap := h, toks := tk } s₃ → ForEnd h₀ L I oI (fun m' news' => (l, listOf (List.toArray vs) c) ∈ news' ∧ news' = news ∧ Inv (j + 1) m') { s with heap := h, toks := tk } s₃ := by
      rintro ⟨h', tk', m', news', e, F₃, N₃, off₃, rfl, hJ⟩
      exact ⟨h', tk', m', _, e, F₃, N₃, off₃, hm, rfl, hJ⟩
    cases f with
    | ret v => exact h₃
    | brk => exact h₃
    | next => exact fin h₃
    | cont => exact fin h₃
  · rintro m news h tk ⟨rfl, hI⟩ F' N'
    exact done m h tk hI F' N'

theorem repack1 {g h : Heap} {m : Str → Option Value} {a : Str} {va : Value} (F : Fr g L h m) (h1 : m a = some va) : Fr g L h (fun y => if y = a then some va else m y) := by
  have e : (fun y => if y = a then some va else m y) = m := by
    funext y
    by_cases q : y = a
    · rw [if_pos q, q, h1]
    · rw [if_neg q]
  rw [e]; exact F
end

theorem exI {x y : Int} {t : Tok} (h : x = y) : ∃ t', some (Value.int x t) = some (Value.int y t') := ⟨t, by rw [h]⟩
theorem upd_own {d : Addr} {o o' : Obj} {r r' : List (Addr × Obj)} (U : Upd d o o' r r') : ∀ {own : List (Addr × Obj)}, (∀ p ∈ own, p.1 ≠ d) → Upd d o o' (own ++ r) (own ++ r')
  | [], _ => U
  | p :: own, h => .tail (h p (.head _)) (upd_own U (own := own) fun q hq => h q (.tail _ hq))
theorem ints_snoc {vs : List Value} {ns : List Int} (h : IntsAre vs ns) (n : Int) (t : Tok) : IntsAre (vs ++ [.int n t]) (ns ++ [n]) := IntsAre.append h (.cons n t .nil)

section
variable {prog : Program} {w : World} {A : Around} {h₀ : Heap} {L : Addr} {m : Str → Option Value} {env : Env} {ct elt : Expr} {x : Str} {scope : Scope} {cl : List (Str × Addr)} {s : Shared} {S : List (Addr × Obj) → Prop} {Fin : List Value → List (Addr × Obj) → Prop} {news : List (Addr × Obj)}
/-- [x for x in range(n) if ..]: what passes -/
theorem cf_range {n : Nat} (p : Nat → Bool)
    (turn : ∀ i t I oI C oC D m₂ ys h tk (E' : Value → Shared → Prop), i < n → LCg.NsObj oC m₂ → m₂ x = some (.int (0 + (i : Int)) t) → Fr h₀ L h m → News h₀ L h ((I, oI) :: (C, oC) :: (D, LCg.lst ys) :: news) → LCg.Off3 I C D news → ((@Ne Nat I C) ∧ (@Ne Nat I D) ∧ (@Ne Nat C D)) →
      wpAny (model prog w) A (isTrue ct (compEnvC scope cl C env) (eval ct (compEnvC scope cl C env))) (fun b s' => if b = true then wpAny (model prog w) A (eval elt (compEnvC scope cl C env)) (LCg.CompEnd h₀ L m { s with heap := h, toks := tk } I oI C oC D (LCg.lst ys) S (fun y news' => news' = news ∧ (∃ t, y = .int (0 + (i : Int)) t) ∧ p i = true)) E' s'
        else LCg.CompEnd h₀ L m { s with heap := h, toks := tk } I oI C oC D (LCg.lst ys) S (fun _ news' => news' = news ∧ p i = false) Value.none s') E' { s with heap := h, toks := tk })
    (fin : ∀ ys, IntsAre ys (((List.range n).filter p).map fun (c : Nat) => (c : Int)) → ys.length ≤ n → Fin ys news) :
    LCt.CompRestT prog w A h₀ L m env ct elt x scope cl s S (fun i v => ∃ t, v = .int (0 + (i : Int)) t) Fin n 0 [] news := by
  have key : ∀ (j i : Nat) (ys : List Value), i + j = n → IntsAre ys (((List.range i).filter p).map fun (c : Nat) => (c : Int)) → ys.length ≤ i → LCt.CompRestT prog w A h₀ L m env ct elt x scope cl s S (fun i v => ∃ t, v = .int (0 + (i : Int)) t) Fin j i ys news := by
    intro j
    induction j with
    | zero =>
      intro i ys hi hy hl
      have e : i = n := by omega
      subst e
      exact LCt.CompRestT.zero (fin ys hy hl)
    | succ j ih =>
      intro i ys hi hy hl
      refine LCt.CompRestT.succ ?_
      rintro v I oI C oC D m₂ h tk E' ⟨t, rfl⟩ hC hx F N off ne
      refine wpAny_mono (turn i t I oI C oC D m₂ ys h tk E' (by omega) hC hx F N off ne) (fun b s₂ hq => ?_) fun _ _ e => e
      cases b with
      | true =>
        simp only [if_true] at hq ⊢
        refine wpAny_mono hq (fun y s₃ hr => ?_) fun _ _ e => e
        obtain ⟨h', tk', nw, e, F', N', off', hS, hn, ⟨t', hy'⟩, hp⟩ := hr
        rw [hn] at N' off' hS
        refine ⟨h', tk', news, e, F', N', off', hS, ?_⟩
        rw [hy']
        refine ih (i + 1) _ (by omega) ?_ (by rw [List.length_append]; exact Nat.succ_le_succ hl)
        rw [List.range_succ, List.filter_append, List.map_append]
        have e2 : (List.filter p [i]).map (fun (c : Nat) => (c : Int)) = [0 + (i : Int)] := by simp [hp]
        rw [e2]
        exact ints_snoc hy _ _
      | false =>
        simp only [Bool.false_eq_true, if_false] at hq ⊢
        obtain ⟨h', tk', nw, e, F', N', off', hS, hn, hp⟩ := hq
        rw [hn] at N' off' hS
        refine ⟨h', tk', news, e, F', N', off', hS, ih (i + 1) _ (by omega) ?_ (by omega)⟩
        rw [List.range_succ, List.filter_append, List.map_append]
        have e2 : (List.filter p [i]).map (fun (c : Nat) => (c : Int)) = [] := by simp [hp]
        rw [e2, List.append_nil]
        exact hy
  exact key n 0 [] (by omega) .nil (Nat.le_refl _)
end

section
variable {prog : Program} {w : World} {A : Around} {E : Value → Shared → Prop} {s : Shared} {h₀ : Heap} {env : Env} {body : List Stmt} {Q : Flow → Shared → Prop} {xi xc : Str}
/-- enumerate over a list of the ledger, by an invariant over the frame's map and the ledger -/
theorem for_enum {l : Addr} {vs : List Value} {c : Nat} {m₀ : Str → Option Value} {news₀ : List (Addr × Obj)}
    (Inv : Nat → (Str → Option Value) → List (Addr × Obj) → Prop) (hh : A.handled = none) (F : Fr h₀ env.locals s.heap m₀) (N : News h₀ env.locals s.heap ((l, listOf (List.toArray vs) c) :: news₀)) (off : ∀ p ∈ news₀, p.1 ≠ l)
    (h0 : Inv 0 m₀ news₀)
    (turn : ∀ i v t m news h tk own, vs[i]? = some v → Inv i m news → news.map (·.1) = news₀.map (·.1) → OwnOff own (news₀.map (·.1)) →
      Fr h₀ env.locals h (fun y => if y = xc then some v else if y = xi then some (.int i t) else m y) → News h₀ env.locals h (own ++ news) →
      wpAny (model prog w) A (execs body env) (LoopStep3 h₀ env.locals own news (Inv (i + 1)) { s with heap := h, toks := tk } (fun v s' => Q (.ret v) s') fun s' => Q .next s') E { s with heap := h, toks := tk })
    (done : ∀ m news h tk, Inv vs.length m news → Fr h₀ env.locals h m → News h₀ env.locals h news → Q .next { s with heap := h, toks := tk }) :
    wpAny (model prog w) A (call (.type "enumerate") [.ref l]) (fun xv s₁ => wpAny (model prog w) A (pyIter xv) (fun it s₂ => PairAt3 prog w A h₀ env xi xc body Q E it s₂) E s₁) E s := by
  have Nl := N (l, listOf (List.toArray vs) c) List.mem_cons_self
  have Nr : News h₀ env.locals s.heap news₀ := fun p hp => N p (List.mem_cons_of_mem _ hp)
  have hl : s.heap.IsList l vs.toArray := ⟨_, Nl.1, rfl, _, rfl⟩
  have hlt : l < s.heap.objs.size := Heap.lt_size Nl.1
  have hLlt : env.locals < s.heap.objs.size := F.ns.lt
  refine call_enumerate_list hl fun h' he hit hsz hk => ?_
  refine wpAny_pyIter_enum he ?_
  have fresh : ∀ a, s.heap.objs.size ≤ a → h₀.get? a = none := fun a ha => by
    cases e : h₀.get? a with
    | none => rfl
    | some o => exact absurd (Heap.lt_size (F.keep a o e)) (Nat.not_lt.mpr ha)
  have W := WalksT.enumerate (prog := prog) (w := w) hh (s.heap.objs.size + 1) s.heap.objs.size l (Nat.succ_ne_self _) (Nat.ne_of_lt (Nat.lt_succ_of_lt hlt)) (Nat.ne_of_lt hlt) vs.toArray
  have hvs : vs.toArray.size = vs.length := by simp
  refine ⟨_, _, _, _, _, _, _, (fun i v0 v1 => ∃ t, v0 = .int i t ∧ vs[i]? = some v1), m₀, news₀, Inv, rfl, W, ?_, ?_, ?_, ?_, ⟨⟨_, by simpa using he⟩, hit, hl.at fun o e => hk _ o e⟩, F.keeps hk, Nr.grown hk, h0, ?_, ?_⟩
  · rintro i vals ⟨t, x, hPx, rfl⟩
    exact ⟨_, _, rfl, t, rfl, by simpa using hPx⟩
  · intro hm
    rcases List.mem_cons.mp hm with e | hm
    · exact absurd hLlt (by rw [e]; exact Nat.not_lt.mpr (Nat.le_succ _))
    · rcases List.mem_cons.mp hm with e | hm
      · exact absurd hLlt (by rw [e]; exact Nat.lt_irrefl _)
      · exact Nl.2.1 (List.mem_singleton.mp hm).symm
  · intro b hb
    rcases List.mem_cons.mp hb with rfl | hb
    · exact fresh _ (Nat.le_succ _)
    · rw [List.mem_singleton.mp hb]; exact fresh _ (Nat.le_refl _)
  · intro p hp hb
    have hplt := Heap.lt_size (Nr p hp).1
    rcases List.mem_cons.mp hb with e | hb
    · exact absurd hplt (by rw [e]; exact Nat.not_lt.mpr (Nat.le_succ _))
    · exact absurd hplt (by rw [List.mem_singleton.mp hb]; exact Nat.lt_irrefl _)
  · rintro i v0 v1 m₁ news₁ s₁ own ⟨hh', tk', rfl⟩ _ ⟨t, rfl, hx⟩ hJ ha hown F₁ N₁
    refine turn i v1 t m₁ news₁ hh' tk' own hx hJ ha ?_ F₁ N₁
    intro p hp b hb e
    obtain ⟨q, hq, rfl⟩ := List.mem_map.mp hb
    have hqlt := Heap.lt_size (Nr q hq).1
    rcases List.mem_cons.mp (hown p hp) with h1 | h1
    · exact absurd hqlt (by rw [← e, h1]; exact Nat.not_lt.mpr (Nat.le_succ _))
    · rcases List.mem_cons.mp h1 with h1 | h1
      · exact absurd hqlt (by rw [← e, h1]; exact Nat.lt_irrefl _)
      · exact off q hq (by rw [← e, List.mem_singleton.mp h1])
  · rintro h₁ tk m' news' F' N' _ hJ
    rw [hvs] at hJ
    exact done m' news' h₁ tk hJ F' N'
end

section
variable {prog : Program} {w : World} {A : Around} {E : Value → Shared → Prop} {s : Shared} {h₀ : Heap} {L : Addr} {m : Str → Option Value} {env : Env}

/-- what a source of a comprehension is, whatever it iterates over -/
structure Src (prog : Program) (w : World) (A : Around) (h₀ : Heap) (L : Addr) (m : Str → Option Value) (I : Addr) (fp : List Addr) (n : Nat) (P : Nat → Value → Prop) (St : Nat → Heap → Prop) (S : List (Addr × Obj) → Prop) (news : List (Addr × Obj)) (s₂ : Shared) : Prop where
  W : Walks prog w A I fp [I] n P St
  hsz : n ≤ sizeLine
  hIo : ∀ i h, St i h → ∃ o, h.get? I = some o
  hSt : ∀ i h h' o nw, St i h → h.get? I = some o → h'.get? I = some o → (∀ b o, h₀.get? b = some o → h'.get? b = some o) → News h₀ L h' nw → S nw → St i h'
  hst : St 0 s₂.heap
  hfp : ∀ b ∈ fp, b < s₂.heap.objs.size
  F : Fr h₀ L s₂.heap m
  N : News h₀ L s₂.heap news
  hIL : L ≠ I
  hI₀ : h₀.get? I = none
  off : ∀ p ∈ news, p.1 ≠ I
  hS : S news

def CompItT (prog : Program) (w : World) (A : Around) (h₀ : Heap) (L : Addr) (m : Str → Option Value) (env : Env) (ct elt : Expr) (x : Str) (scope : Scope) (cl : List (Str × Addr)) (Fin : Shared → List Value → List (Addr × Obj) → Prop) (it : Value) (s₂ : Shared) : Prop :=
  ∃ I fp n P St S news, it = .ref I ∧ Src prog w A h₀ L m I fp n P St S news s₂ ∧ LCt.CompRestT prog w A h₀ L m env ct elt x scope cl s₂ S P (Fin s₂) n 0 [] news
def CompIt (prog : Program) (w : World) (A : Around) (h₀ : Heap) (L : Addr) (m : Str → Option Value) (env : Env) (elt : Expr) (x : Str) (scope : Scope) (cl : List (Str × Addr)) (Fin : Shared → List Value → List (Addr × Obj) → Prop) (it : Value) (s₂ : Shared) : Prop :=
  ∃ I fp n P St S news, it = .ref I ∧ Src prog w A h₀ L m I fp n P St S news s₂ ∧ LCg.CompRest prog w A h₀ L m env elt x scope cl s₂ S P (Fin s₂) n 0 [] news

theorem assign_compT {ct elt iter : Expr} {x y : Str} {px py : Pos} {scope : Scope} {cl : List (Str × Addr)} {pos spos : Pos} {Q : Flow → Shared → Prop} (F₀ : Fr h₀ L s.heap m) (hLe : env.locals = L)
    (hsw : swapsWith (.ListComp elt [⟨.Name x px, iter, [ct], 0⟩] scope pos) (some (.Name y py)) spos.line env = pure true)
    (hclos : closureFor scope env = pure cl) (hcell : ∀ z ∈ scope.names, z.2 ≠ .cell) (hkind : scope.kind = .function)
    (hnames : ∀ z ∈ scope.names, z.2 = .local → scope.names.lookup z.1 = some .local) (hx : scope.names.lookup x = some .local)
    (hy : env.kindOf y = some .local) (hp : (env.scope.kind == .class || (env.scope.kind == .module && env.locals != env.globals)) = false)
    (h : wpAny (model prog w) A (eval iter env) (fun xv s₁ => wpAny (model prog w) A (pyIter xv) (CompItT prog w A h₀ L m env ct elt x scope cl (fun s₂ => LCg.FinA h₀ L m s₂ y Q)) E s₁) E s)
    (hs : ∀ x, foldedSetIterable iter env x = pure x := by intro _; rfl) :
    wpAny (model prog w) A (exec (.Assign [.Name y py] (.ListComp elt [⟨.Name x px, iter, [ct], 0⟩] scope pos) spos) env) Q E s := by
  subst hLe
  rw [exec_Assign_Name_used _ _ _ _ hsw]
  refine wpAny_bind (wpAny_standAt (wpAny_bind ?_))
  show wpAny _ A (do let _ ← comprehension (.ListComp elt [⟨.Name x px, iter, [ct], 0⟩] scope pos) scope env _ (newList []) false (eval iter env) (some (assign (.Name y py) env))) _ _ s
  refine wpAny_bind (wpAny_mono (wpAny_comprehension_free (use := some (assign (.Name y py) env)) (Q := fun _ s' => Q .next s') rfl hs hclos hkind hnames
    (wpAny_mono h (fun xv s₁ h₁ => wpAny_mono h₁ (fun it s₂ h₂ => ?_) fun _ _ e => e) fun _ _ e => e)) (fun _ s' hq => wpAny_pure (wpAny_pure hq)) fun _ _ e => e)
  obtain ⟨I, fp, n, P, St, S, news, rfl, src, R⟩ := h₂
  refine LCt.block_T src.W src.hsz src.hIo src.hSt hcell hkind hx src.hst src.hfp src.F src.N src.hIL src.hI₀ src.off src.hS R ?_
  intro D C h' tk m' ys news' F' N' o1 hn hC₀ hD₀ hCL hDL hCD offC fin
  show wpAny _ A (assign (.Name y py) env (.ref D)) _ _ _
  refine wpAny_assign_Name (wpAny_storeName_local hy F'.ns (fun h₂ hn₂ hs₂ => ?_) hp)
  have hL₀ : h₀.get? env.locals = none := Heap.get?_none_of_le F'.above
  have F₂ : Fr h₀ env.locals h₂ (fun z => if z = y then some (.ref D) else m z) := ⟨hn₂, fun b o e => hs₂.extBut b o (fun q => by rw [q, hL₀] at e; cases e) (F'.keep b o e), F'.above⟩
  refine ⟨m', hn.sameBut hs₂ hCL, fun h'' hs'' => fin D h'' _ (F₂.change hs'' hCL hC₀) (fun p hp => ?_) o1⟩
  have z : h₂.get? p.1 = some p.2 := hs₂.extBut _ _ (N' p hp).2.1 (N' p hp).1
  refine ⟨hs''.extBut _ _ ?_ z, (N' p hp).2⟩
  rcases List.mem_cons.mp hp with rfl | hp
  · exact Ne.symm hCD
  · exact offC p hp

theorem assign_comp {elt iter : Expr} {x y : Str} {px py : Pos} {scope : Scope} {cl : List (Str × Addr)} {pos spos : Pos} {Q : Flow → Shared → Prop} (F₀ : Fr h₀ L s.heap m) (hLe : env.locals = L)
    (hsw : swapsWith (.ListComp elt [⟨.Name x px, iter, [], 0⟩] scope pos) (some (.Name y py)) spos.line env = pure true)
    (hclos : closureFor scope env = pure cl) (hcell : ∀ z ∈ scope.names, z.2 ≠ .cell) (hkind : scope.kind = .function)
    (hnames : ∀ z ∈ scope.names, z.2 = .local → scope.names.lookup z.1 = some .local) (hx : scope.names.lookup x = some .local)
    (hy : env.kindOf y = some .local) (hp : (env.scope.kind == .class || (env.scope.kind == .module && env.locals != env.globals)) = false)
    (h : wpAny (model prog w) A (eval iter env) (fun xv s₁ => wpAny (model prog w) A (pyIter xv) (CompIt prog w A h₀ L m env elt x scope cl (fun s₂ => LCg.FinA h₀ L m s₂ y Q)) E s₁) E s)
    (hs : ∀ x, foldedSetIterable iter env x = pure x := by intro _; rfl) :
    wpAny (model prog w) A (exec (.Assign [.Name y py] (.ListComp elt [⟨.Name x px, iter, [], 0⟩] scope pos) spos) env) Q E s := by
  subst hLe
  rw [exec_Assign_Name_used _ _ _ _ hsw]
  refine wpAny_bind (wpAny_standAt (wpAny_bind ?_))
  show wpAny _ A (do let _ ← comprehension (.ListComp elt [⟨.Name x px, iter, [], 0⟩] scope pos) scope env _ (newList []) false (eval iter env) (some (assign (.Name y py) env))) _ _ s
  refine wpAny_bind (wpAny_mono (wpAny_comprehension_free (use := some (assign (.Name y py) env)) (Q := fun _ s' => Q .next s') rfl hs hclos hkind hnames
    (wpAny_mono h (fun xv s₁ h₁ => wpAny_mono h₁ (fun it s₂ h₂ => ?_) fun _ _ e => e) fun _ _ e => e)) (fun _ s' hq => wpAny_pure (wpAny_pure hq)) fun _ _ e => e)
  obtain ⟨I, fp, n, P, St, S, news, rfl, src, R⟩ := h₂
  refine LCg.block_U src.W src.hsz src.hIo src.hSt hcell hkind hx src.hst src.hfp src.F src.N src.hIL src.hI₀ src.off src.hS R ?_
  intro D C h' tk m' ys news' F' N' o1 hn hC₀ hD₀ hCL hDL hCD offC fin
  show wpAny _ A (assign (.Name y py) env (.ref D)) _ _ _
  refine wpAny_assign_Name (wpAny_storeName_local hy F'.ns (fun h₂ hn₂ hs₂ => ?_) hp)
  have hL₀ : h₀.get? env.locals = none := Heap.get?_none_of_le F'.above
  have F₂ : Fr h₀ env.locals h₂ (fun z => if z = y then some (.ref D) else m z) := ⟨hn₂, fun b o e => hs₂.extBut b o (fun q => by rw [q, hL₀] at e; cases e) (F'.keep b o e), F'.above⟩
  refine ⟨m', hn.sameBut hs₂ hCL, fun h'' hs'' => fin D h'' _ (F₂.change hs'' hCL hC₀) (fun p hp => ?_) o1⟩
  have z : h₂.get? p.1 = some p.2 := hs₂.extBut _ _ (N' p hp).2.1 (N' p hp).1
  refine ⟨hs''.extBut _ _ ?_ z, (N' p hp).2⟩
  rcases List.mem_cons.mp hp with rfl | hp
  · exact Ne.symm hCD
  · exact offC p hp

/-- a tuple of the ledger, iterated -/
theorem src_tup {ax : Addr} {its : Array Value} {c : Nat} {news : List (Addr × Obj)} {R : Value → Shared → Prop} (hh : A.handled = none) (F : Fr h₀ L s.heap m) (N : News h₀ L s.heap news)
    (hm : (ax, ({ cls := .type "tuple", data := .seq its c } : Obj)) ∈ news) (hsz : its.size ≤ sizeLine)
    (h : ∀ (I : Addr) (g : Heap) (St : Nat → Heap → Prop), Src prog w A h₀ L m I [I, ax] its.size (fun i v => its[i]? = some v) St (fun nw => (ax, ({ cls := .type "tuple", data := .seq its c } : Obj)) ∈ nw) news { s with heap := g } → R (.ref I) { s with heap := g }) :
    wpAny (model prog w) A (pyIter (.ref ax)) R E s := by
  have ht : s.heap.IsTuple ax its := ⟨_, (N _ hm).1, rfl, _, rfl⟩
  have hlt : ax < s.heap.objs.size := Heap.lt_size (N _ hm).1
  have up : ∀ b o, s.heap.get? b = some o → (s.heap.push { cls := .type "tuple_iterator", data := .fields #[.ref ax, .int 0 0] }).get? b = some o := fun b o e => Heap.get?_push_of_some _ e
  refine wpAny_pyIter_tuple ht ?_
  refine h s.heap.objs.size _ _ ⟨Walks.tuple hh s.heap.objs.size ax (Nat.ne_of_lt hlt) its, hsz, fun i h st => by obtain ⟨o, e, _⟩ := st.1; exact ⟨o, e⟩, ?_, ⟨⟨_, Heap.get?_push_size _ rfl, rfl, rfl⟩, ⟨_, up _ _ (N _ hm).1, rfl, _, rfl⟩⟩, fun b hb => ?_,
    F.keeps up, N.grown up, Nat.ne_of_lt F.ns.lt, next_is_new F, fun p hp => Nat.ne_of_lt (Heap.lt_size (N p hp).1), hm⟩
  · intro i h h' o nw st e e' k N' hS
    obtain ⟨⟨o', q, r⟩, _⟩ := st
    rw [e] at q; cases q
    exact ⟨⟨o, e', r⟩, ⟨_, (N' _ hS).1, rfl, _, rfl⟩⟩
  · show b < (s.heap.push _).objs.size
    rw [Heap.size_push]
    rcases List.mem_cons.mp hb with rfl | hb
    · exact Nat.lt_succ_self _
    · rw [List.mem_singleton.mp hb]; exact Nat.lt_succ_of_lt hlt
end

section
variable {prog : Program} {w : World} {A : Around} {h₀ : Heap} {L : Addr} {m : Str → Option Value} {env : Env} {ct elt : Expr} {x : Str} {scope : Scope} {cl : List (Str × Addr)} {s : Shared} {S : List (Addr × Obj) → Prop} {P : Nat → Value → Prop} {Fin : List Value → List (Addr × Obj) → Prop} {news : List (Addr × Obj)}
/-- a filtered comprehension of which only the length's bound is kept -/
theorem cf_any {n : Nat}
    (turn : ∀ i v I oI C oC D m₂ ys h tk (E' : Value → Shared → Prop), i < n → P i v → LCg.NsObj oC m₂ → m₂ x = some v → Fr h₀ L h m → News h₀ L h ((I, oI) :: (C, oC) :: (D, LCg.lst ys) :: news) → LCg.Off3 I C D news → ((@Ne Nat I C) ∧ (@Ne Nat I D) ∧ (@Ne Nat C D)) →
      wpAny (model prog w) A (isTrue ct (compEnvC scope cl C env) (eval ct (compEnvC scope cl C env))) (fun b s' => if b = true then wpAny (model prog w) A (eval elt (compEnvC scope cl C env)) (LCg.CompEnd h₀ L m { s with heap := h, toks := tk } I oI C oC D (LCg.lst ys) S (fun _ news' => news' = news)) E' s'
        else LCg.CompEnd h₀ L m { s with heap := h, toks := tk } I oI C oC D (LCg.lst ys) S (fun _ news' => news' = news) Value.none s') E' { s with heap := h, toks := tk })
    (fin : ∀ ys : List Value, ys.length ≤ n → Fin ys news) :
    LCt.CompRestT prog w A h₀ L m env ct elt x scope cl s S P Fin n 0 [] news := by
  have key : ∀ (j i : Nat) (ys : List Value), i + j = n → ys.length ≤ i → LCt.CompRestT prog w A h₀ L m env ct elt x scope cl s S P Fin j i ys news := by
    intro j
    induction j with
    | zero =>
      intro i ys hi hl
      exact LCt.CompRestT.zero (fin ys (by omega))
    | succ j ih =>
      intro i ys hi hl
      refine LCt.CompRestT.succ ?_
      intro v I oI C oC D m₂ h tk E' hv hC hx F N off ne
      refine wpAny_mono (turn i v I oI C oC D m₂ ys h tk E' (by omega) hv hC hx F N off ne) (fun b s₂ hq => ?_) fun _ _ e => e
      cases b with
      | true =>
        simp only [if_true] at hq ⊢
        refine wpAny_mono hq (fun y s₃ hr => ?_) fun _ _ e => e
        obtain ⟨h', tk', nw, e, F', N', off', hS, hn⟩ := hr
        rw [hn] at N' off' hS
        exact ⟨h', tk', news, e, F', N', off', hS, ih (i + 1) _ (by omega) (by rw [List.length_append]; exact Nat.succ_le_succ hl)⟩
      | false =>
        simp only [Bool.false_eq_true, if_false] at hq ⊢
        obtain ⟨h', tk', nw, e, F', N', off', hS, hn⟩ := hq
        rw [hn] at N' off' hS
        exact ⟨h', tk', news, e, F', N', off', hS, ih (i + 1) _ (by omega) (by omega)⟩
  exact key n 0 [] (by omega) (Nat.le_refl _)
end
theorem head_addr {g h : Heap} {L a : Addr} {o : Obj} {r : List (Addr × Obj)} (_ : News g L h ((a, o) :: r)) : ∃ D, D = a := ⟨_, rfl⟩
theorem snd_addr {g h : Heap} {L a : Addr} {o : Obj} {p : Addr × Obj} {r : List (Addr × Obj)} (_ : News g L h (p :: (a, o) :: r)) : ∃ D, D = a := ⟨_, rfl⟩

section
variable {prog : Program} {w : World} {A : Around} {E : Value → Shared → Prop} {s : Shared} {h₀ : Heap} {L : Addr} {m : Str → Option Value} {env : Env}

theorem list_comp {elt iter : Expr} {x : Str} {px : Pos} {scope : Scope} {cl : List (Str × Addr)} {pos : Pos} {Q : Value → Shared → Prop} (_ : Fr h₀ L s.heap m)
    (hclos : closureFor scope env = pure cl) (hcell : ∀ z ∈ scope.names, z.2 ≠ .cell) (hkind : scope.kind = .function)
    (hnames : ∀ z ∈ scope.names, z.2 = .local → scope.names.lookup z.1 = some .local) (hx : scope.names.lookup x = some .local)
    (h : wpAny (model prog w) A (eval iter env) (fun xv s₁ => wpAny (model prog w) A (pyIter xv) (CompIt prog w A h₀ L m env elt x scope cl (fun s₂ => LCg.FinE h₀ L m s₂ Q)) E s₁) E s)
    (hs : ∀ x, foldedSetIterable iter env x = pure x := by intro _; rfl) :
    wpAny (model prog w) A (eval (.ListComp elt [⟨.Name x px, iter, [], 0⟩] scope pos) env) Q E s := by
  rw [eval_ListComp]
  refine wpAny_comprehension_free (use := none) rfl hs hclos hkind hnames
    (wpAny_mono h (fun xv s₁ h₁ => wpAny_mono h₁ (fun it s₂ h₂ => ?_) fun _ _ e => e) fun _ _ e => e)
  obtain ⟨I, fp, n, P, St, S, news, rfl, src, R⟩ := h₂
  refine LCg.block_U src.W src.hsz src.hIo src.hSt hcell hkind hx src.hst src.hfp src.F src.N src.hIL src.hI₀ src.off src.hS R ?_
  intro D C h' tk m' ys news' F' N' o1 hn hC₀ hD₀ hCL hDL hCD offC fin
  refine ⟨m', hn, fun h'' hs'' => fin D h'' tk (F'.change hs'' hCL hC₀) (fun p hp => ?_) o1⟩
  refine ⟨hs''.extBut _ _ ?_ (N' p hp).1, (N' p hp).2⟩
  rcases List.mem_cons.mp hp with rfl | hp
  · exact Ne.symm hCD
  · exact offC p hp

theorem list_compT {ct elt iter : Expr} {x : Str} {px : Pos} {scope : Scope} {cl : List (Str × Addr)} {pos : Pos} {Q : Value → Shared → Prop} (_ : Fr h₀ L s.heap m)
    (hclos : closureFor scope env = pure cl) (hcell : ∀ z ∈ scope.names, z.2 ≠ .cell) (hkind : scope.kind = .function)
    (hnames : ∀ z ∈ scope.names, z.2 = .local → scope.names.lookup z.1 = some .local) (hx : scope.names.lookup x = some .local)
    (h : wpAny (model prog w) A (eval iter env) (fun xv s₁ => wpAny (model prog w) A (pyIter xv) (CompItT prog w A h₀ L m env ct elt x scope cl (fun s₂ => LCg.FinE h₀ L m s₂ Q)) E s₁) E s)
    (hs : ∀ x, foldedSetIterable iter env x = pure x := by intro _; rfl) :
    wpAny (model prog w) A (eval (.ListComp elt [⟨.Name x px, iter, [ct], 0⟩] scope pos) env) Q E s := by
  rw [eval_ListComp]
  refine wpAny_comprehension_free (use := none) rfl hs hclos hkind hnames
    (wpAny_mono h (fun xv s₁ h₁ => wpAny_mono h₁ (fun it s₂ h₂ => ?_) fun _ _ e => e) fun _ _ e => e)
  obtain ⟨I, fp, n, P, St, S, news, rfl, src, R⟩ := h₂
  refine LCt.block_T src.W src.hsz src.hIo src.hSt hcell hkind hx src.hst src.hfp src.F src.N src.hIL src.hI₀ src.off src.hS R ?_
  intro D C h' tk m' ys news' F' N' o1 hn hC₀ hD₀ hCL hDL hCD offC fin
  refine ⟨m', hn, fun h'' hs'' => fin D h'' tk (F'.change hs'' hCL hC₀) (fun p hp => ?_) o1⟩
  refine ⟨hs''.extBut _ _ ?_ (N' p hp).1, (N' p hp).2⟩
  rcases List.mem_cons.mp hp with rfl | hp
  · exact Ne.symm hCD
  · exact offC p hp

/-- the end of a turn that leaves the ledger as it was: the item v -/
def MEnd (h₀ : Heap) (L : Addr) (m : Str → Option Value) (s₁ : Shared) (all : List (Addr × Obj)) (d : PyData) (y : Value) (s₂ : Shared) : Prop :=
  ∃ h' tk, s₂ = { s₁ with heap := h', toks := tk } ∧ Fr h₀ L h' m ∧ News h₀ L h' all ∧ Carried y d
theorem MEnd.intro {s₁ : Shared} {all : List (Addr × Obj)} {d : PyData} {y : Value} {h' : Heap} {tk : Nat} (F : Fr h₀ L h' m) (N : News h₀ L h' all) (c : Carried y d) :
    MEnd h₀ L m s₁ all d y { s₁ with heap := h', toks := tk } := ⟨h', tk, rfl, F, N, c⟩

/-- a comprehension that gives the item G i at its turn i -/
theorem comp_map {elt : Expr} {x : Str} {scope : Scope} {cl : List (Str × Addr)} {S : List (Addr × Obj) → Prop} {P : Nat → Value → Prop} {Fin : List Value → List (Addr × Obj) → Prop} {news : List (Addr × Obj)} {n : Nat} (G : Nat → PyData) (hS : S news)
    (turn : ∀ i v I oI C oC D m₂ ys h tk (E' : Value → Shared → Prop), i < n → P i v → LCg.NsObj oC m₂ → m₂ x = some v → Fr h₀ L h m → News h₀ L h ((I, oI) :: (C, oC) :: (D, LCg.lst ys) :: news) → LCg.Off3 I C D news → ((@Ne Nat I C) ∧ (@Ne Nat I D) ∧ (@Ne Nat C D)) →
      wpAny (model prog w) A (eval elt (compEnvC scope cl C env)) (MEnd h₀ L m { s with heap := h, toks := tk } ((I, oI) :: (C, oC) :: (D, LCg.lst ys) :: news) (G i)) E' { s with heap := h, toks := tk })
    (fin : ∀ ys, CarriedAll ys ((List.range n).map G) → Fin ys news) :
    LCg.CompRest prog w A h₀ L m env elt x scope cl s S P Fin n 0 [] news := by
  have key : ∀ (j i : Nat) (ys : List Value), i + j = n → CarriedAll ys ((List.range i).map G) → LCg.CompRest prog w A h₀ L m env elt x scope cl s S P Fin j i ys news := by
    intro j
    induction j with
    | zero =>
      intro i ys hi hy
      have e : i = n := by omega
      subst e
      exact LCg.CompRest.zero (fin ys hy)
    | succ j ih =>
      intro i ys hi hy
      refine LCg.CompRest.succ ?_
      intro v I oI C oC D m₂ h tk E' hv hC hx F N off ne
      refine wpAny_mono (turn i v I oI C oC D m₂ ys h tk E' (by omega) hv hC hx F N off ne) (fun y s₂ hq => ?_) fun _ _ e => e
      obtain ⟨h', tk', rfl, F', N', c⟩ := hq
      refine ⟨h', tk', news, rfl, F', N', off, hS, ih (i + 1) _ (by omega) ?_⟩
      rw [List.range_succ, List.map_append]
      exact CarriedAll.snoc hy c
  exact key n 0 [] (by omega) .nil

section
variable {elt : Expr} {x : Str} {scope : Scope} {cl : List (Str × Addr)} {Fin : Shared → List Value → List (Addr × Obj) → Prop} {news : List (Addr × Obj)}
/-- over a list of the ledger -/
theorem comp_list {ax : Addr} {vs : List Value} {c : Nat} (G : Nat → PyData) (hh : A.handled = none) (F : Fr h₀ L s.heap m) (N : News h₀ L s.heap news) (hm : (ax, listOf (List.toArray vs) c) ∈ news) (hsz : vs.length ≤ sizeLine)
    (turn : ∀ i v I oI C oC D m₂ ys h tk (E' : Value → Shared → Prop), i < vs.length → vs[i]? = some v → LCg.NsObj oC m₂ → m₂ x = some v → Fr h₀ L h m → News h₀ L h ((I, oI) :: (C, oC) :: (D, LCg.lst ys) :: news) → LCg.Off3 I C D news → ((@Ne Nat I C) ∧ (@Ne Nat I D) ∧ (@Ne Nat C D)) →
      wpAny (model prog w) A (eval elt (compEnvC scope cl C env)) (MEnd h₀ L m { s with heap := h, toks := tk } ((I, oI) :: (C, oC) :: (D, LCg.lst ys) :: news) (G i)) E' { s with heap := h, toks := tk })
    (fin : ∀ g ys, CarriedAll ys ((List.range vs.length).map G) → Fin { s with heap := g } ys news) :
    wpAny (model prog w) A (pyIter (.ref ax)) (CompIt prog w A h₀ L m env elt x scope cl Fin) E s := by
  have hl : s.heap.IsList ax vs.toArray := ⟨_, (N _ hm).1, rfl, _, rfl⟩
  have hlt : ax < s.heap.objs.size := Heap.lt_size (N _ hm).1
  have up : ∀ b o, s.heap.get? b = some o → (s.heap.push { cls := .type "list_iterator", data := .fields #[.ref ax, .int 0 0] }).get? b = some o := fun b o e => Heap.get?_push_of_some _ e
  have hz : vs.toArray.size = vs.length := by simp
  refine wpAny_pyIter_list hl ?_
  refine ⟨s.heap.objs.size, _, vs.toArray.size, _, _, fun nw => (ax, listOf (List.toArray vs) c) ∈ nw, news, rfl,
    ⟨Walks.list hh s.heap.objs.size ax (Nat.ne_of_lt hlt) vs.toArray, by rw [hz]; exact hsz, fun i h st => by obtain ⟨o, e, _⟩ := st.1; exact ⟨o, e⟩, ?_, ⟨⟨_, Heap.get?_push_size _ rfl, rfl, rfl⟩, ⟨_, up _ _ (N _ hm).1, rfl, _, rfl⟩⟩, fun b hb => ?_,
      F.keeps up, N.grown up, Nat.ne_of_lt F.ns.lt, next_is_new F, fun p hp => Nat.ne_of_lt (Heap.lt_size (N p hp).1), hm⟩, ?_⟩
  · intro i h h' o nw st e e' k N' hS
    obtain ⟨⟨o', q, r⟩, _⟩ := st
    rw [e] at q; cases q
    exact ⟨⟨o, e', r⟩, ⟨_, (N' _ hS).1, rfl, _, rfl⟩⟩
  · show b < (s.heap.push _).objs.size
    rw [Heap.size_push]
    rcases List.mem_cons.mp hb with rfl | hb
    · exact Nat.lt_succ_self _
    · rw [List.mem_singleton.mp hb]; exact Nat.lt_succ_of_lt hlt
  · refine comp_map G hm ?_ ?_
    · intro i v I oI C oC D m₂ ys h tk E' hi hv hC hx F N off ne
      exact turn i v I oI C oC D m₂ ys h tk E' (by rw [hz] at hi; exact hi) (by simpa using hv) hC hx F N off ne
    · intro ys hy
      rw [hz] at hy
      exact fin _ ys hy
/-- over a range of ones -/
theorem comp_range {r : Addr} {t u v₀ : Tok} {n : Nat} (G : Nat → PyData) (hh : A.handled = none) (F : Fr h₀ L s.heap m) (N : News h₀ L s.heap news) (hr : IsRange s.heap r 0 (n : Int) 1 t u v₀) (hsm : Builtin.Range.small 0 (n : Int) 1 = true) (hn : Builtin.Range.rangeSize 0 (n : Int) 1 = ((n : Nat) : Int)) (hsz : n ≤ sizeLine)
    (turn : ∀ (i : Nat) t I oI C oC D m₂ ys h tk (E' : Value → Shared → Prop), i < n → LCg.NsObj oC m₂ → m₂ x = some (.int (i : Int) t) → Fr h₀ L h m → News h₀ L h ((I, oI) :: (C, oC) :: (D, LCg.lst ys) :: news) → LCg.Off3 I C D news → ((@Ne Nat I C) ∧ (@Ne Nat I D) ∧ (@Ne Nat C D)) →
      wpAny (model prog w) A (eval elt (compEnvC scope cl C env)) (MEnd h₀ L m { s with heap := h, toks := tk } ((I, oI) :: (C, oC) :: (D, LCg.lst ys) :: news) (G i)) E' { s with heap := h, toks := tk })
    (fin : ∀ g ys, CarriedAll ys ((List.range n).map G) → Fin { s with heap := g } ys news) :
    wpAny (model prog w) A (pyIter (.ref r)) (CompIt prog w A h₀ L m env elt x scope cl Fin) E s := by
  refine wpAny_pyIter_range hr hsm ?_
  refine ⟨s.heap.objs.size, _, n, _, _, fun _ => True, news, rfl,
    ⟨LCg.range_walks hh 0 n, hsz, fun i h st => ⟨_, st⟩, LCg.range_st, by show IsRangeIter _ _ _ _ _; rw [hn]; simpa using Heap.get?_push_size _ rfl, fun b hb => ?_,
      F.keeps fun _ _ e => Heap.get?_push_of_some _ e, N.grown fun _ _ e => Heap.get?_push_of_some _ e, Nat.ne_of_lt F.ns.lt, next_is_new F, fun p hp => Nat.ne_of_lt (Heap.lt_size (N p hp).1), trivial⟩, ?_⟩
  · rw [List.mem_singleton.mp hb]
    show s.heap.objs.size < (s.heap.push _).objs.size
    rw [Heap.size_push]; exact Nat.lt_succ_self _
  · refine comp_map G trivial ?_ fun ys hy => fin _ ys hy
    rintro i v I oI C oC D m₂ ys h tk E' hi ⟨t, rfl⟩ hC hx F N off ne
    rw [Int.zero_add] at hx
    exact turn i t I oI C oC D m₂ ys h tk E' hi hC hx F N off ne
/-- over a range of ones, no item passing -/
theorem comp_none {ct : Expr} {r : Addr} {t u v₀ : Tok} {n : Nat} (hh : A.handled = none) (F : Fr h₀ L s.heap m) (N : News h₀ L s.heap news) (hr : IsRange s.heap r 0 (n : Int) 1 t u v₀) (hsm : Builtin.Range.small 0 (n : Int) 1 = true) (hn : Builtin.Range.rangeSize 0 (n : Int) 1 = ((n : Nat) : Int)) (hsz : n ≤ sizeLine)
    (turn : ∀ (i : Nat) t I oI C oC D m₂ ys h tk (E' : Value → Shared → Prop), i < n → LCg.NsObj oC m₂ → m₂ x = some (.int (i : Int) t) → Fr h₀ L h m → News h₀ L h ((I, oI) :: (C, oC) :: (D, LCg.lst ys) :: news) → LCg.Off3 I C D news → ((@Ne Nat I C) ∧ (@Ne Nat I D) ∧ (@Ne Nat C D)) →
      wpAny (model prog w) A (isTrue ct (compEnvC scope cl C env) (eval ct (compEnvC scope cl C env))) (fun b s' => MEnd h₀ L m { s with heap := h, toks := tk } ((I, oI) :: (C, oC) :: (D, LCg.lst ys) :: news) (.bool false) (.bool b) s') E' { s with heap := h, toks := tk })
    (fin : ∀ g, Fin { s with heap := g } [] news) :
    wpAny (model prog w) A (pyIter (.ref r)) (CompItT prog w A h₀ L m env ct elt x scope cl Fin) E s := by
  refine wpAny_pyIter_range hr hsm ?_
  refine ⟨s.heap.objs.size, _, n, _, _, fun _ => True, news, rfl,
    ⟨LCg.range_walks hh 0 n, hsz, fun i h st => ⟨_, st⟩, LCg.range_st, by show IsRangeIter _ _ _ _ _; rw [hn]; simpa using Heap.get?_push_size _ rfl, fun b hb => ?_,
      F.keeps fun _ _ e => Heap.get?_push_of_some _ e, N.grown fun _ _ e => Heap.get?_push_of_some _ e, Nat.ne_of_lt F.ns.lt, next_is_new F, fun p hp => Nat.ne_of_lt (Heap.lt_size (N p hp).1), trivial⟩, ?_⟩
  · rw [List.mem_singleton.mp hb]
    show s.heap.objs.size < (s.heap.push _).objs.size
    rw [Heap.size_push]; exact Nat.lt_succ_self _
  · refine cf_range (fun _ => false) ?_ ?_
    · intro i t I oI C oC D m₂ ys h tk E' hi hC hx F N off ne
      rw [Int.zero_add] at hx
      refine wpAny_mono (turn i t I oI C oC D m₂ ys h tk E' hi hC hx F N off ne) (fun b s₂ hq => ?_) fun _ _ e => e
      obtain ⟨h', tk', rfl, F', N', c⟩ := hq
      cases c
      exact ⟨h', tk', _, rfl, F', N', off, trivial, rfl, rfl⟩
    · intro ys hy _
      have ef : (List.filter (fun _ => false) (List.range n)) = [] := List.filter_eq_nil_iff.mpr fun _ _ => Bool.false_ne_true
      have hy' : IntsAre ys [] := by rw [ef] at hy; exact hy
      cases hy'
      exact fin _
/-- over a text of ASCII -/
theorem comp_str {y : Str} {t : Tok} (G : Nat → PyData) (hh : A.handled = none) (F : Fr h₀ L s.heap m) (N : News h₀ L s.heap news) (hsz : y.cps.size ≤ sizeLine) (hay : y.cps.all (· < 128) = true)
    (turn : ∀ i c u I oI C oC D m₂ ys h tk (E' : Value → Shared → Prop), i < y.cps.size → y.cps[i]? = some c → LCg.NsObj oC m₂ → m₂ x = some (.str ⟨#[c]⟩ u) → Fr h₀ L h m → News h₀ L h ((I, oI) :: (C, oC) :: (D, LCg.lst ys) :: news) → LCg.Off3 I C D news → ((@Ne Nat I C) ∧ (@Ne Nat I D) ∧ (@Ne Nat C D)) →
      wpAny (model prog w) A (eval elt (compEnvC scope cl C env)) (MEnd h₀ L m { s with heap := h, toks := tk } ((I, oI) :: (C, oC) :: (D, LCg.lst ys) :: news) (G i)) E' { s with heap := h, toks := tk })
    (fin : ∀ g ys, CarriedAll ys ((List.range y.cps.size).map G) → Fin { s with heap := g } ys news) :
    wpAny (model prog w) A (pyIter (.str y t)) (CompIt prog w A h₀ L m env elt x scope cl Fin) E s := by
  refine wpAny_pyIter_ascii hay ?_
  refine ⟨s.heap.objs.size, _, y.cps.size, _, fun i h => h.IsStrIter s.heap.objs.size "str_ascii_iterator" y t i, fun _ => True, news, rfl,
    ⟨Walks.strAscii hh _ y t, hsz, fun i h st => by obtain ⟨o, e, _⟩ := st; exact ⟨o, e⟩, ?_, ⟨_, Heap.get?_push_size _ rfl, rfl, rfl⟩, fun b hb => ?_,
      F.keeps fun _ _ e => Heap.get?_push_of_some _ e, N.grown fun _ _ e => Heap.get?_push_of_some _ e, Nat.ne_of_lt F.ns.lt, next_is_new F, fun p hp => Nat.ne_of_lt (Heap.lt_size (N p hp).1), trivial⟩, ?_⟩
  · intro i h h' o nw st e e' k N' hS
    obtain ⟨o', q, r⟩ := st
    rw [e] at q; cases q
    exact ⟨o, e', r⟩
  · rw [List.mem_singleton.mp hb]
    show s.heap.objs.size < (s.heap.push _).objs.size
    rw [Heap.size_push]; exact Nat.lt_succ_self _
  · refine comp_map G trivial ?_ fun ys hy => fin _ ys hy
    rintro i v I oI C oC D m₂ ys h tk E' hi ⟨c, u, hc, rfl⟩ hC hx F N off ne
    exact turn i c u I oI C oC D m₂ ys h tk E' hi hc hC hx F N off ne
/-- over bytes -/
theorem comp_bytes {y : Array UInt8} {t : Tok} (G : Nat → PyData) (hh : A.handled = none) (F : Fr h₀ L s.heap m) (N : News h₀ L s.heap news) (hsz : y.size ≤ sizeLine)
    (turn : ∀ i (c : UInt8) u I oI C oC D m₂ ys h tk (E' : Value → Shared → Prop), i < y.size → y[i]? = some c → LCg.NsObj oC m₂ → m₂ x = some (.int (c.toNat : Int) u) → Fr h₀ L h m → News h₀ L h ((I, oI) :: (C, oC) :: (D, LCg.lst ys) :: news) → LCg.Off3 I C D news → ((@Ne Nat I C) ∧ (@Ne Nat I D) ∧ (@Ne Nat C D)) →
      wpAny (model prog w) A (eval elt (compEnvC scope cl C env)) (MEnd h₀ L m { s with heap := h, toks := tk } ((I, oI) :: (C, oC) :: (D, LCg.lst ys) :: news) (G i)) E' { s with heap := h, toks := tk })
    (fin : ∀ g ys, CarriedAll ys ((List.range y.size).map G) → Fin { s with heap := g } ys news) :
    wpAny (model prog w) A (pyIter (.bytes y t)) (CompIt prog w A h₀ L m env elt x scope cl Fin) E s := by
  refine KBw.pyIter_bytes ?_
  refine ⟨s.heap.objs.size, _, y.size, _, fun i h => KBw.IsBytesIter h s.heap.objs.size y t i, fun _ => True, news, rfl,
    ⟨KBw.walks hh _ y t, hsz, fun i h st => by obtain ⟨o, e, _⟩ := st; exact ⟨o, e⟩, ?_, ⟨_, Heap.get?_push_size _ rfl, rfl, rfl⟩, fun b hb => ?_,
      F.keeps fun _ _ e => Heap.get?_push_of_some _ e, N.grown fun _ _ e => Heap.get?_push_of_some _ e, Nat.ne_of_lt F.ns.lt, next_is_new F, fun p hp => Nat.ne_of_lt (Heap.lt_size (N p hp).1), trivial⟩, ?_⟩
  · intro i h h' o nw st e e' k N' hS
    obtain ⟨o', q, r⟩ := st
    rw [e] at q; cases q
    exact ⟨o, e', r⟩
  · rw [List.mem_singleton.mp hb]
    show s.heap.objs.size < (s.heap.push _).objs.size
    rw [Heap.size_push]; exact Nat.lt_succ_self _
  · refine comp_map G trivial ?_ fun ys hy => fin _ ys hy
    rintro i v I oI C oC D m₂ ys h tk E' hi ⟨c, u, hc, rfl⟩ hC hx F N off ne
    exact turn i c u I oI C oC D m₂ ys h tk E' hi hc hC hx F N off ne
end
end

/-- the entries that a mask keeps -/
def keepL : List Bool → List (Addr × Obj) → List (Addr × Obj)
  | true :: k, p :: r => p :: keepL k r
  | false :: k, _ :: r => keepL k r
  | _, _ => []
theorem keepL_sub : ∀ {k : List Bool} {l : List (Addr × Obj)}, ∀ p ∈ keepL k l, p ∈ l
  | true :: k, q :: r, p, h => by
    rcases List.mem_cons.mp h with rfl | h
    · exact .head _
    · exact .tail _ (keepL_sub p h)
  | false :: k, q :: r, p, h => .tail _ (keepL_sub (k := k) (l := r) p h)
  | [], _, _, h => nomatch h
  | true :: _, [], _, h => nomatch h
  | false :: _, [], _, h => nomatch h
theorem keepN {g h : Heap} {L : Addr} {l : List (Addr × Obj)} (k : List Bool) (N : News g L h l) : News g L h (keepL k l) := fun p hp => N p (keepL_sub p hp)
def flat (d : PyData) : Bool := PyData.canLay0 d && decide (PyData.depth d = 0) && PyData.eqv d d
theorem flat_lay : ∀ {ds : List PyData}, (∀ d ∈ ds, flat d = true) → PyData.canLayAll0 ds = true ∧ PyData.depthAll ds = 0 ∧ PyData.eqvAll ds ds = true
  | [], _ => ⟨by simp [PyData.canLayAll0], by simp [PyData.depthAll], by simp [PyData.eqvAll]⟩
  | d :: r, h => by
    obtain ⟨a, b, c⟩ := flat_lay (ds := r) fun e he => h e (.tail _ he)
    have hd := h d (.head _)
    simp only [flat, Bool.and_eq_true, decide_eq_true_eq] at hd
    exact ⟨by simp [PyData.canLayAll0, hd.1.1, a], by simp [PyData.depthAll, hd.1.2, b], by simp [PyData.eqvAll, hd.2, c]⟩
theorem flat_int (k : Int) : flat (.int k) = true := by simp [flat, PyData.canLay0, PyData.depth, PyData.eqv]
theorem flat_bool (k : Bool) : flat (.bool k) = true := by simp [flat, PyData.canLay0, PyData.depth, PyData.eqv]
theorem flat_str (x : Str) (h : PyData.strOk x = true) : flat (.str x) = true := by simp [flat, PyData.canLay0, PyData.depth, PyData.eqv, h]
theorem flat_map {n : Nat} {G : Nat → PyData} (h : ∀ i, flat (G i) = true) : ∀ d ∈ (List.range n).map G, flat d = true := fun d hd => by
  obtain ⟨i, _, rfl⟩ := List.mem_map.mp hd
  exact h i
theorem mul_small {prog : Program} {w : World} {A : Around} {E : Value → Shared → Prop} {s : Shared} {a b : Int} {t u : Tok} {Q : Value → Shared → Prop} (ha : a.natAbs < 2 ^ 64) (h : Q (.int (a * b) s.toks) { s with toks := s.toks + 1 }) :
    wpAny (model prog w) A (binaryOp .Mult (.int a t) (.int b u)) Q E s := PyProof.Rows.mul_int h (IntMulOk.of_left (PySem.intBits_le_iff.mpr ha))
theorem carriedAll_at : ∀ {ys : List Value} {ds : List PyData}, CarriedAll ys ds → ∀ (i : Nat) (v : Value), ys[i]? = some v → ∃ d, ds[i]? = some d ∧ Carried v d
  | _, _, .cons c _, 0, _, h => by cases h; exact ⟨_, rfl, c⟩
  | _, _, .cons _ r, i + 1, v, h => carriedAll_at r i v h
theorem carried_at {ys : List Value} {n : Nat} {G : Nat → PyData} (h : CarriedAll ys ((List.range n).map G)) {i : Nat} {v : Value} (hv : ys[i]? = some v) : i < n ∧ Carried v (G i) := by
  obtain ⟨d, hd, c⟩ := carriedAll_at h i v hv
  by_cases hi : i < n
  · rw [List.getElem?_map, List.getElem?_range hi] at hd
    cases hd
    exact ⟨hi, c⟩
  · rw [List.getElem?_eq_none (by simpa using hi)] at hd
    exact nomatch hd
section
variable {prog : Program} {w : World} {A : Around} {E : Value → Shared → Prop} {s : Shared} {value slice : Expr} {x y : Str} {t u : Tok} {h₀ : Heap} {L : Addr} {m : Str → Option Value} {news : List (Addr × Obj)} {Q : Value → Shared → Prop}
/-- a letter of a text -/
theorem ts_it {i : Int} (e : Txt.item x i = y) (h1 : 0 ≤ i) (h2 : i < x.length) (hz : x.length ≤ 99)
    (h : Q (.str y s.toks) { s with toks := s.toks + 1 })
    (hs : subscripted slice false (.str x t) (.int i u) = operate [.str x t, .int i u] (getItem (.str x t) (.int i u)) := by with_unfolding_all rfl)
    (ht : ∀ r, letTemporaryGo value (.str x t) r = pure () := by intro _; with_unfolding_all rfl) :
    wpAny (model prog w) A (subscriptTail value slice (.str x t) (.int i u)) Q E s := by
  exact item_str (fitsSsize_of (N := 100) (by omega) (by omega) (by decide)) (by omega) h2 (fun _ => by rw [e]; exact h) hs ht
/-- a piece of a text -/
theorem ts_ss {i j : Int} {ui uj : Tok} (e : Txt.slice x (some i) (some j) = y) (hsz : x.length ≤ 99) (hF : Fr h₀ L s.heap m) (hN : News h₀ L s.heap news) (h : ∀ h' t' k, Fr h₀ L h' m → News h₀ L h' news → Q (.str y t') { s with heap := h', toks := k })
    (hs : subscripted slice false (.str x t) (.ref s.heap.objs.size) = operate [.ref s.heap.objs.size, .str x t] (getItem (.str x t) (.ref s.heap.objs.size)) := by with_unfolding_all rfl)
    (ht : ∀ r, letTemporaryGo value (.str x t) r = pure () := by intro _; with_unfolding_all rfl) :
    wpAny (model prog w) A (subscriptTail value slice (.str x t) (.ref s.heap.objs.size)) Q E { s with heap := s.heap.push { cls := .type "slice", data := .fields #[.int i ui, .int j uj, .none] } } :=
  slice_strN_ss hF hN (fun h' t' k a b => by rw [e]; exact h h' t' k a b) hs ht (by rw [sizeLine_eq]; omega)
theorem ts_min {a b : Int} (hh : A.handled = none) (F : Fr h₀ L s.heap m) (N : News h₀ L s.heap news)
    (h : ∀ h' tk t', Fr h₀ L h' m → News h₀ L h' news → Q (.int (if b < a then b else a) t') { s with heap := h', toks := tk }) : wpAny (model prog w) A (call (.builtin "min") [.int a t, .int b u]) Q E s :=
  min_two_N hh F N fun h' tk F' N' => h h' tk _ F' N'
theorem ts_abs {n N : Int} (e : (n.natAbs : Int) = N) (h : ∀ u tk, Q (.int N u) { s with toks := tk }) : wpAny (model prog w) A (call (.builtin "abs") [.int n t]) Q E s :=
  call_abs_int fun u tk => by
    have : (if n < 0 then -n else n) = N := by split <;> omega
    rw [this]; exact h u tk
end
theorem flat_mapL {n : Nat} {G : Nat → PyData} (h : ∀ i < n, flat (G i) = true) : ∀ d ∈ (List.range n).map G, flat d = true := fun d hd => by
  obtain ⟨i, hi, rfl⟩ := List.mem_map.mp hd
  exact h i (List.mem_range.mp hi)
theorem carried_str {v : Value} {x : Str} (h : Carried v (.str x)) : ∃ t, v = .str x t := by cases h; exact ⟨_, rfl⟩
/-- two lists of one make, asked whether they differ -/
theorem ne_same {prog : Program} {w : World} {A : Around} {E : Value → Shared → Prop} {s : Shared} {h₀ : Heap} {L a b : Addr} {news : List (Addr × Obj)} {xs ys : List Value} {c d : Nat} {ds : List PyData} {Q : Value → Shared → Prop} (N : News h₀ L s.heap news) (ha : (a, listOf (List.toArray xs) c) ∈ news) (hb : (b, listOf (List.toArray ys) d) ∈ news)
    (hx : CarriedAll xs ds) (hy : CarriedAll ys ds) (hf : ∀ d ∈ ds, flat d = true) (hu : A.units + 64 < cLine) (h : Q (.bool false) s) : wpAny (model prog w) A (compareOp .NotEq (.ref a) (.ref b)) Q E s := by
  obtain ⟨f1, f2, f3⟩ := flat_lay hf
  have hs : SeqAt.shaped (.list ds) = true := by
    show (PyData.canLay0 (.list ds) && decide (PyData.depth (.list ds) ≤ 64)) = true
    rw [Bool.and_eq_true]
    exact ⟨by simp only [PyData.canLay0]; exact f1, decide_eq_true (by simp only [PyData.depth, f2]; omega)⟩
  refine ne_dataH (reads_newData ⟨_, (N _ ha).1, rfl, _, rfl⟩ hx) (reads_newData ⟨_, (N _ hb).1, rfl, _, rfl⟩ hy) hs hs hu ?_
  rw [show PyData.eqv (.list ds) (.list ds) = true by simp only [PyData.eqv]; exact f3]
  exact h

/-- is the symbol at i a terminal -/
def bt (rs : List Int) (i : Nat) : Bool := decide (rs.getD i 0 < 256)
def sg (p : Bool) : Int := if p then 1 else -1
def wd (b : Nat → Bool) : Str := ⟨#[lc (b 0), lc (b 1), lc (b 2), lc (b 3), lc (b 4), lc (b 5), lc (b 6), lc (b 7), lc (b 8)]⟩
def sgL (b : Nat → Bool) : List Int := (List.range 9).map fun i => sg (b i)
def fs (b : Nat → Bool) : List Int := lead (sgL b)

theorem wd_at (b : Nat → Bool) : ∀ i < 9, (wd b).cps[i]? = some (lc (b i))
  | 0, _ | 1, _ | 2, _ | 3, _ | 4, _ | 5, _ | 6, _ | 7, _ | 8, _ => rfl
  | n + 9, h => absurd h (by omega)
theorem wd_ascii (b : Nat → Bool) : (wd b).cps.all (· < 128) = true := by
  have h : ∀ p, decide (lc p < 128) = true := by decide
  simp only [wd, List.all_toArray, List.all_cons, List.all_nil, h, Bool.and_true]
theorem swap_w1 (p : Bool) : Txt.swapcase (w1 p) = w1 (!p) := by cases p <;> decide +kernel
theorem wd_slice (b : Nat → Bool) : ∀ n : Nat, n < 4 → Txt.slice (wd b) (some ((n : Nat) : Int)) (some ((n : Int) + 2)) = w2 (b n) (b (n + 1))
  | 0, _ | 1, _ | 2, _ | 3, _ => rfl
  | n + 4, h => absurd h (by omega)
theorem wd_slice2 (b : Nat → Bool) : ∀ n : Nat, n < 4 → Txt.slice (wd b) (some (2 * ((n : Nat) : Int) + 1)) (some (2 * ((n : Nat) : Int) + 3)) = w2 (b (2 * n + 1)) (b (2 * n + 2))
  | 0, _ | 1, _ | 2, _ | 3, _ => rfl
  | n + 4, h => absurd h (by omega)
theorem wd_join (b : Nat → Bool) : Txt.join (Str.ofString "") ((List.range 9).map fun i => w1 (b i)) = wd b := by
  show (⟨_⟩ : Str) = ⟨_⟩
  congr 1
theorem getD_of {rs : List Int} {i : Nat} {k : Int} (h : rs[i]? = some k) : rs.getD i 0 = k := by rw [List.getD_eq_getElem?_getD, h]; rfl
theorem bt_tt {rs : List Int} {i : Nat} {k : Int} (h : rs[i]? = some k) (hk : k < 256) : bt rs i = true := by unfold bt; rw [getD_of h]; exact decide_eq_true hk
theorem bt_ff {rs : List Int} {i : Nat} {k : Int} (h : rs[i]? = some k) (hk : ¬ k < 256) : bt rs i = false := by unfold bt; rw [getD_of h]; exact decide_eq_false hk
theorem car_int {n k : Int} {t : Tok} (h : n = k) : Carried (.int n t) (.int k) := h ▸ .int _ _
theorem car_str {x y : Str} {t : Tok} (h : x = y) : Carried (.str x t) (.str y) := h ▸ .str _ _
theorem car_bool {p q : Bool} (h : p = q) : Carried (.bool p) (.bool q) := h ▸ .bool _
theorem car_x {rs : List Int} {i : Nat} {k : Int} {t : Tok} (hk : rs[i]? = some k) (h : k < 256) : Carried (.str (Str.ofString "x") t) (.str (w1 (bt rs i))) := by
  rw [bt_tt hk h]; exact car_str (by decide +kernel)
theorem car_X {rs : List Int} {i : Nat} {k : Int} {t : Tok} (hk : rs[i]? = some k) (h : ¬ k < 256) : Carried (.str (Str.ofString "X") t) (.str (w1 (bt rs i))) := by
  rw [bt_ff hk h]; exact car_str (by decide +kernel)
theorem car_s {rs : List Int} {i : Nat} {k : Int} {t : Tok} (hk : rs[i]? = some k) (h : k < 256) : Carried (.int 1 t) (.int (sg (bt rs i))) := by
  rw [bt_tt hk h]; exact car_int rfl
theorem car_S {rs : List Int} {i : Nat} {k : Int} {t : Tok} (hk : rs[i]? = some k) (h : ¬ k < 256) : Carried (.int (-1) t) (.int (sg (bt rs i))) := by
  rw [bt_ff hk h]; exact car_int rfl
theorem swap_fit (p : Bool) : Builtin.Str.tooLong (Txt.swapcase (w1 p)).length = false := by cases p <;> decide +kernel
theorem coll_not (p : Bool) : coll p (!p) = sg p := by cases p <;> rfl
theorem wd_letter {b : Nat → Bool} {i : Nat} {c : Nat} (hi : i < (wd b).cps.size) (h : (wd b).cps[i]? = some c) : i < 9 ∧ (⟨#[c]⟩ : Str) = w1 (b i) := by
  have h9 : i < 9 := hi
  rw [wd_at b i h9] at h
  cases h
  exact ⟨h9, rfl⟩
theorem sgL_len (b : Nat → Bool) : (sgL b).length = 9 := rfl
theorem sgL_ones (b : Nat → Bool) : ∀ x ∈ sgL b, x = 1 ∨ x = -1 := by
  intro x hx
  obtain ⟨i, _, rfl⟩ := List.mem_map.mp hx
  unfold sg
  split
  · exact .inl rfl
  · exact .inr rfl
/-- the quotient of the determinant i, by 16 -/
def pt (fl : List Int) (i : Nat) : Int := Int.fmod (Int.fdiv (fl.getD i 0) (2 ^ i)) 16
theorem pt_bound (fl : List Int) : ∀ i < 5, 0 ≤ ((List.range 5).map (pt fl)).getD i 0 ∧ ((List.range 5).map (pt fl)).getD i 0 < 16 := by
  have h : ∀ i, 0 ≤ pt fl i ∧ pt fl i < 16 := fun i => ⟨Int.fmod_nonneg_of_pos _ (by decide), Int.fmod_lt_of_pos _ (by decide)⟩
  intro i hi
  match i, hi with
  | 0, _ => exact h 0
  | 1, _ => exact h 1
  | 2, _ => exact h 2
  | 3, _ => exact h 3
  | 4, _ => exact h 4
/-- the letter of a quotient -/
def ltr (r : Int) : Str := ⟨#[(65 + r).toNat]⟩
theorem cut_16 {P : Int → Prop} (h : ∀ k : Fin 16, P k.val) {r : Int} (h0 : 0 ≤ r) (h1 : r < 16) : P r := by
  have e : r = ((⟨r.toNat, by omega⟩ : Fin 16).val : Int) := by simp; omega
  rw [e]; exact h _
theorem apb_nat {r : Int} (h0 : 0 ≤ r) (h1 : r < 16) : ((apb r).toNat : Int) = 65 + r := cut_16 (P := fun r => ((apb r).toNat : Int) = 65 + r) (by decide +kernel) h0 h1
theorem ltr_item {r : Int} (h0 : 0 ≤ r) (h1 : r < 16) : Txt.item (Str.ofString "ABCDEFGHIJKLMNOP") r = ltr r := cut_16 (P := fun r => Txt.item (Str.ofString "ABCDEFGHIJKLMNOP") r = ltr r) (by decide +kernel) h0 h1
theorem ap_bytes {ps : List Int} (hpb : ∀ i < 5, 0 ≤ ps.getD i 0 ∧ ps.getD i 0 < 16) {i : Nat} {c : UInt8} (hi : i < 5) (h : (#[apb (ps.getD 0 0), apb (ps.getD 1 0), apb (ps.getD 2 0), apb (ps.getD 3 0), apb (ps.getD 4 0)] : Array UInt8)[i]? = some c) : (c.toNat : Int) = 65 + ps.getD i 0 := by
  match i, hi with
  | 0, h5 => cases h; exact apb_nat (hpb 0 h5).1 (hpb 0 h5).2
  | 1, h5 => cases h; exact apb_nat (hpb 1 h5).1 (hpb 1 h5).2
  | 2, h5 => cases h; exact apb_nat (hpb 2 h5).1 (hpb 2 h5).2
  | 3, h5 => cases h; exact apb_nat (hpb 3 h5).1 (hpb 3 h5).2
  | 4, h5 => cases h; exact apb_nat (hpb 4 h5).1 (hpb 4 h5).2
theorem ap_sum {f : Int} {ps : List Int} (hf : f = 1 ∨ f = -1) (hpb : ∀ i < 5, 0 ≤ ps.getD i 0 ∧ ps.getD i 0 < 16) :
    (((f * ((List.range 5).map fun i => ps.getD i 0 * 16 ^ (4 - i)).sum).natAbs : Nat) : Int) = 16 * (16 * (16 * (16 * (16 * 0 + ps.getD 0 0) + ps.getD 1 0) + ps.getD 2 0) + ps.getD 3 0) + ps.getD 4 0 := by
  have h0 := (hpb 0 (by decide)).1
  have h1 := (hpb 1 (by decide)).1
  have h2 := (hpb 2 (by decide)).1
  have h3 := (hpb 3 (by decide)).1
  have h4 := (hpb 4 (by decide)).1
  have e : ((List.range 5).map fun i => ps.getD i 0 * 16 ^ (4 - i)).sum = ps.getD 0 0 * 65536 + (ps.getD 1 0 * 4096 + (ps.getD 2 0 * 256 + (ps.getD 3 0 * 16 + (ps.getD 4 0 * 1 + 0)))) := rfl
  rw [e]
  rcases hf with rfl | rfl <;> omega
/-- is the determinant i odd over its power of two -/
def od (fl : List Int) (i : Nat) : Bool := !(rest (fl.getD i 0) (2 ^ (i + 1)) == 0)
theorem ltr_ok {r : Int} (h0 : 0 ≤ r) (h1 : r < 16) : PyData.strOk (ltr r) = true := cut_16 (P := fun r => PyData.strOk (ltr r) = true) (by decide +kernel) h0 h1
/-- how far the two letters from i on lie from those from 2 i + 1 on, told c -/
def apt (b : Nat → Bool) (c : Int) (i : Nat) : Int := lev (b i) (b (i + 1)) (b (2 * i + 1)) (b (2 * i + 2)) c
/-- is the letter one of the odd ones -/
def inB (x : Str) : Bool := !(Builtin.Str.occurrences (Str.ofString "BDFHJLNP") x 0 (Str.ofString "BDFHJLNP").length 1).isEmpty
theorem inB_ltr {r : Int} (h0 : 0 ≤ r) (h1 : r < 16) : inB (ltr r) = decide (r % 2 = 1) := cut_16 (P := fun r => inB (ltr r) = decide (r % 2 = 1)) (by decide +kernel) h0 h1
theorem wd_it1 (b : Nat → Bool) : ∀ n : Nat, n < 4 → Txt.item (wd b) ((n : Nat) : Int) = w1 (b n)
  | 0, _ | 1, _ | 2, _ | 3, _ => rfl
  | n + 4, h => absurd h (by omega)
theorem wd_it2 (b : Nat → Bool) : ∀ n : Nat, n < 4 → Txt.item (wd b) (2 * ((n : Nat) : Int) + 1) = w1 (b (2 * n + 1))
  | 0, _ | 1, _ | 2, _ | 3, _ => rfl
  | n + 4, h => absurd h (by omega)
theorem wd_it3 (b : Nat → Bool) : ∀ n : Nat, n < 4 → Txt.item (wd b) (((n : Nat) : Int) + 1) = w1 (b (n + 1))
  | 0, _ | 1, _ | 2, _ | 3, _ => rfl
  | n + 4, h => absurd h (by omega)
theorem wd_it4 (b : Nat → Bool) : ∀ n : Nat, n < 4 → Txt.item (wd b) (2 * ((n : Nat) : Int) + 2) = w1 (b (2 * n + 2))
  | 0, _ | 1, _ | 2, _ | 3, _ => rfl
  | n + 4, h => absurd h (by omega)
theorem ts_wd {prog : Program} {w : World} {A : Around} {E : Value → Shared → Prop} {s : Shared} {value slice : Expr} {y : Str} {t u : Tok} {Q : Value → Shared → Prop} {b : Nat → Bool} {i : Int} (e : Txt.item (wd b) i = y) (h1 : 0 ≤ i) (h2 : i < 9)
    (h : Q (.str y s.toks) { s with toks := s.toks + 1 })
    (hs : subscripted slice false (.str (wd b) t) (.int i u) = operate [.str (wd b) t, .int i u] (getItem (.str (wd b) t) (.int i u)) := by with_unfolding_all rfl)
    (ht : ∀ r, letTemporaryGo value (.str (wd b) t) r = pure () := by intro _; with_unfolding_all rfl) :
    wpAny (model prog w) A (subscriptTail value slice (.str (wd b) t) (.int i u)) Q E s :=
  ts_it e h1 h2 (Nat.le_of_ble_eq_true rfl) h hs ht
theorem apt_abs (b : Nat → Bool) (i : Nat) : (((coll (b i) (b (2 * i + 1))).natAbs : Nat) : Int) + (((coll (b (i + 1)) (b (2 * i + 2))).natAbs : Nat) : Int) = apt b 1 i := by
  unfold apt
  generalize b i = p, b (i + 1) = q, b (2 * i + 1) = r, b (2 * i + 2) = s
  revert p q r s
  decide
theorem apt_min (b : Nat → Bool) (i : Nat) : (if 1 < apt b 1 i then 1 else apt b 1 i) = apt b 0 i := by
  unfold apt
  generalize b i = p, b (i + 1) = q, b (2 * i + 1) = r, b (2 * i + 2) = s
  revert p q r s
  decide
/-- the determinants by minors, mask after mask -/
def lead5 (s0 s1 s2 s3 s4 s5 s6 s7 s8 : Int) : List Int :=
  let f0 : Int := 1
  let f1 : Int := 0 + 1 * s0 * f0
  let f2 : Int := 0 + 1 * s1 * f0
  let f3 : Int := 0 + 1 * s2 * f1 + (-1) * s1 * f2
  let f4 : Int := 0 + 1 * s2 * f0
  let f5 : Int := 0 + 1 * s3 * f1 + (-1) * s1 * f4
  let f6 : Int := 0 + 1 * s3 * f2 + (-1) * s2 * f4
  let f7 : Int := 0 + 1 * s4 * f3 + (-1) * s3 * f5 + 1 * s2 * f6
  let f8 : Int := 0 + 1 * s3 * f0
  let f9 : Int := 0 + 1 * s4 * f1 + (-1) * s1 * f8
  let f10 : Int := 0 + 1 * s4 * f2 + (-1) * s2 * f8
  let f11 : Int := 0 + 1 * s5 * f3 + (-1) * s3 * f9 + 1 * s2 * f10
  let f12 : Int := 0 + 1 * s4 * f4 + (-1) * s3 * f8
  let f13 : Int := 0 + 1 * s5 * f5 + (-1) * s4 * f9 + 1 * s2 * f12
  let f14 : Int := 0 + 1 * s5 * f6 + (-1) * s4 * f10 + 1 * s3 * f12
  let f15 : Int := 0 + 1 * s6 * f7 + (-1) * s5 * f11 + 1 * s4 * f13 + (-1) * s3 * f14
  let f16 : Int := 0 + 1 * s4 * f0
  let f17 : Int := 0 + 1 * s5 * f1 + (-1) * s1 * f16
  let f18 : Int := 0 + 1 * s5 * f2 + (-1) * s2 * f16
  let f19 : Int := 0 + 1 * s6 * f3 + (-1) * s3 * f17 + 1 * s2 * f18
  let f20 : Int := 0 + 1 * s5 * f4 + (-1) * s3 * f16
  let f21 : Int := 0 + 1 * s6 * f5 + (-1) * s4 * f17 + 1 * s2 * f20
  let f22 : Int := 0 + 1 * s6 * f6 + (-1) * s4 * f18 + 1 * s3 * f20
  let f23 : Int := 0 + 1 * s7 * f7 + (-1) * s5 * f19 + 1 * s4 * f21 + (-1) * s3 * f22
  let f24 : Int := 0 + 1 * s5 * f8 + (-1) * s4 * f16
  let f25 : Int := 0 + 1 * s6 * f9 + (-1) * s5 * f17 + 1 * s2 * f24
  let f26 : Int := 0 + 1 * s6 * f10 + (-1) * s5 * f18 + 1 * s3 * f24
  let f27 : Int := 0 + 1 * s7 * f11 + (-1) * s6 * f19 + 1 * s4 * f25 + (-1) * s3 * f26
  let f28 : Int := 0 + 1 * s6 * f12 + (-1) * s5 * f20 + 1 * s4 * f24
  let f29 : Int := 0 + 1 * s7 * f13 + (-1) * s6 * f21 + 1 * s5 * f25 + (-1) * s3 * f28
  let f30 : Int := 0 + 1 * s7 * f14 + (-1) * s6 * f22 + 1 * s5 * f26 + (-1) * s4 * f28
  let f31 : Int := 0 + 1 * s8 * f15 + (-1) * s7 * f23 + 1 * s6 * f27 + (-1) * s5 * f29 + 1 * s4 * f30
  [f1, f3, f7, f15, f31]
theorem lead_eq (s0 s1 s2 s3 s4 s5 s6 s7 s8 : Int) : lead [s0, s1, s2, s3, s4, s5, s6, s7, s8] = lead5 s0 s1 s2 s3 s4 s5 s6 s7 s8 := by kernel_rfl
def fl9 (p0 p1 p2 p3 p4 p5 p6 p7 p8 : Bool) : List Int := lead5 (sg p0) (sg p1) (sg p2) (sg p3) (sg p4) (sg p5) (sg p6) (sg p7) (sg p8)
def ap9 (p0 p1 p2 p3 p4 p5 p6 p7 p8 : Bool) : List Bool := [lev p0 p1 p1 p2 1 == 1, lev p1 p2 p3 p4 1 == 1, lev p2 p3 p5 p6 1 == 1, lev p3 p4 p7 p8 1 == 1]
theorem lead_fl (b : Nat → Bool) : lead (sgL b) = fl9 (b 0) (b 1) (b 2) (b 3) (b 4) (b 5) (b 6) (b 7) (b 8) := lead_eq _ _ _ _ _ _ _ _ _
theorem all9 : ∀ p0 p1 p2 p3 p4 p5 p6 p7 p8 : Bool, ((fl9 p0 p1 p2 p3 p4 p5 p6 p7 p8).getD 0 0 = 1 ∨ (fl9 p0 p1 p2 p3 p4 p5 p6 p7 p8).getD 0 0 = -1) ∧ 1 ≤ pt (fl9 p0 p1 p2 p3 p4 p5 p6 p7 p8) 0 ∧
    (∀ i < 5, rest ((fl9 p0 p1 p2 p3 p4 p5 p6 p7 p8).getD i 0) (2 ^ i) = 0) ∧ (∀ i < 5, od (fl9 p0 p1 p2 p3 p4 p5 p6 p7 p8) i = decide (pt (fl9 p0 p1 p2 p3 p4 p5 p6 p7 p8) i % 2 = 1)) ∧
    runL [od (fl9 p0 p1 p2 p3 p4 p5 p6 p7 p8) 0, od (fl9 p0 p1 p2 p3 p4 p5 p6 p7 p8) 1, od (fl9 p0 p1 p2 p3 p4 p5 p6 p7 p8) 2, od (fl9 p0 p1 p2 p3 p4 p5 p6 p7 p8) 3, od (fl9 p0 p1 p2 p3 p4 p5 p6 p7 p8) 4] = 1 + runL (ap9 p0 p1 p2 p3 p4 p5 p6 p7 p8) := by decide +kernel
theorem law0 (b : Nat → Bool) : (lead (sgL b)).getD 0 0 = 1 ∨ (lead (sgL b)).getD 0 0 = -1 := by rw [lead_fl]; exact (all9 (b 0) (b 1) (b 2) (b 3) (b 4) (b 5) (b 6) (b 7) (b 8)).1
/-- the first quotient is not 0 -/
theorem law0p (b : Nat → Bool) : 1 ≤ ((List.range 5).map (pt (lead (sgL b)))).getD 0 0 := by rw [lead_fl]; exact (all9 (b 0) (b 1) (b 2) (b 3) (b 4) (b 5) (b 6) (b 7) (b 8)).2.1
/-- each determinant is a multiple of its power of two -/
theorem law1 (b : Nat → Bool) : ∀ i < 5, rest ((lead (sgL b)).getD i 0) (2 ^ i) = 0 := by rw [lead_fl]; exact (all9 (b 0) (b 1) (b 2) (b 3) (b 4) (b 5) (b 6) (b 7) (b 8)).2.2.1
theorem pt_at (fl : List Int) : ∀ i < 5, ((List.range 5).map (pt fl)).getD i 0 = pt fl i
  | 0, _ | 1, _ | 2, _ | 3, _ | 4, _ => rfl
  | n + 5, h => absurd h (by omega)
/-- odd as the letter of the quotient tells -/
theorem law2 (b : Nat → Bool) : ∀ i < 5, od (lead (sgL b)) i = inB (ltr (((List.range 5).map (pt (lead (sgL b)))).getD i 0)) := by
  intro i hi
  obtain ⟨h0, h1⟩ := pt_bound (lead (sgL b)) i hi
  rw [inB_ltr h0 h1, pt_at _ i hi, lead_fl]
  exact (all9 (b 0) (b 1) (b 2) (b 3) (b 4) (b 5) (b 6) (b 7) (b 8)).2.2.2.1 i hi
/-- the law's end -/
theorem law3 (b : Nat → Bool) : ((runL ((List.range 5).map (od (lead (sgL b)))) : Nat) : Int) = 1 + ((runL ((List.range 4).map fun i => apt b 1 i == 1) : Nat) : Int) := by
  rw [lead_fl]
  have h := (all9 (b 0) (b 1) (b 2) (b 3) (b 4) (b 5) (b 6) (b 7) (b 8)).2.2.2.2
  have h' : ((runL [od (fl9 (b 0) (b 1) (b 2) (b 3) (b 4) (b 5) (b 6) (b 7) (b 8)) 0, od (fl9 (b 0) (b 1) (b 2) (b 3) (b 4) (b 5) (b 6) (b 7) (b 8)) 1, od (fl9 (b 0) (b 1) (b 2) (b 3) (b 4) (b 5) (b 6) (b 7) (b 8)) 2, od (fl9 (b 0) (b 1) (b 2) (b 3) (b 4) (b 5) (b 6) (b 7) (b 8)) 3, od (fl9 (b 0) (b 1) (b 2) (b 3) (b 4) (b 5) (b 6) (b 7) (b 8)) 4] : Nat) : Int) = 1 + ((runL (ap9 (b 0) (b 1) (b 2) (b 3) (b 4) (b 5) (b 6) (b 7) (b 8)) : Nat) : Int) := by rw [h]; omega
  exact h'

section
local macro_rules | `(tactic| walk_at "mine_ret") => `(tactic| ((try dsimp only); (try k_unfold); (try dsimp only)))

theorem con_term (n : Int) (tn : Tok) : Con 2 8 21 [.int n tn] (fun _ => True) (fun _ _ v => v = .bool (decide (n < 256))) := by
  w_top off
  intro w mean mg mb dp un gd cn cs a ccd cl outer A₀ base h₀ L m s Q E B F X T hk hd hu hpre hret
  refine wpAny_call ?_
  refine' enter0 (binds := [(Str.ofString "x", .int n tn)]) B F X T rfl rfl hk ?k6 ?k7 ?k8 ?k9 ?kB ?_ ?c2 ?c3 ?c4 ?c5
  (case k6 => k_is); (case k7 => k_is); (case k8 => ktr_room); (case k9 => exact BindsTo.of_eq rfl); (case c5 => decide); (case kB => exact locs rfl); (case c2 => exact rfl); (case c3 => exact rfl); (case c4 => exact rfl)
  k_whole
  clear B F X T
  intro g' L' h' hG FG' N' B' X' T'
  (try dsimp only); (try k_lift B'); (try k_fold)
  k_steps
  all_goals walk_at "mine_ret"
  all_goals (refine hret _ _ _ (fun b o e => Fr.keep (by assumption) b o (hG b o e)) ?_)
  all_goals exact rfl

theorem con_eof (n : Int) (tn : Tok) : Con 2 8 28 [.int n tn] (fun _ => True) (fun _ _ v => v = .bool (n == 0)) := by
  w_top off
  intro w mean mg mb dp un gd cn cs a ccd cl outer A₀ base h₀ L m s Q E B F X T hk hd hu hpre hret
  refine wpAny_call ?_
  refine' enter0 (binds := [(Str.ofString "x", .int n tn)]) B F X T rfl rfl hk ?k6 ?k7 ?k8 ?k9 ?kB ?_ ?c2 ?c3 ?c4 ?c5
  (case k6 => k_is); (case k7 => k_is); (case k8 => ktr_room); (case k9 => exact BindsTo.of_eq rfl); (case c5 => decide); (case kB => exact locs rfl); (case c2 => exact rfl); (case c3 => exact rfl); (case c4 => exact rfl)
  k_whole
  clear B F X T
  intro g' L' h' hG FG' N' B' X' T'
  (try dsimp only); (try k_lift B'); (try k_fold)
  k_steps
  all_goals walk_at "mine_ret"
  all_goals (refine hret _ _ _ (fun b o e => Fr.keep (by assumption) b o (hG b o e)) ?_)
  all_goals exact rfl

theorem con_rest (n k : Int) (tn tk : Tok) (hk0 : 0 < k) : Con 2 8 73 [.int n tn, .int k tk] (fun _ => True) (fun _ _ v => ∃ t, v = .int (rest n k) t) := by
  w_top off
  intro w mean mg mb dp un gd cn cs a ccd cl outer A₀ base h₀ L m s Q E B F X T hk hd hu hpre hret
  refine wpAny_call ?_
  refine' enter0 (binds := [(Str.ofString "number", .int n tn), (Str.ofString "size", .int k tk)]) B F X T rfl rfl hk ?k6 ?k7 ?k8 ?k9 ?kB ?_ ?c2 ?c3 ?c4 ?c5
  (case k6 => k_is); (case k7 => k_is); (case k8 => ktr_room); (case k9 => exact BindsTo.of_eq rfl); (case c5 => decide); (case kB => exact locs rfl); (case c2 => exact rfl); (case c3 => exact rfl); (case c4 => exact rfl)
  k_whole
  clear B F X T
  intro g' L' h' hG FG' N' B' X' T'
  (try dsimp only); (try k_lift B'); (try k_fold)
  k_steps
  all_goals walk_at "mine_ret"
  all_goals (refine hret _ _ _ (fun b o e => Fr.keep (by assumption) b o (hG b o e)) ?_)
  all_goals first
    | exact ⟨_, congrArg (fun z => Value.int z _) (if_pos (by assumption)).symm⟩
    | exact ⟨_, congrArg (fun z => Value.int z _) (if_neg (by assumption)).symm⟩

theorem con_coll (p q : Bool) (ta tb : Tok) : Con 2 8 42 [.str (w1 p) ta, .str (w1 q) tb] (fun _ => True) (fun _ _ v => ∃ t, v = .int (coll p q) t) := by
  w_top off
  intro w mean mg mb dp un gd cn cs a ccd cl outer A₀ base h₀ L m s Q E B F X T hk hd hu hpre hret
  refine wpAny_call ?_
  refine' enter0 (binds := [(Str.ofString "a", .str (w1 p) ta), (Str.ofString "b", .str (w1 q) tb)]) B F X T rfl rfl hk ?k6 ?k7 ?k8 ?k9 ?kB ?_ ?c2 ?c3 ?c4 ?c5
  (case k6 => k_is); (case k7 => k_is); (case k8 => ktr_room); (case k9 => exact BindsTo.of_eq rfl); (case c5 => decide); (case kB => exact locs rfl); (case c2 => exact rfl); (case c3 => exact rfl); (case c4 => exact rfl)
  k_whole
  clear B F X T
  intro g' L' h' hG FG' N' B' X' T'
  (try dsimp only); (try k_lift B'); (try k_fold)
  k_steps
  all_goals walk_at "mine_ret"
  all_goals (refine hret _ _ _ (fun b o e => Fr.keep (by assumption) b o (hG b o e)) ?_)
  all_goals exact ⟨_, congrArg (fun z => Value.int z _) (by cases p <;> cases q <;> decide +kernel)⟩
end

section
local macro_rules | `(tactic| walk_at "mine_enter") => `(tactic| (
  refine wpAny_call ?_
  refine' enter0 (by assumption) (by assumption) (by assumption) (by assumption) rfl rfl (by assumption) ?k6 ?k7 ?k8 ?k9 ?kB ?_ ?c2 ?c3 ?c4 ?c5
  (case k6 => k_is); (case k7 => k_is); (case k8 => ktr_room); (case k9 => exact BindsTo.of_eq rfl); (case c5 => decide); (case kB => exact locs rfl); (case c2 => exact rfl); (case c3 => exact rfl); (case c4 => exact rfl)
  k_whole))
local macro_rules | `(tactic| walk_at "mine_ret") => `(tactic| ((try dsimp only); (try k_unfold); (try dsimp only)))

theorem eqGives_bool (a b : Bool) : MeetsSeq.EqGives (.bool a) (.bool b) (a == b) := fun prog w _ E _ Q h => PySem.SeqAt.EqAt.bool_bool a b prog w E Q h

def isFalse : Value → Bool
  | .bool b => !b
  | _ => false
theorem bools_get : ∀ {vs : List Value} {bs : List Bool}, LSm.BoolsAre vs bs → vs = bs.map Value.bool
  | _, _, .nil => rfl
  | _, _, .cons b r => by rw [bools_get r]; rfl

section
variable {prog : Program} {w : World} {A : Around} {E : Value → Shared → Prop} {s : Shared} {h₀ : Heap} {L D : Addr} {news : List (Addr × Obj)} {n : Nat}
theorem index_false {bs : List Bool} {its : Array Value} {Q : Value → Shared → Prop} (N : News h₀ L s.heap news) (hm : (D, listOf its n) ∈ news) (e : its.toList = bs.map Value.bool ++ [.bool false]) (hz : bs.length ≤ 5)
    (h : Q (.int (runL bs : Nat) s.toks) { s with toks := s.toks + 1 }) : wpAny (model prog w) A (call (.builtin "list.index") [.ref D, .bool false]) Q E s := by
  have hs : its.size = bs.length + 1 := by rw [← Array.length_toList, e]; simp
  have e' : its = ((bs ++ [false]).map Value.bool).toArray := by
    apply Array.toList_inj.mp
    rw [e]; simp
  have hj : runL bs < (bs ++ [false]).length := List.findIdx_lt_length_of_exists ⟨false, by simp, rfl⟩
  have hj2 : runL bs < its.size := by rw [hs]; simpa using hj
  have get : ∀ i (hi : i < its.size), isFalse its[i] = !(bs ++ [false])[i]'(by rw [hs] at hi; simpa using hi) := by
    intro i hi
    subst e'
    simp only [List.getElem_toArray, List.getElem_map]
    rfl
  refine call_meets PySem.F.slot_list_index ⟨_, (N _ hm).1, rfl⟩ PySem.F.entry_list_index (PySem.F.args_list_index_2 _ _)
    (MeetsSeq.list_index D its n (.bool false) isFalse (fun y hy => ?_) (runL bs) hj2 (by omega) ?_ ?_) ⟨(N _ hm).1, h⟩
  · have : y ∈ its.toList := by simpa using hy
    rw [e'] at this
    obtain ⟨b, _, rfl⟩ := List.mem_map.mp this
    have := eqGives_bool b false
    cases b <;> exact this
  · rw [get _ hj2]
    exact List.findIdx_getElem (p := fun b => !b) (xs := bs ++ [false]) (w := hj)
  · intro i hi hlt
    rw [get i hi]
    have := List.not_of_lt_findIdx (p := fun b => !b) (xs := bs ++ [false]) hlt
    simpa using this
end

local macro_rules | `(tactic| walk_at "binaryOp Add ref ref") => `(tactic| (
  k_here; k_dflt (refine' add_arrays ?k1 ?k2 ?k3 ?k4 ?_ ?kz; (case k1 => k_asm); (case k2 => k_asm); (case k3 => exact Fr.lst (by assumption) (by assumption)); (case k4 => is_list); (case kz => assumption)); intro h' F' N'))
local macro_rules | `(tactic| walk_at "call builtin:list.index") => `(tactic| (
  k_here; k_dflt (refine' index_false ?k1 ?k2 ?k3 ?k4 ?_; (case k1 => k_asm); (case k2 => k_mem); (case k3 => assumption); (case k4 => assumption))))

theorem con_run (l : Addr) (vs : List Value) (bs : List Bool) : Con 2 8 80 [.ref l] (fun h => h.IsList l vs.toArray ∧ LSm.BoolsAre vs bs ∧ bs.length ≤ 5) (fun _ _ v => ∃ t, v = .int (runL bs : Nat) t) := by
  w_top off
  intro w mean mg mb dp un gd cn cs a ccd cl outer A₀ base h₀ L m s Q E B F X T hk hd hu hpre hret
  walk_at "mine_enter"
  clear B F X T
  intro g' L' h' hG FG' N' B' X' T'
  (try dsimp only); (try k_lift B'); (try k_fold)
  obtain ⟨hl, hb, hn⟩ := hpre
  have hl' : g'.IsList l vs.toArray := hl.at fun o e => hG _ o e
  have hv := bools_get hb
  have hz : vs.toArray.size + (#[Value.bool false] : Array Value).size ≤ sizeLine := by rw [sizeLine_eq, hv]; simp; omega
  have he : (vs.toArray.toList ++ (#[Value.bool false] : Array Value).toList).toArray.toList = bs.map Value.bool ++ [.bool false] := by rw [hv]
  k_steps
  all_goals walk_at "mine_ret"
  all_goals (refine hret _ _ _ (fun b o e => Fr.keep (by assumption) b o (hG b o e)) ?_)
  all_goals exact ⟨_, rfl⟩
end

section
local macro_rules | `(tactic| walk_at "mine_enter") => `(tactic| (
  refine wpAny_call ?_
  refine' enter0 (by assumption) (by assumption) (by assumption) (by assumption) rfl rfl (by assumption) ?k6 ?k7 ?k8 ?k9 ?kB ?_ ?c2 ?c3 ?c4 ?c5
  (case k6 => k_is); (case k7 => k_is); (case k8 => ktr_room); (case k9 => exact BindsTo.of_eq rfl); (case c5 => decide); (case kB => exact locs rfl); (case c2 => exact rfl); (case c3 => exact rfl); (case c4 => exact rfl)
  k_whole))
local macro_rules | `(tactic| walk_at "mine_ret") => `(tactic| ((try dsimp only); (try k_unfold); (try dsimp only)))

local macro_rules | `(tactic| walk_at "ite") => `(tactic| first | with_reducible refine ite_tt ?_ | with_reducible refine ite_ff ?_ | refine ite_pos (by decide) ?_ | refine ite_neg (by decide) ?_)
local macro_rules | `(tactic| walk_at "eval Name") => `(tactic| (
  (with_reducible rename Fr _ _ _ _ => kF)
  k_dflt (refine' nameX_L kF ?v ?_ ?a ?b ?hd; (case hd => kernel_rfl); (case a => exact rfl); (case b => kernel_rfl); (case v => exact rfl))))
local macro_rules | `(tactic| walk_at "mine_glob") => `(tactic| (
  (with_reducible rename Fr _ _ _ _ => kF)
  k_dflt (refine' name_K kF ?k1 ?k2 ?k3 ?_ ?hk ?hx ?hd; (case hx => kernel_rfl); (case hk => exact rfl); (case hd => kernel_rfl); (case k1 => k_asm); (case k2 => k_asm); (case k3 => k_is); k_whole)))
local macro_rules | `(tactic| walk_at "mine_blt") => `(tactic| (
  (with_reducible rename Fr _ _ _ _ => kF)
  k_dflt (refine' name_B kF ?k1 ?k2 ?k3 ?k4 ?k5 ?_ ?hk ?hx ?hd; (case hx => kernel_rfl); (case hk => exact rfl); (case hd => kernel_rfl); (case k1 => k_asm); (case k2 => k_asm); (case k3 => k_is); (case k4 => boot_fast); (case k5 => decide); k_whole)))
local macro_rules | `(tactic| walk_at "eval Name") => `(tactic| ((with_reducible show wpAny _ _ (eval (Expr.Name (Str.ofString "_MOVE_COST") _) _) _ _ _); walk_at "mine_glob"))
local macro_rules | `(tactic| walk_at "eval Name") => `(tactic| ((with_reducible show wpAny _ _ (eval (Expr.Name (Str.ofString "_CASE_COST") _) _) _ _ _); walk_at "mine_glob"))
local macro_rules | `(tactic| walk_at "eval Name") => `(tactic| ((with_reducible show wpAny _ _ (eval (Expr.Name (Str.ofString "_MAX_STRING_SIZE") _) _) _ _ _); walk_at "mine_glob"))
local macro_rules | `(tactic| walk_at "eval Name") => `(tactic| ((with_reducible show wpAny _ _ (eval (Expr.Name (Str.ofString "_substitution_cost") _) _) _ _ _); walk_at "mine_glob"))
local macro_rules | `(tactic| walk_at "eval Name") => `(tactic| ((with_reducible show wpAny _ _ (eval (Expr.Name (Str.ofString "len") _) _) _ _ _); walk_at "mine_blt"))
local macro_rules | `(tactic| walk_at "eval Name") => `(tactic| ((with_reducible show wpAny _ _ (eval (Expr.Name (Str.ofString "range") _) _) _ _ _); walk_at "mine_blt"))
local macro_rules | `(tactic| walk_at "eval Name") => `(tactic| ((with_reducible show wpAny _ _ (eval (Expr.Name (Str.ofString "list") _) _) _ _ _); walk_at "mine_blt"))
local macro_rules | `(tactic| walk_at "eval Name") => `(tactic| ((with_reducible show wpAny _ _ (eval (Expr.Name (Str.ofString "min") _) _) _ _ _); walk_at "mine_blt"))
local macro_rules | `(tactic| walk_at "exec While BoolOp") => `(tactic| (k_here; k_dflt (refine whl_start 100 ?_)))

local macro_rules | `(tactic| walk_at "subscriptTail Name Slice str ref") => `(tactic| (
  (with_reducible rename Fr _ _ _ _ => F'); (with_reducible rename News _ _ _ _ => N');
  first
  | ((with_reducible show wpAny _ _ (subscriptTail _ (Expr.Slice (some _) none none _) _ _) _ _ _); (refine' tl_sn (s := ⟨_, _, _, _, _⟩) ?e ?z F' N' ?_ ?hs ?ht; (case e => first | (with_reducible exact sl2_a' _ _ (by decide)) | (with_reducible exact sl2_b' _ _ (by decide)) | (with_reducible exact sl2_c' _ _ (by decide)) | (with_reducible exact sl1_a' _ (by decide)) | (with_reducible exact sl1_b' _ (by decide))); (case z => first | (with_reducible exact le_w2 _ _) | (with_reducible exact le_w1 _) | (with_reducible exact le_w0)); (case hs => with_unfolding_all rfl); (case ht => intro _; with_unfolding_all rfl)))
  | ((with_reducible show wpAny _ _ (subscriptTail _ (Expr.Slice none (some _) none _) _ _) _ _ (Shared.mk (Heap.push _ (Obj.mk _ _ (Data.fields #[Value.none, Value.none, Value.none]) _)) _ _ _ _)); (refine' tl_nn (s := ⟨_, _, _, _, _⟩) ?e ?z F' N' ?_ ?hs ?ht; (case e => first | (with_reducible exact sl2_d _ _) | (with_reducible exact sl1_d _)); (case z => first | (with_reducible exact le_w2 _ _) | (with_reducible exact le_w1 _) | (with_reducible exact le_w0)); (case hs => with_unfolding_all rfl); (case ht => intro _; with_unfolding_all rfl)))
  | ((with_reducible show wpAny _ _ (subscriptTail _ (Expr.Slice none (some _) none _) _ _) _ _ (Shared.mk (Heap.push _ (Obj.mk _ _ (Data.fields #[Value.none, Value.int _ _, Value.none]) _)) _ _ _ _)); (refine' tl_ns (s := ⟨_, _, _, _, _⟩) ?e ?z F' N' ?_ ?hs ?ht; (case e => first | (with_reducible exact sl2_e' _ _ (by decide)) | (with_reducible exact sl2_f' _ _ (by decide)) | (with_reducible exact sl1_e' _ (by decide))); (case z => first | (with_reducible exact le_w2 _ _) | (with_reducible exact le_w1 _) | (with_reducible exact le_w0)); (case hs => with_unfolding_all rfl); (case ht => intro _; with_unfolding_all rfl)))
  intro _ _ _ _ _; (try dsimp only)))
local macro_rules | `(tactic| walk_at "subscriptTail Name Name str int") => `(tactic| walk_at "mine_item")
local macro_rules | `(tactic| walk_at "subscriptTail Name BinOp str int") => `(tactic| walk_at "mine_item")
local macro_rules | `(tactic| walk_at "mine_item") => `(tactic| (
  refine' tl_it ?e ?r ?a ?b ?_; (case e => first | (with_reducible exact it2_a' _ _ (by decide)) | (with_reducible exact it2_b' _ _ (by decide)) | (with_reducible exact it2_c' _ _ (by decide)) | (with_reducible exact it2_d' _ _ (by decide)) | (with_reducible exact it1_a' _ (by decide)) | (with_reducible exact it1_c' _ (by decide))); (case r => decide); (case a => exact of_decide_eq_true rfl); (case b => exact of_decide_eq_true rfl); (try dsimp only)))
local macro_rules | `(tactic| walk_at "compareOp Eq str str") => `(tactic| (
  refine' tl_eq ?e ?_; (case e => first | (with_reducible exact eq_w1s _) | (with_reducible exact eq_w1n _) | (with_reducible exact eq_w1n' _) | (with_reducible exact eq_w2_a _ _) | (with_reducible exact eq_w2_b _ _) | (with_reducible exact eq_w2_c _ _) | (with_reducible exact eq_w2_d _)); (try dsimp only)))
local macro_rules | `(tactic| walk_at "truthy str") => `(tactic| (
  refine' tl_tr ?e ?z ?_; (case e => first | (with_reducible exact tr_w2 _ _) | (with_reducible exact tr_w1 _) | (with_reducible exact tr_w0)); (case z => first | (with_reducible exact le_w2 _ _) | (with_reducible exact le_w1 _) | (with_reducible exact le_w0)); (try dsimp only)))
local macro_rules | `(tactic| walk_at "call builtin:len") => `(tactic| (
  (with_reducible show wpAny _ _ (call (Value.builtin "len") [Value.str _ _]) _ _ _);
  refine' tl_len ?e ?z ?_; (case e => first | (with_reducible exact ln_w2 _ _) | (with_reducible exact ln_w1 _) | (with_reducible exact ln_w0)); (case z => decide); (try dsimp only)))
local macro_rules | `(tactic| walk_at "call builtin:str.lower") => `(tactic| (
  (refine KXw.lower (lo_w1 _) (lo_fit _) ?_); intro _ _; (try dsimp only)))

local macro_rules | `(tactic| walk_at "storeName") => `(tactic| dsimp only)
local macro_rules | `(tactic| walk_at "evalPart") => `(tactic| dsimp only)
local macro_rules | `(tactic| walk_at "evalPart some") => `(tactic| dsimp only)
local macro_rules | `(tactic| walk_at "evalPart none") => `(tactic| dsimp only)
local macro_rules | `(tactic| walk_at "subscriptTail") => `(tactic| dsimp only)
local macro_rules | `(tactic| walk_at "subscriptTail Name Slice str ref") => `(tactic| dsimp only)

local macro_rules | `(tactic| walk_at "call type:list") => `(tactic| (
  (with_reducible show wpAny _ _ (call (Value.type "list") [Value.ref _]) _ _ _);
  (rename IsRange _ _ _ _ _ _ _ _ => rgX);
  first
  | k_dflt (refine' list_r1 ?k1 ?k2 ?k3 rgX ?_; (case k1 => exact rfl); (case k2 => k_asm); (case k3 => k_asm); intro h' tk D c t₀ F' N' l1)
  | k_dflt (refine' list_r2 ?k1 ?k2 ?k3 rgX ?_; (case k1 => exact rfl); (case k2 => k_asm); (case k3 => k_asm); intro h' tk D c t₀ t₁ F' N' l1);
  (try k_lt l1); (try k_sweep); (try dsimp only)))

local macro_rules | `(tactic| walk_at "subscriptTail Name Name ref int") => `(tactic| (
  k_dflt (refine' item_listL ?l ?a ?b ?x ?_ ?hs ?hg; (case l => is_list); (case a => decide); (case b => decide); (case x => exact rfl); (case hs => with_unfolding_all rfl); (case hg => intro _; with_unfolding_all rfl)); (try dsimp only)))
local macro_rules | `(tactic| walk_at "call builtin:min") => `(tactic| (
  (with_reducible show wpAny _ _ (call (Value.builtin "min") [Value.int _ _, Value.int _ _]) _ _ _);
  first
  | k_dflt (refine' mn_r ?h ?k1 ?k2 ?e ?_; (case h => exact rfl); (case e => decide); (case k1 => k_asm); (case k2 => k_asm))
  | k_dflt (refine' mn_l ?h ?k1 ?k2 ?e ?_; (case h => exact rfl); (case e => decide); (case k1 => k_asm); (case k2 => k_asm));
  intro h' tk F' N'; (try dsimp only)))

theorem con_sub_s (p : Bool) (ta tb : Tok) : Con 2 8 49 [.str (w1 p) ta, .str (w1 p) tb] (fun _ => True) (fun _ _ v => ∃ t, v = .int 0 t) := by
  w_top off
  intro w mean mg mb dp un gd cn cs a ccd cl outer A₀ base h₀ L m s Q E B F X T hk hd hu hpre hret
  refine wpAny_call ?_
  refine' enter0 (binds := [(Str.ofString "ch_a", .str (w1 p) ta), (Str.ofString "ch_b", .str (w1 p) tb)]) B F X T rfl rfl hk ?k6 ?k7 ?k8 ?k9 ?kB ?_ ?c2 ?c3 ?c4 ?c5
  (case k6 => k_is); (case k7 => k_is); (case k8 => ktr_room); (case k9 => exact BindsTo.of_eq rfl); (case c5 => decide); (case kB => exact locs rfl); (case c2 => exact rfl); (case c3 => exact rfl); (case c4 => exact rfl)
  k_whole
  clear B F X T
  intro g' L' h' hG FG' N' B' X' T'
  (try dsimp only); (try k_lift B'); (try k_fold)
  k_steps
  all_goals walk_at "mine_ret"
  all_goals (refine hret _ _ _ (fun b o e => Fr.keep (by assumption) b o (hG b o e)) ?_)
  all_goals exact ⟨_, rfl⟩
theorem con_sub_n (p : Bool) (ta tb : Tok) : Con 2 8 49 [.str (w1 p) ta, .str (w1 (!p)) tb] (fun _ => True) (fun _ _ v => ∃ t, v = .int 1 t) := by
  w_top off
  intro w mean mg mb dp un gd cn cs a ccd cl outer A₀ base h₀ L m s Q E B F X T hk hd hu hpre hret
  refine wpAny_call ?_
  refine' enter0 (binds := [(Str.ofString "ch_a", .str (w1 p) ta), (Str.ofString "ch_b", .str (w1 (!p)) tb)]) B F X T rfl rfl hk ?k6 ?k7 ?k8 ?k9 ?kB ?_ ?c2 ?c3 ?c4 ?c5
  (case k6 => k_is); (case k7 => k_is); (case k8 => ktr_room); (case k9 => exact BindsTo.of_eq rfl); (case c5 => decide); (case kB => exact locs rfl); (case c2 => exact rfl); (case c3 => exact rfl); (case c4 => exact rfl)
  k_whole
  clear B F X T
  intro g' L' h' hG FG' N' B' X' T'
  (try dsimp only); (try k_lift B'); (try k_fold)
  k_steps
  all_goals walk_at "mine_ret"
  all_goals (refine hret _ _ _ (fun b o e => Fr.keep (by assumption) b o (hG b o e)) ?_)
  all_goals exact ⟨_, rfl⟩
theorem con_sub_n' (p : Bool) (ta tb : Tok) : Con 2 8 49 [.str (w1 (!p)) ta, .str (w1 p) tb] (fun _ => True) (fun _ _ v => ∃ t, v = .int 1 t) := by
  have := con_sub_n (!p) ta tb
  rwa [Bool.not_not] at this

local macro_rules | `(tactic| walk_at "call ref") => `(tactic| (
  (with_reducible show wpAny _ _ (call (Value.ref 49) [Value.str _ _, Value.str _ _]) _ _ _);
  first
  | k_dflt (refine' Con.use (con_sub_s _ _ _) ?k1 ?k2 ?k3 ?k4 rfl ?kd ?ku trivial ?_; (case k1 => k_asm); (case k2 => k_asm); (case k3 => k_asm); (case k4 => k_asm); (case kd => ktr_room); (case ku => ktr_units))
  | k_dflt (refine' Con.use (con_sub_n _ _ _) ?k1 ?k2 ?k3 ?k4 rfl ?kd ?ku trivial ?_; (case k1 => k_asm); (case k2 => k_asm); (case k3 => k_asm); (case k4 => k_asm); (case kd => ktr_room); (case ku => ktr_units))
  | k_dflt (refine' Con.use (con_sub_n' _ _ _) ?k1 ?k2 ?k3 ?k4 rfl ?kd ?ku trivial ?_; (case k1 => k_asm); (case k2 => k_asm); (case k3 => k_asm); (case k4 => k_asm); (case kd => ktr_room); (case ku => ktr_units));
  intro v9 h9 tk9 st9 ⟨t9, hv9⟩; subst hv9; (have F9 := Fr.keeps (by assumption) st9); (have N9 := News.grown (by assumption) st9); clear st9; (try dsimp only); (try k_fold)))

theorem lev_b (p q : Bool) (c : Int) (hc0 : 0 ≤ c) (hc1 : c ≤ 1) (ta tb tc : Tok) : Con 8 64 56 [.str (w2 p q) ta, .str (w2 p (!q)) tb, .int c tc] (fun _ => True) (fun _ _ v => ∃ t, v = .int (1) t) := by
  w_top off
  intro w mean mg mb dp un gd cn cs a ccd cl outer A₀ base h₀ L m s Q E B F X T hk hd hu hpre hret
  refine wpAny_call ?_
  refine' enter0 (binds := [(Str.ofString "a", .str (w2 p q) ta), (Str.ofString "b", .str (w2 p (!q)) tb), (Str.ofString "max_cost", .int c tc)]) B F X T rfl rfl hk ?k6 ?k7 ?k8 ?k9 ?kB ?_ ?c2 ?c3 ?c4 ?c5
  (case k6 => k_is); (case k7 => k_is); (case k8 => ktr_room); (case k9 => exact BindsTo.of_eq rfl); (case c5 => decide); (case kB => exact locs rfl); (case c2 => exact rfl); (case c3 => exact rfl); (case c4 => exact rfl)
  k_whole
  clear B F X T
  intro g' L' h' hG FG' N' B' X' T'
  (try dsimp only); (try k_lift B'); (try k_fold)
  k_steps
  all_goals walk_at "mine_ret"
  all_goals (refine hret _ _ _ (fun b o e => Fr.keep (by assumption) b o (hG b o e)) ?_)
  all_goals (refine ⟨_, congrArg (fun z => Value.int z _) ?_⟩)
  all_goals first | rfl | omega | (exfalso; (rename (¬ c < _) => hq); exact fin3 hq hc1 (by decide +kernel))

theorem lev_c (p q : Bool) (c : Int) (hc0 : 0 ≤ c) (hc1 : c ≤ 1) (ta tb tc : Tok) : Con 8 64 56 [.str (w2 p q) ta, .str (w2 (!p) q) tb, .int c tc] (fun _ => True) (fun _ _ v => ∃ t, v = .int (1) t) := by
  w_top off
  intro w mean mg mb dp un gd cn cs a ccd cl outer A₀ base h₀ L m s Q E B F X T hk hd hu hpre hret
  refine wpAny_call ?_
  refine' enter0 (binds := [(Str.ofString "a", .str (w2 p q) ta), (Str.ofString "b", .str (w2 (!p) q) tb), (Str.ofString "max_cost", .int c tc)]) B F X T rfl rfl hk ?k6 ?k7 ?k8 ?k9 ?kB ?_ ?c2 ?c3 ?c4 ?c5
  (case k6 => k_is); (case k7 => k_is); (case k8 => ktr_room); (case k9 => exact BindsTo.of_eq rfl); (case c5 => decide); (case kB => exact locs rfl); (case c2 => exact rfl); (case c3 => exact rfl); (case c4 => exact rfl)
  k_whole
  clear B F X T
  intro g' L' h' hG FG' N' B' X' T'
  (try dsimp only); (try k_lift B'); (try k_fold)
  k_steps
  all_goals walk_at "mine_ret"
  all_goals (refine hret _ _ _ (fun b o e => Fr.keep (by assumption) b o (hG b o e)) ?_)
  all_goals (refine ⟨_, congrArg (fun z => Value.int z _) ?_⟩)
  all_goals first | rfl | omega | (exfalso; (rename (¬ c < _) => hq); exact fin3 hq hc1 (by decide +kernel))

theorem lev_d (p : Bool) (c : Int) (hc0 : 0 ≤ c) (hc1 : c ≤ 1) (ta tb tc : Tok) : Con 8 64 56 [.str (w2 p p) ta, .str (w2 (!p) (!p)) tb, .int c tc] (fun _ => True) (fun _ _ v => ∃ t, v = .int (c + 1) t) := by
  w_top off
  intro w mean mg mb dp un gd cn cs a ccd cl outer A₀ base h₀ L m s Q E B F X T hk hd hu hpre hret
  refine wpAny_call ?_
  refine' enter0 (binds := [(Str.ofString "a", .str (w2 p p) ta), (Str.ofString "b", .str (w2 (!p) (!p)) tb), (Str.ofString "max_cost", .int c tc)]) B F X T rfl rfl hk ?k6 ?k7 ?k8 ?k9 ?kB ?_ ?c2 ?c3 ?c4 ?c5
  (case k6 => k_is); (case k7 => k_is); (case k8 => ktr_room); (case k9 => exact BindsTo.of_eq rfl); (case c5 => decide); (case kB => exact locs rfl); (case c2 => exact rfl); (case c3 => exact rfl); (case c4 => exact rfl)
  k_whole
  clear B F X T
  intro g' L' h' hG FG' N' B' X' T'
  (try dsimp only); (try k_lift B'); (try k_fold)
  k_steps
  all_goals walk_at "mine_ret"
  all_goals (refine hret _ _ _ (fun b o e => Fr.keep (by assumption) b o (hG b o e)) ?_)
  all_goals (refine ⟨_, congrArg (fun z => Value.int z _) ?_⟩)
  all_goals first | rfl | omega | (exfalso; (rename (¬ c < _) => hq); exact fin3 hq hc1 (by decide +kernel))

theorem lev_e (p : Bool) (c : Int) (hc0 : 0 ≤ c) (hc1 : c ≤ 1) (ta tb tc : Tok) : Con 8 64 56 [.str (w2 p (!p)) ta, .str (w2 (!p) p) tb, .int c tc] (fun _ => True) (fun _ _ v => ∃ t, v = .int (c + 1) t) := by
  w_top off
  intro w mean mg mb dp un gd cn cs a ccd cl outer A₀ base h₀ L m s Q E B F X T hk hd hu hpre hret
  refine wpAny_call ?_
  refine' enter0 (binds := [(Str.ofString "a", .str (w2 p (!p)) ta), (Str.ofString "b", .str (w2 (!p) p) tb), (Str.ofString "max_cost", .int c tc)]) B F X T rfl rfl hk ?k6 ?k7 ?k8 ?k9 ?kB ?_ ?c2 ?c3 ?c4 ?c5
  (case k6 => k_is); (case k7 => k_is); (case k8 => ktr_room); (case k9 => exact BindsTo.of_eq rfl); (case c5 => decide); (case kB => exact locs rfl); (case c2 => exact rfl); (case c3 => exact rfl); (case c4 => exact rfl)
  k_whole
  clear B F X T
  intro g' L' h' hG FG' N' B' X' T'
  (try dsimp only); (try k_lift B'); (try k_fold)
  k_steps
  all_goals walk_at "mine_ret"
  all_goals (refine hret _ _ _ (fun b o e => Fr.keep (by assumption) b o (hG b o e)) ?_)
  all_goals (refine ⟨_, congrArg (fun z => Value.int z _) ?_⟩)
  all_goals first | rfl | omega | (exfalso; (rename (¬ c < _) => hq); exact fin3 hq hc1 (by decide +kernel))

local macro_rules | `(tactic| walk_at "compareOp Eq str str") => `(tactic| (
  refine' tl_eq ?e ?_; (case e => first | exact beq_self_eq_true _ | (with_reducible exact eq_w1s _) | (with_reducible exact eq_w1n _) | (with_reducible exact eq_w1n' _) | (with_reducible exact eq_w2_a _ _) | (with_reducible exact eq_w2_b _ _) | (with_reducible exact eq_w2_c _ _) | (with_reducible exact eq_w2_d _)); (try dsimp only)))
theorem lev_a (x : Str) (c : Int) (hc0 : 0 ≤ c) (hc1 : c ≤ 1) (ta tb tc : Tok) : Con 8 64 56 [.str (x) ta, .str (x) tb, .int c tc] (fun _ => True) (fun _ _ v => ∃ t, v = .int (0) t) := by
  w_top off
  intro w mean mg mb dp un gd cn cs a ccd cl outer A₀ base h₀ L m s Q E B F X T hk hd hu hpre hret
  refine wpAny_call ?_
  refine' enter0 (binds := [(Str.ofString "a", .str (x) ta), (Str.ofString "b", .str (x) tb), (Str.ofString "max_cost", .int c tc)]) B F X T rfl rfl hk ?k6 ?k7 ?k8 ?k9 ?kB ?_ ?c2 ?c3 ?c4 ?c5
  (case k6 => k_is); (case k7 => k_is); (case k8 => ktr_room); (case k9 => exact BindsTo.of_eq rfl); (case c5 => decide); (case kB => exact locs rfl); (case c2 => exact rfl); (case c3 => exact rfl); (case c4 => exact rfl)
  k_whole
  clear B F X T
  intro g' L' h' hG FG' N' B' X' T'
  (try dsimp only); (try k_lift B'); (try k_fold)
  k_steps
  all_goals walk_at "mine_ret"
  all_goals (refine hret _ _ _ (fun b o e => Fr.keep (by assumption) b o (hG b o e)) ?_)
  all_goals (refine ⟨_, congrArg (fun z => Value.int z _) ?_⟩)
  all_goals first | rfl | omega | (exfalso; (rename (¬ c < _) => hq); exact fin3 hq hc1 (by decide +kernel))
end

theorem con_lev (p q p' q' : Bool) (c : Int) (hc0 : 0 ≤ c) (hc1 : c ≤ 1) (ta tb tc : Tok) : Con 8 64 56 [.str (w2 p q) ta, .str (w2 p' q') tb, .int c tc] (fun _ => True) (fun _ _ v => ∃ t, v = .int (lev p q p' q' c) t) := by
  by_cases hp : p = p'
  · subst hp
    by_cases hq : q = q'
    · subst hq
      rw [show lev p q p q c = 0 by simp [lev]]
      exact lev_a _ c hc0 hc1 ta tb tc
    · obtain rfl : q' = !q := by cases q <;> cases q' <;> simp_all
      rw [show lev p q p (!q) c = 1 by simp [lev]]
      exact lev_b p q c hc0 hc1 ta tb tc
  · obtain rfl : p' = !p := by cases p <;> cases p' <;> simp_all
    by_cases hq : q = q'
    · subst hq
      rw [show lev p q (!p) q c = 1 by simp [lev]]
      exact lev_c p q c hc0 hc1 ta tb tc
    · obtain rfl : q' = !q := by cases q <;> cases q' <;> simp_all
      rw [show lev p q (!p) (!q) c = c + 1 by simp [lev]]
      by_cases hr : q = p
      · subst hr
        exact lev_d q c hc0 hc1 ta tb tc
      · obtain rfl : q = !p := by cases p <;> cases q <;> simp_all
        rw [Bool.not_not]
        exact lev_e p c hc0 hc1 ta tb tc

section
local macro_rules | `(tactic| walk_at "mine_enter") => `(tactic| (
  refine wpAny_call ?_
  refine' enter0 (by assumption) (by assumption) (by assumption) (by assumption) rfl rfl (by assumption) ?k6 ?k7 ?k8 ?k9 ?kB ?_ ?c2 ?c3 ?c4 ?c5
  (case k6 => k_is); (case k7 => k_is); (case k8 => ktr_room); (case k9 => exact BindsTo.of_eq rfl); (case c5 => decide); (case kB => exact locs rfl); (case c2 => exact rfl); (case c3 => exact rfl); (case c4 => exact rfl)
  k_whole))
local macro_rules | `(tactic| walk_at "mine_ret") => `(tactic| ((try dsimp only); (try k_unfold); (try dsimp only)))

def apArr : Array UInt8 := #[65, 66, 67, 68, 69, 70, 71, 72, 73, 74, 75, 76, 77, 78, 79, 80]
theorem cut16 {P : Int → Prop} (h : ∀ k : Fin 16, P k.val) {r : Int} (h0 : 0 ≤ r) (h1 : r < 16) : P r := by
  have e : r = ((⟨r.toNat, by omega⟩ : Fin 16).val : Int) := by simp; omega
  rw [e]; exact h _
theorem ap_picked {r : Int} (h0 : 0 ≤ r) (h1 : r < 16) : KBy.picked apArr (some r) (some (r + 1)) = #[apb r] :=
  cut16 (P := fun r => KBy.picked apArr (some r) (some (r + 1)) = #[apb r]) (by decide +kernel) h0 h1
theorem ap_whole {r : Int} (h0 : 0 ≤ r) (h1 : r < 16) : KBy.whole apArr (some r) (some (r + 1)) = false :=
  cut16 (P := fun r => KBy.whole apArr (some r) (some (r + 1)) = false) (by decide +kernel) h0 h1
theorem fd16 {q r : Int} (h0 : 0 ≤ r) (h1 : r < 16) : Int.fdiv (16 * q + r) 16 = q := by
  rw [Int.fdiv_eq_ediv_of_nonneg _ (by omega)]; omega
theorem fm16 {q r : Int} (h0 : 0 ≤ r) (h1 : r < 16) : Int.fmod (16 * q + r) 16 = r := by
  rw [Int.fmod_eq_emod_of_nonneg _ (by omega)]; omega
theorem bne_nz {n : Int} (h : n ≠ 0) : (n != 0) = true := by simpa using h
theorem bne_zz {n : Int} (h : n = 0) : (n != 0) = false := by simpa using h
section
variable {prog : Program} {w : World} {A : Around} {E : Value → Shared → Prop} {s : Shared} {value slice : Expr} {t u : Tok} {h₀ : Heap} {L : Addr} {m : Str → Option Value} {news : List (Addr × Obj)} {Q : Value → Shared → Prop}
theorem ap_abs {n N : Int} (e : (n.natAbs : Int) = N) (h : ∀ u tk, Q (.int N u) { s with toks := tk }) : wpAny (model prog w) A (call (.builtin "abs") [.int n t]) Q E s :=
  call_abs_int fun u tk => by
    have : (if n < 0 then -n else n) = N := by split <;> omega
    rw [this]; exact h u tk
theorem ap_divmod {q r : Int} (F : Fr h₀ L s.heap m) (N : News h₀ L s.heap news) (h0 : 0 ≤ r) (h1 : r < 16)
    (h : ∀ h', Fr h₀ L h' m → News h₀ L h' ((s.heap.objs.size, { cls := .type "tuple", data := .seq #[.int q s.toks, .int r (s.toks + 1)] }) :: news) →
      Q (.ref s.heap.objs.size) { s with toks := s.toks + 1 + 1, heap := h' }) :
    wpAny (model prog w) A (call (.builtin "divmod") [.int (16 * q + r) t, .int 16 u]) Q E s :=
  divmod_N F N (by decide) (fun h' F' N' => by rw [fd16 h0 h1, fm16 h0 h1] at N'; exact h h' F' N')
theorem ap_cut {r : Int} {ui uj : Tok} (hF : Fr h₀ L s.heap m) (hN : News h₀ L s.heap news) (h0 : 0 ≤ r) (h1 : r < 16)
    (h : ∀ h' t' k, Fr h₀ L h' m → News h₀ L h' news → Q (.bytes #[apb r] t') { s with heap := h', toks := k })
    (hs : subscripted slice false (.bytes apArr t) (.ref s.heap.objs.size) = operate [.ref s.heap.objs.size, .bytes apArr t] (getItem (.bytes apArr t) (.ref s.heap.objs.size)) := by with_unfolding_all rfl)
    (ht : ∀ r, letTemporaryGo value (.bytes apArr t) r = pure () := by intro _; with_unfolding_all rfl) :
    wpAny (model prog w) A (subscriptTail value slice (.bytes apArr t) (.ref s.heap.objs.size)) Q E { s with heap := s.heap.push { cls := .type "slice", data := .fields #[.int r ui, .int (r + 1) uj, .none] } } :=
  KBy.slice_N hF hN (by constructor) (by constructor) (ap_whole h0 h1) (by rw [ap_picked h0 h1]; exact Nat.le_of_ble_eq_true rfl) (fun h' t' k F' N' => by rw [ap_picked h0 h1]; exact h h' t' k F' N') hs ht
end

local macro_rules | `(tactic| walk_at "exec While Name") => `(tactic| (k_here; k_dflt (refine whl_start 100 ?_)))
local macro_rules | `(tactic| walk_at "call builtin:abs") => `(tactic| (k_dflt (refine' ap_abs (by assumption) ?_); intro _ _; (try dsimp only)))
local macro_rules | `(tactic| walk_at "WhlIf") => `(tactic| first
  | (refine WhlIf.yes (bne_nz ?e) ?_; (case e => omega))
  | (refine WhlIf.no (bne_zz ?e) ?_; (case e => omega)))
local macro_rules | `(tactic| walk_at "call builtin:divmod") => `(tactic| (
  k_dflt (refine' ap_divmod ?k1 ?k2 ?k3 ?k4 ?_; (case k1 => k_asm); (case k2 => k_asm); (case k3 => assumption); (case k4 => assumption)); intro h' F' N'; (try dsimp only)))
local macro_rules | `(tactic| walk_at "subscriptTail Name Slice bytes ref") => `(tactic| (
  (with_reducible rename Fr _ _ _ _ => F'); (with_reducible rename News _ _ _ _ => N');
  k_dflt (refine' ap_cut (s := ⟨_, _, _, _, _⟩) F' N' ?a ?b ?_ ?hs ?ht; (case a => assumption); (case b => assumption); (case hs => with_unfolding_all rfl); (case ht => intro _; with_unfolding_all rfl)); intro _ _ _ _ _; (try dsimp only)))

local macro_rules | `(tactic| walk_at "storeName") => `(tactic| dsimp only)
local macro_rules | `(tactic| walk_at "evalPart") => `(tactic| dsimp only)
local macro_rules | `(tactic| walk_at "evalPart some") => `(tactic| dsimp only)
local macro_rules | `(tactic| walk_at "evalPart none") => `(tactic| dsimp only)
local macro_rules | `(tactic| walk_at "subscriptTail") => `(tactic| dsimp only)
local macro_rules | `(tactic| walk_at "subscriptTail Name Slice str ref") => `(tactic| dsimp only)

local macro_rules | `(tactic| walk_at "ite") => `(tactic| first | with_reducible refine ite_tt ?_ | with_reducible refine ite_ff ?_ | refine ite_pos (by decide) ?_ | refine ite_neg (by decide) ?_)

theorem con_ap (n a b c d e : Int) (hn : (n.natAbs : Int) = 16 * (16 * (16 * (16 * (16 * 0 + a) + b) + c) + d) + e) (ha0 : 1 ≤ a) (ha : 0 ≤ a) (ha' : a < 16) (hb : 0 ≤ b) (hb' : b < 16) (hc : 0 ≤ c) (hc' : c < 16) (hd : 0 ≤ d) (hd' : d < 16) (he : 0 ≤ e) (he' : e < 16) (tn : Tok) : Con 8 64 35 [.int n tn] (fun _ => True) (fun _ _ v => ∃ t, v = .bytes #[apb a, apb b, apb c, apb d, apb e] t) := by
  w_top off
  intro w mean mg mb dp un gd cn cs a ccd cl outer A₀ base h₀ L m s Q E B F X T hk hd hu hpre hret
  refine wpAny_call ?_
  refine' enter0 (binds := [(Str.ofString "num", .int n tn)]) B F X T rfl rfl hk ?k6 ?k7 ?k8 ?k9 ?kB ?_ ?c2 ?c3 ?c4 ?c5
  (case k6 => k_is); (case k7 => k_is); (case k8 => ktr_room); (case k9 => exact BindsTo.of_eq rfl); (case c5 => decide); (case kB => exact locs rfl); (case c2 => exact rfl); (case c3 => exact rfl); (case c4 => exact rfl)
  k_whole
  clear B F X T
  intro g' L' h' hG FG' N' B' X' T'
  (try dsimp only); (try k_lift B'); (try k_fold)
  k_steps
  all_goals walk_at "mine_ret"
  all_goals (refine hret _ _ _ (fun b o e => Fr.keep (by assumption) b o (hG b o e)) ?_)
  all_goals exact ⟨_, rfl⟩
end

section
local macro_rules | `(tactic| walk_at "mine_enter") => `(tactic| (
  refine wpAny_call ?_
  refine' enter0 (by assumption) (by assumption) (by assumption) (by assumption) rfl rfl (by assumption) ?k6 ?k7 ?k8 ?k9 ?kB ?_ ?c2 ?c3 ?c4 ?c5
  (case k6 => k_is); (case k7 => k_is); (case k8 => ktr_room); (case k9 => exact BindsTo.of_eq rfl); (case c5 => decide); (case kB => exact locs rfl); (case c2 => exact rfl); (case c3 => exact rfl); (case c4 => exact rfl)
  k_whole))
local macro_rules | `(tactic| walk_at "mine_ret") => `(tactic| ((try dsimp only); (try k_unfold); (try dsimp only)))

theorem ldUp_length (ns : List Int) : ∀ k, (ldUp ns k).length = k + 1
  | 0 => rfl
  | k + 1 => by simp [ldUp, ldUp_length ns k]

local macro_rules | `(tactic| walk_at "storeName") => `(tactic| dsimp only)
local macro_rules | `(tactic| walk_at "evalPart") => `(tactic| dsimp only)
local macro_rules | `(tactic| walk_at "evalPart some") => `(tactic| dsimp only)
local macro_rules | `(tactic| walk_at "evalPart none") => `(tactic| dsimp only)
local macro_rules | `(tactic| walk_at "subscriptTail") => `(tactic| dsimp only)
local macro_rules | `(tactic| walk_at "subscriptTail Name Slice str ref") => `(tactic| dsimp only)

local macro_rules | `(tactic| walk_at "ite") => `(tactic| first | with_reducible refine ite_tt ?_ | with_reducible refine ite_ff ?_ | refine ite_pos (by decide) ?_ | refine ite_neg (by decide) ?_)

local macro_rules | `(tactic| walk_at "eval Name") => `(tactic| (
  (with_reducible rename Fr _ _ _ _ => kF)
  k_dflt (refine' nameX_L kF ?v ?_ ?a ?b ?hd; (case hd => kernel_rfl); (case a => exact rfl); (case b => kernel_rfl); (case v => exact rfl))))
local macro_rules | `(tactic| walk_at "mine_glob") => `(tactic| (
  (with_reducible rename Fr _ _ _ _ => kF)
  k_dflt (refine' nameX_K kF ?k1 ?k2 ?k3 ?_ ?hk ?hx ?hd; (case hx => kernel_rfl); (case hk => exact rfl); (case hd => kernel_rfl); (case k1 => k_asm); (case k2 => k_asm); (case k3 => k_is); k_whole)))
local macro_rules | `(tactic| walk_at "mine_blt") => `(tactic| (
  (with_reducible rename Fr _ _ _ _ => kF)
  k_dflt (refine' nameX_B kF ?k1 ?k2 ?k3 ?k4 ?k5 ?_ ?hk ?hx ?hd; (case hx => kernel_rfl); (case hk => exact rfl); (case hd => kernel_rfl); (case k1 => k_asm); (case k2 => k_asm); (case k3 => k_is); (case k4 => boot_fast); (case k5 => decide); k_whole)))
local macro_rules | `(tactic| walk_at "eval Name") => `(tactic| ((with_reducible show wpAny _ _ (eval (Expr.Name (Str.ofString "range") _) _) _ _ _); walk_at "mine_blt"))
local macro_rules | `(tactic| walk_at "eval Name") => `(tactic| ((with_reducible show wpAny _ _ (eval (Expr.Name (Str.ofString "reversed") _) _) _ _ _); walk_at "mine_blt"))
local macro_rules | `(tactic| walk_at "eval Name") => `(tactic| ((with_reducible show wpAny _ _ (eval (Expr.Name (Str.ofString "len") _) _) _ _ _); walk_at "mine_blt"))

local macro_rules | `(tactic| walk_at "exec For Name Call cons nil") => `(tactic| (k_dflt (refine wpAny_For ?_)))

theorem sign_prod (ns : List Int) (hlen : ns.length = 9) (hb : ∀ x ∈ ns, x = 1 ∨ x = -1) (j k : Nat) (hk : k < 9) : -1 ≤ sideAt j * ns.getD k 0 ∧ sideAt j * ns.getD k 0 ≤ 1 := by
  have h : ns.getD k 0 ∈ ns := by
    rw [List.getD_eq_getElem?_getD, List.getElem?_eq_getElem (by omega)]
    exact List.getElem_mem _
  unfold sideAt
  rcases hb _ h with e | e <;> rw [e] <;> split <;> decide
theorem sideAt_succ (j : Nat) : -sideAt j = sideAt (j + 1) := by unfold sideAt; split <;> split <;> omega
theorem bit_test : ∀ i < 31, ∀ j < 5, Builtin.bitAnd ((1 + ((i : Nat) : Int)).fdiv (2 ^ (0 + ((j : Nat) : Int)).toNat)) 1 = 0 ↔ (i + 1).testBit j = false := by decide +kernel
theorem bit_test' : ∀ i < 31, ∀ j < 5, ¬ Builtin.bitAnd ((1 + ((i : Nat) : Int)).fdiv (2 ^ (0 + ((j : Nat) : Int)).toNat)) 1 = 0 ↔ (i + 1).testBit j = true := by decide +kernel
theorem chosen_facts : ∀ i < 31, (chosenOf (i + 1)).length ≤ 5 ∧ ∀ c ∈ chosenOf (i + 1), 0 ≤ c ∧ c ≤ 4 ∧ 2 ^ c.toNat ≤ ((i : Nat) : Int) + 1 := by decide +kernel

local macro_rules | `(tactic| walk_at "exec Assign cons ListComp") => `(tactic| (k_dflt (refine LCt.Assign_ListComp_T (F₀ := by k_asm) (by rfl) (by with_unfolding_all rfl) (by with_unfolding_all rfl) (by decide) (by rfl) (by decide) (by rfl) (by rfl) (by rfl) ?_)))
local macro_rules | `(tactic| walk_at "CompSrcT") => `(tactic| refine hold_in ?_)
local macro_rules | `(tactic| walk_at "pyIter ref") => `(tactic| refine hold_in ?_)
theorem con_lead (l : Addr) (vs : List Value) (ns : List Int) (hlen : ns.length = 9) (hb : ∀ x ∈ ns, x = 1 ∨ x = -1) : Con 8 64 66 [.ref l] (fun h => h.IsList l vs.toArray ∧ IntsAre vs ns) (fun h h' v => ∃ rs, NewInts rs h h' v ∧ rs = lead ns) := by
  w_top off
  intro w mean mg mb dp un gd cn cs a ccd cl outer A₀ base h₀ L m s Q E B F X T hk hd hu hpre hret
  refine wpAny_call ?_
  refine' enter0C (binds := [(Str.ofString "signs", .ref l)]) B F X T rfl rfl hk ?k6 ?k7 ?k8 ?k9 ?kB ?kD ?_ ?c2 ?c3 ?c4
  (case k6 => k_is); (case k7 => k_is); (case k8 => ktr_room); (case k9 => exact BindsTo.of_eq rfl); (case kB => exact rfl); (case kD => decide +kernel); (case c2 => exact rfl); (case c3 => exact rfl); (case c4 => exact rfl)
  k_whole
  clear B F X T
  intro g' L' h' tk' cells' hG hLe FG' N' Y' B' X' T'
  obtain ⟨hl, hi⟩ := hpre
  have hl' : g'.IsList l vs.toArray := hl.at fun o e => hG _ o e
  k_cells Y'
  (try simp only [List.cons_append, List.nil_append] at N'); (try dsimp only); (try k_lift B'); (try k_fold)
  k_steps
  rename IsRange _ _ _ _ _ _ _ _ => hR; rename Fr _ _ _ _ => F2; rename News _ _ _ _ => N2
  obtain ⟨D, hD⟩ := head_addr N2
  subst hD
  refine hold_out ?_
  dsimp only
  refine for_range (s := ⟨_, _, _, _, _⟩) (n := 31) (fun i m news => ∃ vs' c o v, m (Str.ofString "signs") = some (.ref l) ∧ m (Str.ofString "found") = some (.ref D) ∧ news = [(D, listOf (List.toArray vs') c), (L' + 1, o)] ∧ o.data = .cell v ∧ IntsAre vs' (ldUp ns i)) rfl F2 N2 hR (by decide) (by decide) ?_ ?_ ?_ ?_ ?_
  · exact ⟨_, _, _, _, rfl, rfl, rfl, by assumption, .cons _ _ .nil⟩
  · rintro i t m news h tk oI I hlt ⟨vs', c, o, v, h1, h2, rfl, hd', hI⟩ F N off
    replace F := repack1 (repack1 F h1) (va := .ref D) (a := Str.ofString "found") ((if_neg (by decide)).trans h2)
    clear F2 N2 hR
    have o1 : @Ne Nat D I := off _ (.head _)
    have o2 : @Ne Nat (L' + 1) I := off _ (.tail _ (.head _))
    (try dsimp only); (try k_fold)
    k_steps
    refine hold_out ?_
    refine LCt.CompSrcT.range (n := 5) (by rfl) (by k_asm) (by k_asm) (by assumption) (by decide) (by decide) (by decide) ?_
    intro g2
    refine cf_range (fun j => (i + 1).testBit j) ?_ ?_
    · intro j t2 I2 oI2 C2 oC2 D2 m2 ys h2 tk2 E2 hj hC2 hx2 F2 N2 off2 ne2
      (try simp only [LCg.Off3, and_true] at off2)
      (try dsimp only); (try k_fold)
      k_steps
      all_goals first
        | exact ((bit_test i hlt j hj).mp (by assumption))
        | exact ((bit_test' i hlt j hj).mp (by assumption))
        | exact ⟨_, rfl⟩
    · intro ys hys hly
      rename Obj => oC
      obtain ⟨cs, hcs⟩ : ∃ cs, cs = chosenOf (i + 1) := ⟨_, rfl⟩
      have hys' : IntsAre ys cs := hcs ▸ hys
      obtain ⟨hc5, hcf⟩ := chosen_facts i hlt
      rw [← hcs] at hc5 hcf
      clear hys
      unfold LCg.FinA
      intro Dc h3 tk3 F3 N3 o3
      (try simp only [LCg.Off1, and_true] at o3)
      (try dsimp only); (try k_fold)
      k_steps
      refine hold_out ?_
      (try dsimp only)
      rename Fr _ _ _ _ => F4; rename News _ _ _ _ => N4; rename _ ∧ _ => l4
      refine for_rev1 (s := ⟨_, _, _, _, _⟩) (fun j m => m (Str.ofString "signs") = some (.ref l) ∧ m (Str.ofString "found") = some (.ref D) ∧ m (Str.ofString "chosen") = some (.ref Dc) ∧ (∃ t, m (Str.ofString "side") = some (.int (sideAt j) t)) ∧ ∃ t, m (Str.ofString "total") = some (.int (totAt ns (ldUp ns i) cs (i + 1) j) t)) rfl F4 N4 (.tail _ (.head _)) (List.forall_mem_cons.mpr ⟨Nat.ne_of_lt l4.1, List.forall_mem_cons.mpr ⟨Nat.ne_of_lt l4.2.1, List.forall_mem_cons.mpr ⟨Nat.ne_of_lt l4.2.2.1, List.forall_mem_cons.mpr ⟨Nat.ne_of_lt l4.2.2.2.1, List.forall_mem_cons.mpr ⟨Nat.ne_of_lt l4.2.2.2.2, List.forall_mem_nil _⟩⟩⟩⟩⟩) ⟨rfl, rfl, rfl, ⟨_, rfl⟩, ⟨_, rfl⟩⟩ ?_ ?_ ?_ ?_
      · rintro j v4 m4 h4 tk4 oI4 hj4 hv4 ⟨e1, e2, e3, ⟨t5, e5⟩, ⟨t6, e6⟩⟩ F5 N5 off5
        clear F4 N4
        rename IntsAre ys _ => hys'; rename IntsAre vs' _ => hI; rename IntsAre vs _ => hi
        have hcl := hys'.length
        obtain ⟨n4, t4, rfl, hn4⟩ := IntsAre.at hys' _ v4 hv4
        have hn4' : cs.getD (cs.length - 1 - j) 0 = n4 := by rw [← hcl, List.getD_eq_getElem?_getD, hn4]; rfl
        obtain ⟨c0, c4, cp⟩ := hcf n4 (List.mem_of_getElem? hn4)
        have cq : (1 : Int) ≤ 2 ^ n4.toNat := Int.pow_pos (by decide)
        have hL := ldUp_length ns i
        have hL2 := hI.length
        have hL3 := hi.length
        have hs1 : -1 ≤ sideAt j := by unfold sideAt; split <;> decide
        have hs2 : sideAt j ≤ 1 := by unfold sideAt; split <;> decide
        obtain ⟨hp1, hp2⟩ := sign_prod ns hlen hb j ((cs.length : Int) - 1 + n4).toNat (by omega)
        replace F5 := repack1 (repack1 (repack1 (repack1 (repack1 F5 e1) (va := .ref D) (a := Str.ofString "found") ((if_neg (by decide)).trans e2))
          (va := .ref Dc) (a := Str.ofString "chosen") ((if_neg (by decide)).trans ((if_neg (by decide)).trans e3)))
          (va := .int (sideAt j) t5) (a := Str.ofString "side") ((if_neg (by decide)).trans ((if_neg (by decide)).trans ((if_neg (by decide)).trans e5))))
          (va := .int (totAt ns (ldUp ns i) cs (i + 1) j) t6) (a := Str.ofString "total") ((if_neg (by decide)).trans ((if_neg (by decide)).trans ((if_neg (by decide)).trans ((if_neg (by decide)).trans e6))))
        clear e1 e2 e3 e5 e6
        (try dsimp only); (try k_fold)
        k_steps
        (try dsimp only)
        rename Fr _ _ _ _ => F6; rename News _ _ _ _ => N6
        have tt : totAt ns (ldUp ns i) cs (i + 1) j + sideAt j * ns.getD ((cs.length : Int) - 1 + n4).toNat 0 * (ldUp ns i).getD (1 + (i : Int) - 2 ^ n4.toNat).toNat 0 = totAt ns (ldUp ns i) cs (i + 1) (j + 1) := by
          simp only [totAt, hn4']
          rw [show (((i + 1 : Nat) : Int)) = 1 + (i : Int) by omega]
        refine ForEnd.intro _ F6 N6 (fun p hp => hp) off5 ?_
        refine ⟨rfl, by exact rfl, by exact rfl, by exact rfl, ?_, ?_⟩
        · exact exI (sideAt_succ j)
        · exact exI tt
      · rintro m5 h5 tk5 ⟨e1, e2, e3, ⟨t5, e5⟩, ⟨t6, e6⟩⟩ F5 N5
        clear F4 N4
        rename IntsAre ys _ => hys'; rename IntsAre vs' _ => hI; rename IntsAre vs _ => hi
        have hcl := hys'.length
        have hL := ldUp_length ns i
        have hL2 := hI.length
        replace F5 := repack1 (repack1 (repack1 F5 e1) (va := .ref D) (a := Str.ofString "found") ((if_neg (by decide)).trans e2))
          (va := .int (totAt ns (ldUp ns i) cs (i + 1) ys.length) t6) (a := Str.ofString "total") ((if_neg (by decide)).trans ((if_neg (by decide)).trans e6))
        clear e1 e2 e3 e5 e6
        (try dsimp only); (try k_fold)
        k_steps
        (try dsimp only)
        rename Fr _ _ _ _ => F6; rename News _ _ _ _ => N6
        simp only [List.push_toArray] at N6
        have tt : ldUp ns (i + 1) = ldUp ns i ++ [totAt ns (ldUp ns i) cs (i + 1) ys.length] := by rw [hcl, hcs]; rfl
        refine ForEnd.intro [(D, listOf (List.toArray (vs' ++ [.int (totAt ns (ldUp ns i) cs (i + 1) ys.length) t6])) (c + 1)), (L' + 1, oC)] F6 N6 (List.forall_mem_cons.mpr ⟨.tail _ (.tail _ (.head _)), List.forall_mem_cons.mpr ⟨.tail _ (.tail _ (.tail _ (.head _))), List.forall_mem_cons.mpr ⟨.tail _ (.tail _ (.tail _ (.tail _ (.head _)))), List.forall_mem_nil _⟩⟩⟩) (List.forall_mem_cons.mpr ⟨o1, List.forall_mem_cons.mpr ⟨o2, List.forall_mem_nil _⟩⟩) ⟨trivial, _, _, _, _, by exact rfl, by exact rfl, rfl, by assumption, ?_⟩
        rw [tt]
        exact ints_snoc (by assumption) _ _
      · passes_own
      · intro v; rfl
  · rintro m news h tk ⟨vs', c, o, v, h1, h2, rfl, hd', hI⟩ F N
    replace F := repack1 (repack1 F h1) (va := .ref D) (a := Str.ofString "found") ((if_neg (by decide)).trans h2)
    have hL := ldUp_length ns 31
    obtain ⟨fs, hfs⟩ : ∃ fs, fs = ldUp ns 31 := ⟨_, rfl⟩
    have hlf : lead ns = leadOf fs := by rw [hfs]; rfl
    rw [← hfs] at hL hI
    rw [hlf] at hret
    have hL2 := hI.length
    clear F2 N2 hR hlf hfs
    (try dsimp only); (try k_fold)
    k_steps
    rename Fr _ _ _ _ => F6; rename News _ _ _ _ => N6; rename _ ∧ _ => l6
    (try dsimp only)
    refine hret _ _ _ (fun b o e => F6.keep b o (hG b o e)) ⟨leadOf fs, ⟨_, _, _, rfl, (N6 _ (.head _)).1, Heap.get?_none_of_le (Nat.le_trans hLe (Nat.le_of_lt (Nat.lt_of_succ_lt l6.2))), ?_⟩, rfl⟩
    exact .cons _ _ (.cons _ _ (.cons _ _ (.cons _ _ (.cons _ _ .nil))))
  · passes_own
  · intro I v; rfl
end

section
local macro_rules | `(tactic| walk_at "mine_enter") => `(tactic| (
  refine wpAny_call ?_
  refine' enter0 (by assumption) (by assumption) (by assumption) (by assumption) rfl rfl (by assumption) ?k6 ?k7 ?k8 ?k9 ?kB ?_ ?c2 ?c3 ?c4 ?c5
  (case k6 => k_is); (case k7 => k_is); (case k8 => ktr_room); (case k9 => exact BindsTo.of_eq rfl); (case c5 => decide); (case kB => exact locs rfl); (case c2 => exact rfl); (case c3 => exact rfl); (case c4 => exact rfl)
  k_whole))
local macro_rules | `(tactic| walk_at "mine_ret") => `(tactic| ((try dsimp only); (try k_unfold); (try dsimp only)))

local macro_rules | `(tactic| walk_at "storeName") => `(tactic| dsimp only)
local macro_rules | `(tactic| walk_at "evalPart") => `(tactic| dsimp only)
local macro_rules | `(tactic| walk_at "evalPart some") => `(tactic| dsimp only)
local macro_rules | `(tactic| walk_at "evalPart none") => `(tactic| dsimp only)
local macro_rules | `(tactic| walk_at "subscriptTail") => `(tactic| dsimp only)
local macro_rules | `(tactic| walk_at "subscriptTail Name Slice str ref") => `(tactic| dsimp only)

local macro_rules | `(tactic| walk_at "ite") => `(tactic| first | with_reducible refine ite_tt ?_ | with_reducible refine ite_ff ?_ | refine ite_pos (by decide) ?_ | refine ite_neg (by decide) ?_)

local macro_rules | `(tactic| walk_at "eval Name") => `(tactic| (
  (with_reducible rename Fr _ _ _ _ => kF)
  k_dflt (refine' nameX_L kF ?v ?_ ?a ?b ?hd; (case hd => kernel_rfl); (case a => exact rfl); (case b => kernel_rfl); (case v => exact rfl))))
local macro_rules | `(tactic| walk_at "mine_glob") => `(tactic| (
  (with_reducible rename Fr _ _ _ _ => kF)
  k_dflt (refine' nameX_K kF ?k1 ?k2 ?k3 ?_ ?hk ?hx ?hd; (case hx => kernel_rfl); (case hk => exact rfl); (case hd => kernel_rfl); (case k1 => k_asm); (case k2 => k_asm); (case k3 => k_is); k_whole)))
local macro_rules | `(tactic| walk_at "mine_blt") => `(tactic| (
  (with_reducible rename Fr _ _ _ _ => kF)
  k_dflt (refine' nameX_B kF ?k1 ?k2 ?k3 ?k4 ?k5 ?_ ?hk ?hx ?hd; (case hx => kernel_rfl); (case hk => exact rfl); (case hd => kernel_rfl); (case k1 => k_asm); (case k2 => k_asm); (case k3 => k_is); (case k4 => boot_fast); (case k5 => decide); k_whole)))
local macro_rules | `(tactic| walk_at "eval Name") => `(tactic| ((with_reducible show wpAny _ _ (eval (Expr.Name (Str.ofString "range") _) _) _ _ _); walk_at "mine_blt"))
local macro_rules | `(tactic| walk_at "eval Name") => `(tactic| ((with_reducible show wpAny _ _ (eval (Expr.Name (Str.ofString "enumerate") _) _) _ _ _); walk_at "mine_blt"))
local macro_rules | `(tactic| walk_at "eval Name") => `(tactic| ((with_reducible show wpAny _ _ (eval (Expr.Name (Str.ofString "len") _) _) _ _ _); walk_at "mine_blt"))

local macro_rules | `(tactic| walk_at "exec For Name Call cons nil") => `(tactic| (k_dflt (refine wpAny_For ?_)))

local macro_rules | `(tactic| walk_at "call builtin:len") => `(tactic| (
  k_here; k_dflt (refine' kst_len ?k1 (.head _) rfl ?k4 ?_; (case k1 => k_asm); (case k4 => omega)); (try dsimp only)))
local macro_rules | `(tactic| walk_at "CompSrcT") => `(tactic| refine hold_in ?_)
local macro_rules | `(tactic| walk_at "CompSrc") => `(tactic| refine hold_in ?_)
local macro_rules | `(tactic| walk_at "pyIter ref") => `(tactic| refine hold_in ?_)
local macro_rules | `(tactic| walk_at "LoopStep3") => `(tactic| refine hold_in ?_)
local macro_rules | `(tactic| walk_at "call type:enumerate") => `(tactic| refine hold_in ?_)

local macro_rules | `(tactic| walk_at "setItem ref int") => `(tactic| (
  k_dflt (refine' ksa_set ?F ?N (upd_own (Upd.head ?hh) ?ow) ?i ?a ?b ?c ?_; (case F => k_asm); (case N => k_asm); (case ow => assumption); (case hh => k_all); (case i => assumption); (case a => assumption); (case b => omega); (case c => omega)); intro h' F' N'; (try dsimp only)))
theorem pick {g h : Heap} {L : Addr} {a b c d : Addr × Obj} (N : News g L h [a, b, c, d]) : News g L h [a, d] :=
  List.forall_mem_cons.mpr ⟨N _ (.head _), List.forall_mem_cons.mpr ⟨N _ (.tail _ (.tail _ (.tail _ (.head _)))), List.forall_mem_nil _⟩⟩
theorem four {i : Nat} {a b c d : Tok} (h : i < 4) (j : Nat) (v : Value) (hv : (#[Value.int (0 + (i : Int)) a, Value.int (0 + (i : Int) + 1) b, Value.int (2 * (0 + (i : Int)) + 1) c, Value.int (2 * (0 + (i : Int)) + 2) d] : Array Value)[j]? = some v) : ∃ k t, v = .int k t ∧ 0 ≤ k ∧ k < 9 := by
  have hm := Array.mem_of_getElem? hv
  simp only [List.mem_toArray, List.mem_cons, List.not_mem_nil, or_false] at hm
  rcases hm with rfl | rfl | rfl | rfl
  · exact ⟨_, _, rfl, by omega, by omega⟩
  · exact ⟨_, _, rfl, by omega, by omega⟩
  · exact ⟨_, _, rfl, by omega, by omega⟩
  · exact ⟨_, _, rfl, by omega, by omega⟩
theorem set_bound {rs : List Int} {k : Nat} (hb : ∀ x ∈ rs, 251 ≤ x ∧ x ≤ 260) (hk : k < rs.length) : ∀ x ∈ rs.set k (511 - rs.getD k 0), 251 ≤ x ∧ x ≤ 260 := by
  intro x hx
  rcases List.mem_or_eq_of_mem_set hx with h | h
  · exact hb x h
  · have hg : rs.getD k 0 ∈ rs := by rw [List.getD_eq_getElem?_getD, List.getElem?_eq_getElem hk]; exact List.getElem_mem _
    have := hb _ hg
    omega
theorem sml : ∀ n : Nat, n < 5 → Builtin.Range.small 0 (n : Int) 1 = true := by decide
theorem rsz : ∀ n : Nat, n < 5 → Builtin.Range.rangeSize 0 (n : Int) 1 = (n : Int) := by decide
local macro_rules | `(tactic| walk_at "exec Assign cons ListComp") => `(tactic| (
  k_here; lct_look; lcg_calm; k_dflt (refine assign_compT (F₀ := by k_asm) (by rfl) (by with_unfolding_all rfl) (by with_unfolding_all rfl) (by decide) (by rfl) (by decide) (by rfl) (by rfl) (by rfl) ?_)))
theorem con_symb (l : Addr) (vs : List Value) (ns : List Int) (hlen : ns.length ≤ 63) : Con 8 64 61 [.ref l] (fun h => h.IsList l vs.toArray ∧ IntsAre vs ns)
  (fun h h' v => ∃ rs : List Int, NewInts rs h h' v ∧ rs.length = 9 ∧ ∀ x ∈ rs, 251 ≤ x ∧ x ≤ 260) := by
  w_top off
  intro w mean mg mb dp un gd cn cs a ccd cl outer A₀ base h₀ L m s Q E B F X T hk hd hu hpre hret
  refine wpAny_call ?_
  refine' enter0C (binds := [(Str.ofString "script", .ref l)]) B F X T rfl rfl hk ?k6 ?k7 ?k8 ?k9 ?kB ?kD ?_ ?c2 ?c3 ?c4
  (case k6 => k_is); (case k7 => k_is); (case k8 => ktr_room); (case k9 => exact BindsTo.of_eq rfl); (case kB => exact rfl); (case kD => decide +kernel); (case c2 => exact rfl); (case c3 => exact rfl); (case c4 => exact rfl)
  k_whole
  clear B F X T
  intro g' L' h' tk' cells' hG hLe FG' N' Y' B' X' T'
  obtain ⟨hl, hi⟩ := hpre
  have hl' : g'.IsList l vs.toArray := hl.at fun o e => hG _ o e
  k_cells Y'
  (try simp only [List.cons_append, List.nil_append] at N'); (try dsimp only); (try k_lift B'); (try k_fold)
  k_steps
  refine hold_out ?_
  (try dsimp only)
  rename Obj => oC; rename oC.data = _ => hoC
  rename Fr _ _ _ _ => F1; rename News _ _ _ _ => N1
  obtain ⟨Ds, hDs⟩ := head_addr N1
  subst hDs
  obtain ⟨Dc, hDc⟩ := snd_addr N1
  subst hDc
  rename IntsAre _ (List.take 20 ns) => hws
  rename _ < Ds ∧ _ < Ds => lts
  refine for_enum (s := ⟨_, _, _, _, _⟩) (fun i m news => ∃ us c ks, m (Str.ofString "cells") = some (.ref Dc) ∧ news = [(Dc, listOf (List.toArray us) c), (L' + 1, oC)] ∧ IntsAre us ks ∧ ks.length = 10) rfl F1 N1 ?_ ?_ ?_ ?_
  · exact List.forall_mem_cons.mpr ⟨Nat.ne_of_lt lts.1, List.forall_mem_cons.mpr ⟨Nat.ne_of_lt lts.2, List.forall_mem_nil _⟩⟩
  · exact ⟨_, _, _, rfl, rfl, .cons _ _ (.cons _ _ (.cons _ _ (.cons _ _ (.cons _ _ (.cons _ _ (.cons _ _ (.cons _ _ (.cons _ _ (.cons _ _ .nil))))))))), rfl⟩
  · rintro i v t m news h tk own hv ⟨us, c, ks, e1, rfl, hus, hks⟩ ha hown F2 N2
    obtain ⟨k, tk2, rfl, hk⟩ := IntsAre.at hws _ v hv
    have ow1 : ∀ p ∈ own, p.1 ≠ Dc := fun p hp => hown p hp _ (.head _)
    have b0 : 0 ≤ (i : Int).fmod 10 := fmod_lo _ (by decide)
    have b1 : (i : Int).fmod 10 < 10 := fmod_hi _ (by decide)
    have kM := kstMark
    have hul := hus.length
    replace F2 := repack1 F2 (va := .ref Dc) (a := Str.ofString "cells") ((if_neg (by decide)).trans ((if_neg (by decide)).trans e1))
    clear F1 N1
    (try dsimp only); (try k_fold)
    k_steps
    refine hold_out ?_
    (try dsimp only)
    rename Fr _ _ _ _ => F6; rename News _ _ _ _ => N6; rename (_ : List Int).length = ks.length => hlk
    exact LoopStep2.intro F6 N6 rfl ⟨_, _, _, by exact rfl, rfl, by assumption, hlk.trans hks⟩
  · rintro m news h tk ⟨us, c, ks, e1, rfl, hus, hks⟩ F2 N2
    replace F2 := repack1 F2 e1
    clear F1 N1
    have hul := hus.length
    (try dsimp only); (try k_fold)
    k_steps
    refine hold_out ?_
    rename Fr _ _ _ _ => F6; rename News _ _ _ _ => N6; rename IntsAre _ (List.take 9 ks) => hcells
    refine LCg.CompSrc.ledger (by rfl) F6 N6 (.head _) (by rw [sizeLine_eq, List.size_toArray, hcells.length, List.length_take]; omega) ?_
    intro g2
    refine kcf_list (fun k => 251 + k.fmod 10) hcells ?_ ?_
    · intro k t2 I2 oI2 C2 oC2 D2 m2 ys h2 tk2 E2 hk2 hC2 hx2 F7 N7 off2 ne2 hM
      (try simp only [LCg.Off3, and_true] at off2)
      (try dsimp only); (try k_fold)
      k_steps
    · unfold KPfDone
      intro ys hys
      obtain ⟨rs, hys, hrl, hrb⟩ : ∃ rs, IntsAre ys rs ∧ rs.length = 9 ∧ ∀ x ∈ rs, 251 ≤ x ∧ x ≤ 260 := by
        refine ⟨_, hys, by rw [List.length_map, List.length_take]; omega, fun x hx => ?_⟩
        obtain ⟨k, _, rfl⟩ := List.mem_map.mp hx
        have k1 := fmod_lo k (n := 10) (by decide)
        have k2 := fmod_hi k (n := 10) (by decide)
        omega
      have c0 := fmod_lo (ks.getD 9 0) (n := 5) (by decide)
      have c5 := fmod_hi (ks.getD 9 0) (n := 5) (by decide)
      unfold LCg.FinE
      intro Dr h3 tk3 F3 N3 o3
      (try simp only [LCg.Off1, and_true] at o3)
      clear F6 N6
      (try dsimp only); (try k_fold)
      k_steps
      refine hold_out ?_
      (try dsimp only)
      rename IsRange _ _ _ _ _ _ _ _ => hR; rename Fr _ _ _ _ => F4; rename News _ _ _ _ => N4
      rename Obj => oR; rename oR.data = _ => hoR
      obtain ⟨o31, o32, d1⟩ := o3
      obtain ⟨n, hn⟩ : ∃ n : Nat, (ks.getD (Int.toNat 9) 0).fmod 5 = (n : Int) := ⟨_, (Int.toNat_of_nonneg c0).symm⟩
      have hn5 : n < 5 := Int.ofNat_lt.mp (hn ▸ c5)
      rw [hn] at hR
      refine for_range (s := ⟨_, _, _, _, _⟩) (n := n) (fun i m news => ∃ us2 c2 rs2, news = [(Dr, listOf (List.toArray us2) c2), (L' + 1, oR)] ∧ IntsAre us2 rs2 ∧ rs2.length = 9 ∧ ∀ x ∈ rs2, 251 ≤ x ∧ x ≤ 260) rfl F4 (pick N4) hR (sml n hn5) (rsz n hn5) ⟨ys, _, rs, by exact rfl, by assumption, hrl, hrb⟩ ?_ ?_ ?_ ?_
      · rintro i t m4 news4 h4 tk4 oI4 I4 hlt ⟨us2, c2, rs2, rfl, hI, hl9, hb⟩ F5 N5 off5
        clear F4 N4 hR
        have o1 : @Ne Nat Dr I4 := off5 _ (.head _)
        have o2 : @Ne Nat (L' + 1) I4 := off5 _ (.tail _ (.head _))
        have hi4 : i < 4 := Nat.lt_of_lt_of_le hlt (Nat.le_of_lt_succ hn5)
        have hul2 := hI.length
        (try dsimp only); (try k_fold)
        k_steps
        refine hold_out ?_
        (try dsimp only)
        have hz : oR.data = Data.cell (some (Value.ref Dr)) := hoR
        rename Fr _ _ _ _ => F6; rename News _ _ _ _ => N6
        refine src_tup (by rfl) F6 N6 (.head _) (by exact Nat.le_of_ble_eq_true rfl) ?_
        intro I7 g7 St7 src7
        refine ⟨_, _, _, _, _, _, _, rfl, src7, ?_⟩
        refine cf_any ?_ ?_
        · intro i8 v8 I8 oI8 C8 oC8 D8 m8 ys8 h8 tk8 E8 hi8 hv8 hC8 hx8 F8 N8 off8 ne8
          obtain ⟨k8, t8, rfl, k80, k89⟩ := four hi4 _ _ hv8
          have k8r : k8 < (rs2.length : Int) := by rw [hl9]; exact k89
          clear hv8 hi8 src7
          (try simp only [LCg.Off3, and_true] at off8)
          (try dsimp only); (try k_fold)
          k_steps
          all_goals exact LCg.CompEnd.intro F8 N8 _ (fun p hp => hp) (by simp only [LCg.Off3, and_true]; exact off8) (.head _) rfl
        · intro ys8 hly
          have hly4 : ys8.length ≤ 4 := hly
          clear hly src7
          unfold LCg.FinA
          intro Dg h9 tk9 F9 N9 o9
          (try simp only [LCg.Off1, and_true] at o9)
          (try dsimp only); (try k_fold)
          k_steps
          · rename Fr _ _ _ _ => F10; rename News _ _ _ _ => N10; rename IntsAre (List.set _ _ _) _ => hi10; rename (List.set _ _ _).length = _ => hl10
            refine ForEnd.intro [_, (L' + 1, oR)] F10 N10 (List.forall_mem_cons.mpr ⟨.tail _ (.tail _ (.head _)), List.forall_mem_cons.mpr ⟨.tail _ (.tail _ (.tail _ (.head _))), List.forall_mem_cons.mpr ⟨.tail _ (.tail _ (.tail _ (.tail _ (.head _)))), List.forall_mem_nil _⟩⟩⟩) (List.forall_mem_cons.mpr ⟨o1, List.forall_mem_cons.mpr ⟨o2, List.forall_mem_nil _⟩⟩) ⟨trivial, _, _, _, rfl, hi10, hl10.trans hl9, set_bound hb (by omega)⟩
          · rename Fr _ _ _ _ => F10; rename News _ _ _ _ => N10
            refine ForEnd.intro [_, (L' + 1, oR)] F10 N10 (List.forall_mem_cons.mpr ⟨.tail _ (.tail _ (.head _)), List.forall_mem_cons.mpr ⟨.tail _ (.tail _ (.tail _ (.head _))), List.forall_mem_cons.mpr ⟨.tail _ (.tail _ (.tail _ (.tail _ (.head _)))), List.forall_mem_nil _⟩⟩⟩) (List.forall_mem_cons.mpr ⟨o1, List.forall_mem_cons.mpr ⟨o2, List.forall_mem_nil _⟩⟩) ⟨trivial, _, _, _, rfl, hI, hl9, hb⟩
      · rintro m5 news5 h5 tk5 ⟨us5, c5', rs5, rfl, hI5, hl5, hb5⟩ F5 N5
        clear F4 N4 hR
        (try dsimp only); (try k_fold)
        k_steps
        (try dsimp only)
        rename Fr _ _ _ _ => F6; rename News _ _ _ _ => N6
        refine hret _ _ _ (fun b o e => F6.keep b o (hG b o e)) ⟨rs5, ⟨_, _, _, rfl, (N6 _ (.head _)).1, ?_, hI5⟩, hl5, hb5⟩
        cases e : s.heap.get? Dr with
        | none => rfl
        | some o =>
          have := hG _ _ e
          rw [(N6 _ (.head _)).2.2] at this
          exact nomatch this
      · passes_own
      · intro I v; rfl
end

section
local macro_rules | `(tactic| walk_at "storeName") => `(tactic| dsimp only)
local macro_rules | `(tactic| walk_at "evalPart") => `(tactic| dsimp only)
local macro_rules | `(tactic| walk_at "evalPart some") => `(tactic| dsimp only)
local macro_rules | `(tactic| walk_at "evalPart none") => `(tactic| dsimp only)
local macro_rules | `(tactic| walk_at "subscriptTail") => `(tactic| dsimp only)
local macro_rules | `(tactic| walk_at "subscriptTail Name Slice str ref") => `(tactic| dsimp only)

local macro_rules | `(tactic| walk_at "ite") => `(tactic| first | with_reducible refine ite_tt ?_ | with_reducible refine ite_ff ?_ | refine ite_pos (by decide) ?_ | refine ite_neg (by decide) ?_)

local macro_rules | `(tactic| k_ne) => `(tactic| (refine neN ?_; (try dsimp only); first | assumption | exact Nat.ne_of_lt (Nat.lt_succ_self _) | exact Nat.ne_of_gt (Nat.lt_succ_self _) | exact Nat.ne_of_lt (Nat.lt_succ_of_lt (Nat.lt_succ_self _)) | exact Nat.ne_of_gt (Nat.lt_succ_of_lt (Nat.lt_succ_self _)) | (refine Ne.symm ?_; assumption)))
local macro_rules | `(tactic| walk_at "call ref") => `(tactic| refine hold_in ?_)
local macro_rules | `(tactic| walk_at "call ref") => `(tactic| (
  (with_reducible show wpAny _ _ (call (Value.ref 21) _) _ _ _);
  k_dflt (refine' Con.useN (con_term _ _) ?k1 ?k2 ?k3 ?k4 ?k5 rfl ?kd ?ku trivial ?_; (case k1 => k_asm); (case k2 => k_asm); (case k3 => k_asm); (case k4 => k_asm); (case k5 => k_asm); (case kd => ktr_room); (case ku => ktr_units));
  intro v9 h9 tk9 F9 N9 e9; subst e9; (try dsimp only)))
local macro_rules | `(tactic| walk_at "call ref") => `(tactic| (
  (with_reducible show wpAny _ _ (call (Value.ref 28) _) _ _ _);
  k_dflt (refine' Con.useN (con_eof _ _) ?k1 ?k2 ?k3 ?k4 ?k5 rfl ?kd ?ku trivial ?_; (case k1 => k_asm); (case k2 => k_asm); (case k3 => k_asm); (case k4 => k_asm); (case k5 => k_asm); (case kd => ktr_room); (case ku => ktr_units));
  intro v9 h9 tk9 F9 N9 e9; subst e9; (try dsimp only)))
local macro_rules | `(tactic| walk_at "call ref") => `(tactic| (
  (with_reducible show wpAny _ _ (call (Value.ref 42) _) _ _ _);
  k_dflt (refine' Con.useN (con_coll _ _ _ _) ?k1 ?k2 ?k3 ?k4 ?k5 rfl ?kd ?ku trivial ?_; (case k1 => k_asm); (case k2 => k_asm); (case k3 => k_asm); (case k4 => k_asm); (case k5 => k_asm); (case kd => ktr_room); (case ku => ktr_units));
  (intro v9 h9 tk9 F9 N9 e9; obtain ⟨t9, e9⟩ := e9; subst e9); (try dsimp only)))
local macro_rules | `(tactic| walk_at "call ref") => `(tactic| (
  (with_reducible show wpAny _ _ (call (Value.ref 73) _) _ _ _);
  k_dflt (refine' Con.useN (con_rest _ _ _ _ ?h0) ?k1 ?k2 ?k3 ?k4 ?k5 rfl ?kd ?ku trivial ?_; (case k1 => k_asm); (case k2 => k_asm); (case k3 => k_asm); (case k4 => k_asm); (case k5 => k_asm); (case kd => ktr_room); (case ku => ktr_units); (case h0 => first | assumption | decide | exact Int.pow_pos (by decide)));
  (intro v9 h9 tk9 F9 N9 e9; obtain ⟨t9, e9⟩ := e9; subst e9); (try dsimp only)))
local macro_rules | `(tactic| walk_at "call builtin:str.swapcase") => `(tactic| (k_here; (with_reducible refine KXw.swapcase (swap_w1 _) (swap_fit _) ?_); intro _ _; (try dsimp only)))
local macro_rules | `(tactic| walk_at "call builtin:str.join") => `(tactic| refine hold_in ?_)
local macro_rules | `(tactic| walk_at "compareOp NotEq ref ref") => `(tactic| refine hold_in ?_)
local macro_rules | `(tactic| walk_at "binaryOp Mult int int") => `(tactic| (k_dflt (refine' mul_small ?a ?_; (case a => omega)); (try dsimp only)))
local macro_rules | `(tactic| walk_at "call builtin:chr") => `(tactic| (k_dflt (refine' chr_of_range ?a ?b ?_; (case a => omega); (case b => omega)); (try dsimp only)))
local macro_rules | `(tactic| walk_at "subscriptTail") => `(tactic| (
  (with_reducible show wpAny _ _ (subscriptTail _ _ (Value.str (Str.ofString "ABCDEFGHIJKLMNOP") _) (Value.int _ _)) _ _ _);
  k_dflt (refine' ts_it (ltr_item ?a0 ?b0) ?a ?b (by decide) ?_ ?hs ?ht; (case a0 => assumption); (case b0 => assumption); (case a => assumption); (case b => (show _ < (16 : Int); assumption)); (case hs => with_unfolding_all rfl); (case ht => intro _; with_unfolding_all rfl)); (try dsimp only)))
local macro_rules | `(tactic| walk_at "subscriptTail Name Slice str ref") => `(tactic| (
  (with_reducible rename Fr _ _ _ _ => F'); (with_reducible rename News _ _ _ _ => N');
  k_dflt (first
    | (refine' ts_ss (s := ⟨_, _, _, _, _⟩) (wd_slice _ _ ?a) ?z F' N' ?_ ?hs ?ht; (case a => assumption); (case z => exact Nat.le_of_ble_eq_true rfl); (case hs => with_unfolding_all rfl); (case ht => intro _; with_unfolding_all rfl))
    | (refine' ts_ss (s := ⟨_, _, _, _, _⟩) (wd_slice2 _ _ ?a) ?z F' N' ?_ ?hs ?ht; (case a => assumption); (case z => exact Nat.le_of_ble_eq_true rfl); (case hs => with_unfolding_all rfl); (case ht => intro _; with_unfolding_all rfl)));
  intro _ _ _ _ _; (try dsimp only)))
local macro_rules | `(tactic| walk_at "call ref") => `(tactic| (
  (with_reducible show wpAny _ _ (call (Value.ref 56) _) _ _ _);
  k_dflt (refine' Con.useN (con_lev _ _ _ _ _ ?c0 ?c1 _ _ _) ?k1 ?k2 ?k3 ?k4 ?k5 rfl ?kd ?ku trivial ?_; (case k1 => k_asm); (case k2 => k_asm); (case k3 => k_asm); (case k4 => k_asm); (case k5 => k_asm); (case kd => ktr_room); (case ku => ktr_units); (case c0 => decide); (case c1 => decide));
  (intro v9 h9 tk9 F9 N9 e9; obtain ⟨t9, e9⟩ := e9; subst e9); (try dsimp only)))
local macro_rules | `(tactic| walk_at "subscriptTail Name Name str int") => `(tactic| refine hold_in ?_)
local macro_rules | `(tactic| walk_at "subscriptTail Name BinOp str int") => `(tactic| refine hold_in ?_)
local macro_rules | `(tactic| walk_at "call builtin:abs") => `(tactic| (k_dflt (refine' ts_abs rfl ?_); intro _ _; (try dsimp only)))
local macro_rules | `(tactic| walk_at "call builtin:min") => `(tactic| (k_dflt (refine' ts_min ?h ?F ?N ?_; (case h => rfl); (case F => k_asm); (case N => k_asm)); intro _ _ _ F9 N9; (try dsimp only)))
local macro_rules | `(tactic| walk_at "call builtin:sum") => `(tactic| refine hold_in ?_)
local macro_rules | `(tactic| walk_at "MEnd") => `(tactic| refine hold_in ?_)
local macro_rules | `(tactic| walk_at "pyIter ref") => `(tactic| refine hold_in ?_)
local macro_rules | `(tactic| walk_at "pyIter str") => `(tactic| refine hold_in ?_)
local macro_rules | `(tactic| walk_at "pyIter bytes") => `(tactic| refine hold_in ?_)
local macro_rules | `(tactic| walk_at "exec Assign cons ListComp") => `(tactic| (
  k_here; k_dflt (refine assign_comp (F₀ := by k_asm) (by rfl) (by with_unfolding_all rfl) (by with_unfolding_all rfl) (by decide) (by rfl) (by decide) (by rfl) (by rfl) (by rfl) ?_)))
local macro_rules | `(tactic| walk_at "eval ListComp") => `(tactic| (
  k_here; k_dflt (first
    | (lct_look; refine list_compT (by k_asm) (by with_unfolding_all rfl) (by decide) (by rfl) (by decide) (by rfl) ?_)
    | refine list_comp (by k_asm) (by with_unfolding_all rfl) (by decide) (by rfl) (by decide) (by rfl) ?_)))

theorem symb_of {l : Addr} {vs : List Value} {ns : List Int} (_ : IntsAre vs ns) (hlen : ns.length ≤ 63) : Con 8 64 61 [.ref l] (fun h => h.IsList l vs.toArray ∧ IntsAre vs ns)
  (fun h h' v => ∃ rs : List Int, NewInts rs h h' v ∧ rs.length = 9 ∧ ∀ x ∈ rs, 251 ≤ x ∧ x ≤ 260) := con_symb l vs ns hlen

theorem law_holds : PySem.Challenge.rw_wj0012_01.Holds := by
  w_top off
  refine Mine.hd ?_
  w_strict (k_go0; (all_goals try k_fold); k_steps)
  refine hold_out ?_
  (try dsimp only)
  rename Fr _ _ _ _ => F0; rename News _ _ _ _ => N0; rename Below _ _ _ _ => B0; rename Frag.In _ _ => X0; rename Top _ _ _ _ _ _ => T0
  rename IntsAre _ _ => hI
  refine Con.useL (symb_of hI ?kl) B0 F0 N0 X0 T0 rfl ?kd ?ku ?kp ?_
  (case kl => omega); (case kd => ktr_room); (case ku => ktr_units); (case kp => exact ⟨by is_list, hI⟩)
  rintro rs lr ys cr h1 tk1 ⟨hl9, hb9⟩ hrs F1 N1 o1
  replace F1 : Fr _ _ h1 (fun y => if y = Str.ofString "script" then some (.ref _) else none) := F1
  clear F0 N0 hI
  (try simp only [LCg.Off1, and_true] at o1)
  obtain ⟨r1, r2, r3⟩ := o1
  have hyl : ys.length = 9 := hrs.length.trans hl9
  (try dsimp only); (try k_fold)
  k_steps
  refine hold_out ?_
  (try dsimp only)
  rename Fr _ _ _ _ => F2; rename News _ _ _ _ => N2
  refine comp_list (s := ⟨_, _, _, _, _⟩) (fun i => .str (w1 (bt rs i))) rfl F2 N2 (.head _) (by rw [sizeLine_eq, hyl]; omega) ?_ ?_
  · rintro i v I oI C oC D m2 ys2 h2 tk2 E2 hi hv hC hx F3 N3 off ne
    obtain ⟨k, t3, rfl, hk⟩ := IntsAre.at hrs _ v hv
    clear F2 N2 hv hi
    (try simp only [LCg.Off3, and_true] at off)
    (try dsimp only); (try k_fold)
    k_steps
    all_goals refine hold_out ?_
    · exact MEnd.intro (by assumption) (by assumption) (car_x hk (by assumption))
    · exact MEnd.intro (by assumption) (by assumption) (car_X hk (by assumption))
  intro g3 ys3 hc3
  rw [hyl] at hc3
  unfold LCg.FinE
  intro D3 h3 tk3 F3 N3 o3
  (try simp only [LCg.Off1, and_true] at o3)
  clear F2 N2
  (try dsimp only); (try k_fold)
  k_steps
  refine hold_out ?_
  show wpAny _ _ (call (.builtin "str.join") [.str _ _, .ref D3]) _ _ _
  refine join_listC ⟨_, (N3 _ (.head _)).1, rfl, _, rfl⟩ (CarriedAll.strsOf hc3) (by decide) (Nat.le_of_ble_eq_true rfl) ?_
  intro t4 k4
  rw [wd_join (bt rs)]
  replace N3 := keepN [false, true, true, true, true] N3
  simp only [keepL] at N3
  clear o3
  (try dsimp only); (try k_fold)
  k_steps
  refine hold_out ?_
  (try dsimp only)
  rename Fr _ _ _ _ => F4; rename News _ _ _ _ => N4
  refine comp_str (s := ⟨_, _, _, _, _⟩) (fun i => .int (sg (bt rs i))) rfl F4 N4 (by rw [sizeLine_eq]; exact Nat.le_of_ble_eq_true rfl) (wd_ascii _) ?_ ?_
  · intro i c u I oI C oC D m2 ys2 h2 tk2 E2 hi hc hC hx F5 N5 off ne
    obtain ⟨hi9, hc⟩ := wd_letter hi hc
    rw [hc] at hx
    (try clear F4 N4 hi hc)
    (try simp only [LCg.Off3, and_true] at off)
    (try dsimp only); (try k_fold)
    k_steps
    refine hold_out ?_
    exact MEnd.intro (by assumption) (by assumption) (car_int (coll_not _))
  intro g5 ys5 hc5
  unfold LCg.FinA
  intro D5 h5 tk5 F5 N5 o5
  (try simp only [LCg.Off1, and_true] at o5)
  (try clear F4 N4)
  (try dsimp only); (try k_fold)
  k_steps
  refine hold_out ?_
  (try dsimp only)
  rename Fr _ _ _ _ => F6; rename News _ _ _ _ => N6
  refine comp_list (s := ⟨_, _, _, _, _⟩) (fun i => .int (sg (bt rs i))) rfl F6 N6 (by k_mem) (by rw [sizeLine_eq, hyl]; omega) ?_ ?_
  · rintro i v I oI C oC D m2 ys2 h2 tk2 E2 hi hv hC hx F7 N7 off ne
    obtain ⟨k, t3, rfl, hk⟩ := IntsAre.at hrs _ v hv
    clear F6 N6 hv hi
    (try simp only [LCg.Off3, and_true] at off)
    (try dsimp only); (try k_fold)
    k_steps
    all_goals refine hold_out ?_
    · exact MEnd.intro (by assumption) (by assumption) (car_s hk (by assumption))
    · exact MEnd.intro (by assumption) (by assumption) (car_S hk (by assumption))
  intro g7 ys7 hc7
  rw [hyl] at hc7
  unfold LCg.FinE
  intro D7 h7 tk7 F7 N7 o7
  (try simp only [LCg.Off1, and_true] at o7)
  (try clear F6 N6)
  (try dsimp only); (try k_fold)
  k_steps
  refine hold_out ?_
  (try dsimp only)
  rename Fr _ _ _ _ => F8; rename News _ _ _ _ => N8
  refine ne_same N8 (by k_mem) (by k_mem) hc5 hc7 (flat_map fun i => flat_int _) (by ktr_units) ?_
  (try dsimp only); (try k_fold)
  k_steps
  refine hold_out ?_
  (try dsimp only)
  rename Fr _ _ _ _ => F9; rename News _ _ _ _ => N9
  have hsg : IntsAre ys5 (sgL (bt rs)) := CarriedAll.intsOf hc5
  have hl9 := News.isList N9 (.tail _ (.head _))
  replace N9 := keepN [false, false, true, true, true, true] N9
  simp only [keepL] at N9
  clear o5 o7
  refine Con.useL (con_lead _ _ _ (sgL_len _) (sgL_ones _)) B0 F9 N9 X0 T0 rfl ?kd ?ku ⟨hl9, hsg⟩ ?_
  (case kd => ktr_room); (case ku => ktr_units)
  rintro fl lf ysf cf hf tkf hfl hfs F10 N10 o10
  (try simp only [LCg.Off1, and_true] at o10)
  obtain ⟨-, f1, f2, f3⟩ := o10
  have hf5 : fl.length = 5 := by rw [hfl]; rfl
  have hf0 : fl.getD (Int.toNat 0) 0 = 1 ∨ fl.getD (Int.toNat 0) 0 = -1 := by rw [hfl]; exact law0 _
  have hlaw1 : ∀ i < 5, rest (fl.getD i 0) (2 ^ i) = 0 := by rw [hfl]; exact law1 _
  have hyf : ysf.length = 5 := hfs.length.trans hf5
  clear F9 N9
  (try dsimp only); (try k_fold)
  k_steps
  refine hold_out ?_
  (try dsimp only)
  rename Fr _ _ _ _ => F11; rename News _ _ _ _ => N11
  rename IsRange _ _ _ _ _ _ _ _ => hR
  refine comp_none (s := ⟨_, _, _, _, _⟩) (n := 5) rfl F11 N11 hR (by decide) (by decide) (by decide) ?_ ?_
  · intro i t I oI C oC D m2 ys2 h2 tk2 E2 hi hC hx F12 N12 off ne
    clear F11 N11 hR
    (try simp only [LCg.Off3, and_true] at off)
    (try dsimp only); (try k_fold)
    k_steps
    refine hold_out ?_
    exact MEnd.intro (by assumption) (by assumption) (car_bool (by rw [Int.toNat_natCast, hlaw1 i hi]; rfl))
  intro g12
  unfold LCg.FinE
  intro D13 h13 tk13 F13 N13 o13
  (try simp only [LCg.Off1, and_true] at o13)
  (try clear F11 N11 hR)
  (try dsimp only); (try k_fold)
  k_steps
  refine hold_out ?_
  (try dsimp only)
  rename Fr _ _ _ _ => F14; rename News _ _ _ _ => N14
  show wpAny _ _ (compareOp .NotEq (.ref _) (.ref _)) _ _ _
  refine ne_same (xs := []) (ys := []) N14 (by k_mem) (by k_mem) .nil .nil (fun d hd => nomatch hd) (by ktr_units) ?_
  (try dsimp only); (try k_fold)
  k_steps
  refine hold_out ?_
  (try dsimp only)
  rename Fr _ _ _ _ => F15; rename News _ _ _ _ => N15
  replace N15 := keepN [false, false, true, true, true, true, true] N15
  simp only [keepL] at N15
  clear o13
  rename IsRange _ _ _ _ _ _ _ _ => hR
  refine comp_range (s := ⟨_, _, _, _, _⟩) (n := 5) (fun i => .int (pt fl i)) rfl F15 N15 hR (by decide) (by decide) (by decide) ?_ ?_
  · intro i t I oI C oC D m2 ys2 h2 tk2 E2 hi hC hx F16 N16 off ne
    clear F15 N15 hR
    (try simp only [LCg.Off3, and_true] at off)
    (try dsimp only); (try k_fold)
    k_steps
    refine hold_out ?_
    exact MEnd.intro (by assumption) (by assumption) (car_int rfl)
  intro g16 ysp hcp
  unfold LCg.FinE
  intro D16 h16 tk16 F16 N16 o16
  (try simp only [LCg.Off1, and_true] at o16)
  obtain ⟨-, -, p1, p2, p3⟩ := o16
  (try clear F15 N15 hR)
  have hps : IntsAre ysp ((List.range 5).map (pt fl)) := CarriedAll.intsOf hcp
  obtain ⟨ps, hpe⟩ : ∃ ps, ps = (List.range 5).map (pt fl) := ⟨_, rfl⟩
  rw [← hpe] at hps
  clear hcp
  have hp5 : ps.length = 5 := by rw [hpe]; rfl
  have hpb : ∀ i < 5, 0 ≤ ps.getD i 0 ∧ ps.getD i 0 < 16 := by rw [hpe]; exact pt_bound fl
  have hlaw2 : ∀ i < 5, od fl i = inB (ltr (ps.getD i 0)) := by rw [hpe, hfl]; exact law2 _
  have hlaw3 : ((runL ((List.range 5).map (od fl)) : Nat) : Int) = 1 + ((runL ((List.range 4).map fun i => apt (bt rs) 1 i == 1) : Nat) : Int) := by rw [hfl]; exact law3 _
  have hp0 : 1 ≤ ps.getD 0 0 := by rw [hpe, hfl]; exact law0p _
  (try dsimp only); (try k_fold)
  k_steps
  refine hold_out ?_
  (try dsimp only)
  rename Fr _ _ _ _ => F17; rename News _ _ _ _ => N17
  rename IsRange _ _ _ _ _ _ _ _ => hR
  refine comp_range (s := ⟨_, _, _, _, _⟩) (n := 5) (fun i => .int (ps.getD i 0 * 16 ^ (4 - i))) rfl F17 N17 hR (by decide) (by decide) (by decide) ?_ ?_
  · intro i t I oI C oC D m2 ys2 h2 tk2 E2 hi hC hx F18 N18 off ne
    clear F17 N17 hR
    have pb0 : 0 ≤ ps.getD (i : Int).toNat 0 := (hpb i hi).1
    have pb1 : ps.getD (i : Int).toNat 0 < 16 := (hpb i hi).2
    (try simp only [LCg.Off3, and_true] at off)
    (try dsimp only); (try k_fold)
    k_steps
    refine hold_out ?_
    exact MEnd.intro (by assumption) (by assumption) (car_int (by rw [Int.toNat_natCast, show (4 - (i : Int)).toNat = 4 - i by omega]))
  intro g18 ysm hcm
  unfold LCg.FinE
  intro D18 h18 tk18 F18 N18 o18
  (try clear F17 N17 hR)
  clear o18
  have hms : IntsAre ysm ((List.range 5).map fun i => ps.getD i 0 * 16 ^ (4 - i)) := CarriedAll.intsOf hcm
  (try dsimp only); (try k_fold)
  k_steps
  refine hold_out ?_
  (try dsimp only)
  rename Fr _ _ _ _ => F19; rename News _ _ _ _ => N19
  have hl19 := News.isList N19 (.head _)
  replace N19 := keepN [false, true, true, true, true, true, true] N19
  simp only [keepL] at N19
  refine LSm.sum_ints (s := ⟨_, _, _, _, _⟩) F19 N19 rfl hl19 hms ?_
  intro h20 tk20 t20 F20 N20
  clear F19 N19 hl19 hms hcm
  have hsum := ap_sum hf0 hpb
  generalize ((List.range 5).map fun i => ps.getD i 0 * 16 ^ (4 - i)).sum = sm at hsum ⊢
  (try dsimp only); (try k_fold)
  k_steps
  refine hold_out ?_
  (try dsimp only)
  rename Fr _ _ _ _ => F21; rename News _ _ _ _ => N21
  refine Con.useN (con_ap _ _ _ _ _ _ hsum hp0 (hpb 0 (by decide)).1 (hpb 0 (by decide)).2 (hpb 1 (by decide)).1 (hpb 1 (by decide)).2 (hpb 2 (by decide)).1 (hpb 2 (by decide)).2 (hpb 3 (by decide)).1 (hpb 3 (by decide)).2 (hpb 4 (by decide)).1 (hpb 4 (by decide)).2 _) B0 F21 N21 X0 T0 rfl ?kd ?ku trivial ?_
  (case kd => ktr_room); (case ku => ktr_units)
  rintro v22 h22 tk22 F22 N22 ⟨t22, rfl⟩
  clear F21 N21 hsum
  (try dsimp only); (try k_fold)
  k_steps
  refine hold_out ?_
  (try dsimp only)
  refine comp_bytes (s := ⟨_, _, _, _, _⟩) (fun i => .str (ltr (ps.getD i 0))) rfl F22 N22 (by rw [sizeLine_eq]; exact Nat.le_of_ble_eq_true rfl) ?_ ?_
  · intro i c u I oI C oC D m2 ys2 h2 tk2 E2 hi hc hC hx F23 N23 off ne
    replace hi : i < 5 := hi
    rw [ap_bytes hpb hi hc] at hx
    have pb0 := (hpb i hi).1
    have pb1 := (hpb i hi).2
    clear F22 N22 hc
    (try simp only [LCg.Off3, and_true] at off)
    (try dsimp only); (try k_fold)
    k_steps
    refine hold_out ?_
    exact MEnd.intro (by assumption) (by assumption) (car_str rfl)
  intro g24 yst hct
  replace hct : CarriedAll yst ((List.range 5).map fun i => .str (ltr (ps.getD i 0))) := hct
  unfold LCg.FinA
  intro D24 h24 tk24 F24 N24 o24
  (try clear F22 N22)
  clear o24
  (try dsimp only); (try k_fold)
  k_steps
  refine hold_out ?_
  (try dsimp only)
  rename Fr _ _ _ _ => F25; rename News _ _ _ _ => N25
  have hyp : ysp.length = 5 := hps.length.trans hp5
  refine comp_list (s := ⟨_, _, _, _, _⟩) (fun i => .str (ltr (ps.getD i 0))) rfl F25 N25 (by k_mem) (by rw [sizeLine_eq, hyp]; omega) ?_ ?_
  · rintro i v I oI C oC D m2 ys2 h2 tk2 E2 hi hv hC hx F26 N26 off ne
    rw [hyp] at hi
    obtain ⟨k, t3, rfl, hk⟩ := IntsAre.at hps _ v hv
    have hkk := getD_of hk
    have pb0 : 0 ≤ k := hkk ▸ (hpb i hi).1
    have pb1 : k < 16 := hkk ▸ (hpb i hi).2
    clear F25 N25 hv
    (try simp only [LCg.Off3, and_true] at off)
    (try dsimp only); (try k_fold)
    k_steps
    refine hold_out ?_
    exact MEnd.intro (by assumption) (by assumption) (car_str (by rw [hkk]))
  intro g27 ys27 hc27
  rw [hyp] at hc27
  unfold LCg.FinE
  intro D27 h27 tk27 F27 N27 o27
  clear F25 N25 o27
  (try dsimp only); (try k_fold)
  k_steps
  refine hold_out ?_
  (try dsimp only)
  rename Fr _ _ _ _ => F28; rename News _ _ _ _ => N28
  refine ne_same N28 (by k_mem) (by k_mem) hct hc27 (flat_mapL fun i hi => flat_str _ (ltr_ok (hpb i hi).1 (hpb i hi).2)) (by ktr_units) ?_
  replace N28 := keepN [false, true, true, true, true, true, true, true] N28
  simp only [keepL] at N28
  clear hc27
  (try dsimp only); (try k_fold)
  k_steps
  refine hold_out ?_
  (try dsimp only)
  rename Fr _ _ _ _ => F29; rename News _ _ _ _ => N29
  rename IsRange _ _ _ _ _ _ _ _ => hR
  refine comp_range (s := ⟨_, _, _, _, _⟩) (n := 5) (fun i => .bool (od fl i)) rfl F29 N29 hR (by decide) (by decide) (by decide) ?_ ?_
  · intro i t I oI C oC D m2 ys2 h2 tk2 E2 hi hC hx F30 N30 off ne
    clear F29 N29 hR
    (try simp only [LCg.Off3, and_true] at off)
    (try dsimp only); (try k_fold)
    k_steps
    refine hold_out ?_
    exact MEnd.intro (by assumption) (by assumption) (car_bool rfl)
  intro g31 yso hco
  unfold LCg.FinA
  intro D31 h31 tk31 F31 N31 o31
  (try clear F29 N29 hR)
  clear o31
  (try dsimp only); (try k_fold)
  k_steps
  refine hold_out ?_
  (try dsimp only)
  rename Fr _ _ _ _ => F32; rename News _ _ _ _ => N32
  have hyt : yst.length = 5 := by rw [CarriedAll.len hct]; rfl
  refine comp_list (s := ⟨_, _, _, _, _⟩) (fun i => .bool (od fl i)) rfl F32 N32 (by k_mem) (by rw [sizeLine_eq, hyt]; omega) ?_ ?_
  · rintro i v I oI C oC D m2 ys2 h2 tk2 E2 hi hv hC hx F33 N33 off ne
    obtain ⟨hi5, cv⟩ := carried_at hct hv
    obtain ⟨t3, rfl⟩ := carried_str cv
    clear F32 N32 hv cv
    (try simp only [LCg.Off3, and_true] at off)
    (try dsimp only); (try k_fold)
    k_steps
    refine hold_out ?_
    exact MEnd.intro (by assumption) (by assumption) (car_bool (hlaw2 i hi5).symm)
  intro g34 ys34 hc34
  rw [hyt] at hc34
  unfold LCg.FinE
  intro D34 h34 tk34 F34 N34 o34
  clear F32 N32 o34
  (try dsimp only); (try k_fold)
  k_steps
  refine hold_out ?_
  (try dsimp only)
  rename Fr _ _ _ _ => F35; rename News _ _ _ _ => N35
  refine ne_same N35 (by k_mem) (by k_mem) hco hc34 (flat_map fun i => flat_bool _) (by ktr_units) ?_
  replace N35 := keepN [false, true, false, false, false, false, true, true, true] N35
  simp only [keepL] at N35
  clear hc34
  (try dsimp only); (try k_fold)
  k_steps
  refine hold_out ?_
  (try dsimp only)
  rename Fr _ _ _ _ => F36; rename News _ _ _ _ => N36
  rename IsRange _ _ _ _ _ _ _ _ => hR
  refine comp_range (s := ⟨_, _, _, _, _⟩) (n := 4) (fun i => .int (apt (bt rs) 1 i)) rfl F36 N36 hR (by decide) (by decide) (by decide) ?_ ?_
  · intro i t I oI C oC D m2 ys2 h2 tk2 E2 hi hC hx F37 N37 off ne
    clear F36 N36 hR
    (try simp only [LCg.Off3, and_true] at off)
    (try dsimp only); (try k_fold)
    k_steps
    refine hold_out ?_
    exact MEnd.intro (by assumption) (by assumption) (car_int rfl)
  intro g38 ysa hca
  unfold LCg.FinA
  intro D38 h38 tk38 F38 N38 o38
  (try clear F36 N36 hR)
  clear o38
  (try dsimp only); (try k_fold)
  k_steps
  refine hold_out ?_
  (try dsimp only)
  rename Fr _ _ _ _ => F39; rename News _ _ _ _ => N39
  rename IsRange _ _ _ _ _ _ _ _ => hR
  refine comp_range (s := ⟨_, _, _, _, _⟩) (n := 4) (fun i => .int (apt (bt rs) 1 i)) rfl F39 N39 hR (by decide) (by decide) (by decide) ?_ ?_
  · intro i t I oI C oC D m2 ys2 h2 tk2 E2 hi hC hx F40 N40 off ne
    clear F39 N39 hR
    (try simp only [LCg.Off3, and_true] at off)
    (try dsimp only); (try k_fold)
    k_steps
    refine hold_out ?_
    (try dsimp only)
    refine ts_wd (wd_it1 (bt rs) i hi) (by omega) (by omega) ?_
    (try dsimp only)
    k_steps
    refine hold_out ?_
    (try dsimp only)
    refine ts_wd (wd_it2 (bt rs) i hi) (by omega) (by omega) ?_
    (try dsimp only)
    k_steps
    refine hold_out ?_
    (try dsimp only)
    refine ts_wd (wd_it3 (bt rs) i hi) (by omega) (by omega) ?_
    (try dsimp only)
    k_steps
    refine hold_out ?_
    (try dsimp only)
    refine ts_wd (wd_it4 (bt rs) i hi) (by omega) (by omega) ?_
    (try dsimp only)
    k_steps
    refine hold_out ?_
    exact MEnd.intro (by assumption) (by assumption) (car_int (apt_abs _ _))
  intro g41 ys41 hc41
  unfold LCg.FinE
  intro D41 h41 tk41 F41 N41 o41
  (try clear F39 N39 hR)
  clear o41
  (try dsimp only); (try k_fold)
  k_steps
  refine hold_out ?_
  (try dsimp only)
  rename Fr _ _ _ _ => F42; rename News _ _ _ _ => N42
  refine ne_same N42 (by k_mem) (by k_mem) hca hc41 (flat_map fun i => flat_int _) (by ktr_units) ?_
  replace N42 := keepN [false, true, true, true, true, true] N42
  simp only [keepL] at N42
  clear hc41
  (try dsimp only); (try k_fold)
  k_steps
  refine hold_out ?_
  (try dsimp only)
  rename Fr _ _ _ _ => F43; rename News _ _ _ _ => N43
  rename IsRange _ _ _ _ _ _ _ _ => hR
  refine comp_range (s := ⟨_, _, _, _, _⟩) (n := 4) (fun i => .int (apt (bt rs) 0 i)) rfl F43 N43 hR (by decide) (by decide) (by decide) ?_ ?_
  · intro i t I oI C oC D m2 ys2 h2 tk2 E2 hi hC hx F44 N44 off ne
    clear F43 N43 hR
    (try simp only [LCg.Off3, and_true] at off)
    (try dsimp only); (try k_fold)
    k_steps
    refine hold_out ?_
    exact MEnd.intro (by assumption) (by assumption) (car_int rfl)
  intro g45 ys45 hc45
  unfold LCg.FinE
  intro D45 h45 tk45 F45 N45 o45
  (try clear F43 N43 hR)
  clear o45
  have hya : ysa.length = 4 := by rw [CarriedAll.len hca]; rfl
  (try dsimp only); (try k_fold)
  k_steps
  refine hold_out ?_
  (try dsimp only)
  rename Fr _ _ _ _ => F46; rename News _ _ _ _ => N46
  refine comp_list (s := ⟨_, _, _, _, _⟩) (fun i => .int (apt (bt rs) 0 i)) rfl F46 N46 (by k_mem) (by rw [sizeLine_eq, hya]; omega) ?_ ?_
  · rintro i v I oI C oC D m2 ys2 h2 tk2 E2 hi hv hC hx F47 N47 off ne
    obtain ⟨hi4, cv⟩ := carried_at hca hv
    obtain ⟨t3, rfl⟩ := carried_int cv
    clear F46 N46 hv cv
    (try simp only [LCg.Off3, and_true] at off)
    (try dsimp only); (try k_fold)
    k_steps
    refine hold_out ?_
    exact MEnd.intro (by assumption) (by assumption) (car_int (apt_min _ _))
  intro g48 ys48 hc48
  rw [hya] at hc48
  unfold LCg.FinE
  intro D48 h48 tk48 F48 N48 o48
  clear F46 N46 o48
  (try dsimp only); (try k_fold)
  k_steps
  refine hold_out ?_
  (try dsimp only)
  rename Fr _ _ _ _ => F49; rename News _ _ _ _ => N49
  refine ne_same N49 (by k_mem) (by k_mem) hc45 hc48 (flat_map fun i => flat_int _) (by ktr_units) ?_
  replace N49 := keepN [false, false, true, true, true, true, true] N49
  simp only [keepL] at N49
  clear hc45 hc48
  (try dsimp only); (try k_fold)
  k_steps
  refine hold_out ?_
  (try dsimp only)
  rename Fr _ _ _ _ => F50; rename News _ _ _ _ => N50
  have hbo : LSm.BoolsAre yso ((List.range 5).map (od fl)) := LSm.BoolsAre.of_carried hco
  refine Con.useN (con_run _ yso _) B0 F50 N50 X0 T0 rfl ?kd ?ku ⟨by is_list, hbo, Nat.le_refl 5⟩ ?_
  (case kd => ktr_room); (case ku => ktr_units)
  rintro v51 h51 tk51 F51 N51 ⟨t51, rfl⟩
  rw [hlaw3]
  clear F50 N50 hbo
  (try dsimp only); (try k_fold)
  k_steps
  refine hold_out ?_
  (try dsimp only)
  rename Fr _ _ _ _ => F52; rename News _ _ _ _ => N52
  refine comp_list (s := ⟨_, _, _, _, _⟩) (fun i => .bool (apt (bt rs) 1 i == 1)) rfl F52 N52 (by k_mem) (by rw [sizeLine_eq, hya]; omega) ?_ ?_
  · rintro i v I oI C oC D m2 ys2 h2 tk2 E2 hi hv hC hx F53 N53 off ne
    obtain ⟨hi4, cv⟩ := carried_at hca hv
    obtain ⟨t3, rfl⟩ := carried_int cv
    clear F52 N52 hv cv
    (try simp only [LCg.Off3, and_true] at off)
    (try dsimp only); (try k_fold)
    k_steps
    refine hold_out ?_
    exact MEnd.intro (by assumption) (by assumption) (car_bool rfl)
  intro g54 ys54 hc54
  rw [hya] at hc54
  unfold LCg.FinE
  intro D54 h54 tk54 F54 N54 o54
  clear F52 N52 o54
  (try dsimp only); (try k_fold)
  k_steps
  refine hold_out ?_
  (try dsimp only)
  rename Fr _ _ _ _ => F55; rename News _ _ _ _ => N55
  have hba : LSm.BoolsAre ys54 ((List.range 4).map fun i => apt (bt rs) 1 i == 1) := LSm.BoolsAre.of_carried hc54
  refine Con.useN (con_run _ ys54 _) B0 F55 N55 X0 T0 rfl ?kd ?ku ⟨by is_list, hba, Nat.le_succ 4⟩ ?_
  (case kd => ktr_room); (case ku => ktr_units)
  rintro v56 h56 tk56 F56 N56 ⟨t56, rfl⟩
  clear F55 N55 hba
  (try dsimp only); (try k_fold)
  k_steps
end
end Mine
theorem PySem.Challenge.cw_wj0012_01_holds : PySem.Challenge.rw_wj0012_01.Holds :=
  Mine.law_holds
