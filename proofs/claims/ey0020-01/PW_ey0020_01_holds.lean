import PyProof.Rows.All
import Wide.All
import OpenK.AllK
import Wide.FinOn
import PySem.Challenge.RW_ey0020_01
section
open PySem PySem.W PyProof.Rows
set_option Elab.async false
set_option maxRecDepth 100000
set_option maxHeartbeats 0
namespace Mine
/-- an empty table of codes -/
abbrev tabObj0 : Obj := { cls := .none, data := .fields #[] }
def KT (K : Params → Frag) : Params → Frag := fun P => (203, tabObj0) :: (219, tabObj0) :: K P
theorem KT_as {K : Params → Frag} {as : List Addr} (e : ∀ P, as = (K P).map (·.1)) : ∀ P, 203 :: 219 :: as = (KT K P).map (·.1) := fun P => by rw [e P]; rfl
def hookT (K : Params → Frag) (as : List Addr) (e : ∀ P, as = (K P).map (·.1)) : Hook := kHook (KT K) (203 :: 219 :: as) (KT_as e)
section
local macro_rules | `(tactic| o_head (kHook $k $a $e)) => `(tactic| o_head (Mine.hookT $k $a $e))
open_top hd for PySem.Challenge.rw_ey0020_01
end
end Mine
end
namespace Mine
section
local macro_rules | `(tactic| walk_at "mine_nothing") => `(tactic| skip)
theorem fresh_Base1 : True ∧ True := by
  w_top off
  first | (walk1; fail "on") | exact ⟨trivial, trivial⟩
end
end Mine
section
open PySem PySem.W PyProof.Rows PySem.Calls PySem.Spec
set_option Elab.async false
set_option maxRecDepth 100000
set_option maxHeartbeats 0
namespace Mine
noncomputable abbrev PR : Program := Challenge.rw_ey0020_01.row.prog
noncomputable abbrev KK (w : World) : Frag := hd.heap_39 w.params
noncomputable abbrev LO : List Str := looseW hd.view_39 [Str.ofString "_tuplegetter", Str.ofString "CellTable", Str.ofString "load", Str.ofString "_SINGLE_CELL_UNICODE_RANGES", Str.ofString "get_character_cell_size", Str.ofString "cached_cell_len", Str.ofString "cell_len", Str.ofString "split_graphemes", Str.ofString "_split_text", Str.ofString "split_text", Str.ofString "set_cell_size"]
abbrev qTop (dp un : Nat) (gd : Option (List Code)) (fr : Option (List Env)) : Around := { handled := none, depth := dp, frames := fr, guards := gd, units := un }
/-- the old objects beside the ledger's stay -/
def KeepsBut (news : List (Addr × Obj)) (h h' : Heap) : Prop := ∀ b o, b ∉ news.map (·.1) → h.get? b = some o → h'.get? b = some o
theorem KeepsBut.then {news : List (Addr × Obj)} {h g h' : Heap} {L : Addr} {m : Str → Option Value} (k : KeepsBut news h g) (F : Fr g L h' m) : KeepsBut news h h' := fun b o hb e => F.keep b o (k b o hb e)
section
variable {prog : Program} {w : World} {A : Around} {s : Shared} {h₀ : Heap} {L : Addr} {m : Str → Option Value} {news : List (Addr × Obj)} {K : Frag}
  {R : Result → Shared → Prop} {name qual : Str} {params : Arguments} {body : List Stmt} {scope : Scope} {dV kV doc pm cdv ct oc : Value} {an od : Option Addr} {osl : Array (Option Value)} {f : Addr} {args : Args} {binds : List (Str × Value)} {p : Program} {loose : List Str} {mg mb : Str → Option Value}
/-- the heap with the ledger's objects laid aside: the base of a call -/
abbrev shut (h : Heap) (news : List (Addr × Obj)) : Heap := hideAll h (news.map (·.1))
theorem shut_get {h : Heap} {b : Addr} {o : Obj} (e : h.get? b = some o) (hb : ∀ p ∈ news, p.1 ≠ b) : (shut h news).get? b = some o :=
  hideAll_get _ e fun q => let ⟨p, hp, e'⟩ := List.mem_map.mp q; hb p hp e'
theorem off_old {b : Addr} {o : Obj} (N : News h₀ L s.heap news) (e : h₀.get? b = some o) : ∀ p ∈ news, p.1 ≠ b := by
  rintro p hp rfl
  exact absurd e (by rw [(N p hp).2.2]; nofun)
theorem shut_stay (F : Fr h₀ L s.heap m) (N : News h₀ L s.heap news) : h₀.StaysIn (shut s.heap news) := fun b o e => shut_get (F.keep b o e) (off_old N e)
theorem shut_frame (F : Fr h₀ L s.heap m) (N : News h₀ L s.heap news) : Fr h₀ L (shut s.heap news) m where
  ns := F.ns.at' fun _ e => shut_get e fun p hp => (N p hp).2.1
  keep := shut_stay F N
  above := F.above
theorem shut_keeps : KeepsBut news s.heap (shut s.heap news) := fun _ _ hb e => hideAll_get _ e hb
/-- back from the call: what it made is new to the caller too -/
theorem shut_leave {v : Value} {s' : Shared} (F : Fr h₀ L s.heap m) (N : News h₀ L s.heap news) (l : LeaveK h₀ L m (shut s.heap news) R v s') : R (.ok (.ret v)) s' := by
  obtain ⟨_, _, made, Fc, Nc, back⟩ := l
  have old := shut_stay F N
  have FL := shut_frame F N
  have notL : ∀ p ∈ made, p.1 ≠ L := by
    rintro p hp rfl
    obtain ⟨o, _, _, e, _⟩ := FL.ns
    exact absurd e (by rw [(Nc p hp).2.2]; nofun)
  have notOld : ∀ p ∈ made, h₀.get? p.1 = none := fun p hp => Option.eq_none_iff_forall_ne_some.mpr fun o e => absurd (old _ o e) (by rw [(Nc p hp).2.2]; nofun)
  exact back ⟨FL.ns.at' fun o e => Fc.keep L o e, fun b o e => Fc.keep b o (old b o e), F.above⟩ fun p hp => ⟨(Nc p hp).1, notL p hp, notOld p hp⟩
theorem code_q (F : Fr h₀ L s.heap m) (X₀ : K.In h₀) (N : News h₀ L s.heap news) (T : TopRead p loose mg mb h₀)
    (ho : K.lookup f = some ⟨oc, od, .func (fnOf name qual params body scope dV kV doc pm an cdv ct), osl⟩) (hcd : codeIn K cdv qual = true) (hroom : A.depth < recursionLimit)
    (hbind : BindsTo s (fnOf name qual params body scope dV kV doc pm an cdv ct) args binds) (hloc : ∀ y ∈ binds, scope.names.lookup y.1 = some .local)
    (h : ∀ g L' h₁, Fr h₀ L g m → Fr g L' h₁ (fun y => binds.reverse.lookup y) → News g L' h₁ news → KeepsBut news s.heap g → K.In g → TopRead p loose mg mb g → (∀ p ∈ news, p.1 < L') →
      wpAny (model prog w) (A.deeper (envOf qual scope L' f cdv)) (execs body (envOf qual scope L' f cdv))
        (fun fl s' => LeaveK h₀ L m g R (match fl with | .ret v => v | _ => .none) s') (fun _ _ => False)
        { s with heap := h₁, toks := s.toks + binds.length })
    (hco : scope.isCoroutine = false) (hgen : scope.isGenerator = false) (hk : scope.kind = .function)
    (hcell : ∀ x ∈ scope.names, x.2 ≠ .cell) : codeAny (model prog w) A (.call (.ref f) args) R s := by
  have up : ∀ b o, h₀.get? b = some o → s.heap.get? b = some o := F.keep
  refine codeAny_call_def (body := body) (binds := binds) hroom (X₀.keeps up _ _ ho) rfl (T.nolimit.keeps up) (codeRec_of (X₀.keeps up) hcd) rfl hbind hcell hloc (fun g hns hg => ?_) hco hgen hk
  have ledger : News (shut s.heap news) s.heap.objs.size g news := fun p hp => ⟨hg _ _ (N p hp).1, Nat.ne_of_lt (Heap.lt_size (N p hp).1), hideAll_none _ (List.mem_map_of_mem hp)⟩
  have frame : Fr (shut s.heap news) s.heap.objs.size g (fun y => binds.reverse.lookup y) := { ns := hns, keep := fun b o e => hg b o (of_hideAll _ e), above := Nat.le_of_eq (hideAll_size _ _) }
  have st := shut_stay F N
  exact wpAny_mono (h _ _ g (shut_frame F N) frame ledger shut_keeps (X₀.keeps st) (T.keeps st) fun p hp => Heap.lt_size (N p hp).1) (fun _ _ l => shut_leave F N l) fun _ _ y => y.elim
theorem code_qC (F : Fr h₀ L s.heap m) (X₀ : K.In h₀) (N : News h₀ L s.heap news) (T : TopRead p loose mg mb h₀)
    (ho : K.lookup f = some ⟨oc, od, .func (fnOf name qual params body scope dV kV doc pm an cdv ct), osl⟩) (hcd : codeIn K cdv qual = true) (hroom : A.depth < recursionLimit)
    (hbind : BindsTo s (fnOf name qual params body scope dV kV doc pm an cdv ct) args binds) (hkind : (binds.all fun y => scope.names.lookup y.1 == some .local || scope.names.lookup y.1 == some .cell) = true)
    (hnd : ((cellsFrom 0 scope.names []).map (·.1)).Nodup)
    (h : ∀ g L' h₁ tk cells, Fr h₀ L g m → Fr g L' h₁ (bindL (envOfC qual scope L' f cdv).kindOf binds fun _ => none) → News g L' h₁ (cells ++ news) →
      CellsAre (bindC (envOfC qual scope L' f cdv).kindOf binds fun _ => none) (cellsFrom (L' + 1) scope.names []) cells → KeepsBut news s.heap g → K.In g → TopRead p loose mg mb g → (∀ p ∈ news, p.1 < L') →
      wpAny (model prog w) (A.deeper (envOfC qual scope L' f cdv)) (execs body (envOfC qual scope L' f cdv))
        (fun fl s' => LeaveK h₀ L m g R (match fl with | .ret v => v | _ => .none) s') (fun _ _ => False)
        { s with heap := h₁, toks := tk })
    (hco : scope.isCoroutine = false) (hgen : scope.isGenerator = false) (hk : scope.kind = .function) : codeAny (model prog w) A (.call (.ref f) args) R s := by
  have up : ∀ b o, h₀.get? b = some o → s.heap.get? b = some o := F.keep
  refine codeAny_call_function hroom (X₀.keeps up _ _ ho) rfl hco hgen rfl (codeRec_of (X₀.keeps up) hcd) (hbind _ _ _ _ (wpAny_newFunctionEnv_cells hk (kindsX hkind _) ?_))
  rintro _ rfl s' x
  refine ⟨(T.nolimit.keeps up).keeps x.toInCall.keep, codeAny_func ?_⟩
  have hg := x.toInCall.keep
  have in_order : ∀ n c, (n, c) ∈ cellsFrom (s.heap.objs.size + 1) scope.names [] → (cellsFrom (s.heap.objs.size + 1) scope.names []).lookup n = some c := fun n c hm => lookup_of_mem_nodup (cellsFrom_names scope.names 0 (s.heap.objs.size + 1) [] [] rfl ▸ hnd) hm
  obtain ⟨cells, NC, Y⟩ := Cl.news (h₀ := s.heap) (Nat.le_refl _) fun n c hm => ⟨x.cell n c (in_order n c hm), x.above n c hm⟩
  have st := shut_stay F N
  have ns := x.toInCall.ns
  obtain ⟨g, tk, rfl, _⟩ := x.done
  have ledger : News (shut s.heap news) s.heap.objs.size g (cells ++ news) := by
    refine List.forall_mem_append.mpr ⟨fun p hp => ?_, fun p hp => ?_⟩
    · refine ⟨(NC p hp).1, (NC p hp).2.1, Option.eq_none_iff_forall_ne_some.mpr fun o e => ?_⟩
      exact absurd (of_hideAll _ e) (by rw [(NC p hp).2.2]; nofun)
    · exact ⟨hg _ _ (N p hp).1, Nat.ne_of_lt (Heap.lt_size (N p hp).1), hideAll_none _ (List.mem_map_of_mem hp)⟩
  have frame : Fr (shut s.heap news) s.heap.objs.size g (bindL (envOfC qual scope s.heap.objs.size f cdv).kindOf binds fun _ => none) := { ns := ns, keep := fun b o e => hg b o (of_hideAll _ e), above := Nat.le_of_eq (hideAll_size _ _) }
  exact wpAny_mono (h _ _ g tk cells (shut_frame F N) frame ledger Y shut_keeps (X₀.keeps st) (T.keeps st) fun p hp => Heap.lt_size (N p hp).1) (fun _ _ l => shut_leave F N l) fun _ _ y => y.elim
end
/-- the contract of a def: no frames asked, the rest of the heap kept -/
def Tell (w : World) (mg mb : Str → Option Value) (f : Addr) (size : Nat) (news : List (Addr × Obj)) (vs : List Value) (Post : List (Addr × Obj) → Value → Prop) : Prop :=
  ∀ (dp un : Nat) (gd : Option (List Code)) (fr : Option (List Env)) (h₀ : Heap) (L : Addr) (m : Str → Option Value) (s : Shared)
    (Q E : Value → Shared → Prop),
    Fr h₀ L s.heap m → (KK w).In h₀ → News h₀ L s.heap news → TopRead hd.view_39 LO mg mb h₀ → dp + size < recursionLimit → un + 8 * size < cLine →
    (∀ r news' h' tk', Fr h₀ L h' m → News h₀ L h' news' → KeepsBut news s.heap h' → Post news' r → Q r { s with heap := h', toks := tk' }) →
    wpAny (model PR w) (qTop dp un gd fr) (call (.ref f) vs) Q E s
theorem tell_use {w : World} {mg mb : Str → Option Value} {f : Addr} {size : Nat} {news : List (Addr × Obj)} {vs : List Value} {Post : List (Addr × Obj) → Value → Prop} (C : Tell w mg mb f size news vs Post)
    {dp un : Nat} {gd : Option (List Code)} {fr : Option (List Env)} {h₀ : Heap} {L : Addr} {m : Str → Option Value} {s : Shared}
    {Q E : Value → Shared → Prop} (F : Fr h₀ L s.heap m) (X : (hd.heap_39 w.params).In h₀) (N : News h₀ L s.heap news) (T : TopRead hd.view_39 LO mg mb h₀) (hd : dp + size < recursionLimit) (hu : un + 8 * size < cLine)
    (ret : ∀ r news' h' tk', Fr h₀ L h' m → News h₀ L h' news' → KeepsBut news s.heap h' → Post news' r → Q r { s with heap := h', toks := tk' }) :
    wpAny (model Challenge.rw_ey0020_01.row.prog w) (qTop dp un gd fr) (call (.ref f) vs) Q E s := C _ _ _ _ _ _ _ _ _ _ F X N T hd hu ret
/-- the same where generators may be left behind -/
def TellG (w : World) (mg mb : Str → Option Value) (f : Addr) (size : Nat) (news : List (Addr × Obj)) (vs : List Value) (Post : List (Addr × Obj) → Value → Prop) : Prop :=
  ∀ (dp un : Nat) (gd : Option (List Code)) (fr : Option (List Env)) (h₀ : Heap) (L : Addr) (m : Str → Option Value) (s : Shared)
    (Q E : Value → Shared → Prop), AllBare s.gens → (∃ bm ob, BMod h₀ mainGlobals mg bm ob) →
    Fr h₀ L s.heap m → (KK w).In h₀ → News h₀ L s.heap news → TopRead hd.view_39 LO mg mb h₀ → dp + size < recursionLimit → un + 8 * size < cLine →
    (∀ r news' h' tk' gs', AllBare gs' → Fr h₀ L h' m → News h₀ L h' news' → KeepsBut news s.heap h' → Post news' r → Q r { s with heap := h', toks := tk', gens := gs' }) →
    wpAny (model PR w) (qTop dp un gd fr) (call (.ref f) vs) Q E s
theorem tellG_use {w : World} {mg mb : Str → Option Value} {f : Addr} {size : Nat} {news : List (Addr × Obj)} {vs : List Value} {Post : List (Addr × Obj) → Value → Prop} (C : TellG w mg mb f size news vs Post)
    {dp un : Nat} {gd : Option (List Code)} {fr : Option (List Env)} {h₀ : Heap} {L : Addr} {m : Str → Option Value} {s : Shared}
    {Q E : Value → Shared → Prop} (G : AllBare s.gens) (B : ∃ bm ob, BMod h₀ mainGlobals mg bm ob) (F : Fr h₀ L s.heap m) (X : (hd.heap_39 w.params).In h₀) (N : News h₀ L s.heap news) (T : TopRead hd.view_39 LO mg mb h₀) (hd : dp + size < recursionLimit) (hu : un + 8 * size < cLine)
    (ret : ∀ r news' h' tk' gs', AllBare gs' → Fr h₀ L h' m → News h₀ L h' news' → KeepsBut news s.heap h' → Post news' r → Q r { s with heap := h', toks := tk', gens := gs' }) :
    wpAny (model Challenge.rw_ey0020_01.row.prog w) (qTop dp un gd fr) (call (.ref f) vs) Q E s := C _ _ _ _ _ _ _ _ _ _ G B F X N T hd hu ret
theorem bmodE {h₀ g : Heap} {mg : Str → Option Value} (B : ∃ bm ob, BMod h₀ mainGlobals mg bm ob) (hk : ∀ b o, h₀.get? b = some o → g.get? b = some o) : ∃ bm ob, BMod g mainGlobals mg bm ob :=
  let ⟨_, _, M⟩ := B
  ⟨_, _, M.keeps hk⟩
end Mine
end
namespace Mine
section
local macro_rules | `(tactic| walk_at "mine_nothing") => `(tactic| skip)
theorem fresh_Loops : True ∧ True := by
  w_top off
  first | (walk1; fail "on") | exact ⟨trivial, trivial⟩
end
end Mine
section
open PySem PySem.W PyProof.Rows PySem.Calls PySem.Spec PyProof.V
set_option Elab.async false
set_option maxRecDepth 100000
set_option maxHeartbeats 0
namespace Mine
section
variable {prog : Program} {w : World} {A : Around} {E : Value → Shared → Prop} {s : Shared} {env : Env} {h₀ : Heap} {x : PySem.Str} {body : List Stmt} {Q : Flow → Shared → Prop}
/-- a loop over a text's signs -/
theorem text_inv {xt : PySem.Str} {tx : Tok} {m₀ : PySem.Str → Option Value} {news : List (Addr × Obj)} (J : Nat → (PySem.Str → Option Value) → List (Addr × Obj) → Prop)
    (hh : A.handled = none) (F : Fr h₀ env.locals s.heap m₀) (N : News h₀ env.locals s.heap news) (hj : J 0 m₀ news)
    (turn : ∀ i n t m₁ nx h tk own, xt.cps[i]? = some n → OwnOff own (nx.map (·.1)) → J i m₁ nx → Fr h₀ env.locals h (fun y => if y = x then some (.str ⟨#[n]⟩ t) else m₁ y) → News h₀ env.locals h (nx ++ own) →
      wpAny (model prog w) A (execs body env) (InvPostG h₀ env.locals (J (i + 1)) own { s with heap := h, toks := tk } Q) E { s with heap := h, toks := tk })
    (done : ∀ m₁ nx h tk, J xt.cps.size m₁ nx → Fr h₀ env.locals h m₁ → News h₀ env.locals h nx → Q .next { s with heap := h, toks := tk }) :
    wpAny (model prog w) A (pyIter (.str xt tx)) (fun it s₂ => LoopAtV prog w A h₀ env x body Q E it s₂) E s := by
  have go : ∀ (o : Obj) (St : Nat → Heap → Prop), (∀ i h, St i h → ∃ o, h.get? s.heap.objs.size = some o) → Walks prog w A s.heap.objs.size [s.heap.objs.size] [s.heap.objs.size] xt.cps.size (SignAt xt) St → St 0 (s.heap.push o) →
      LoopAtV prog w A h₀ env x body Q E (.ref s.heap.objs.size) { s with heap := s.heap.push o } := by
    intro o St hob W hst
    refine kdr_loop J W (fun _ h => h) (fun _ h => h) ?_ ?_ ?_ ?_ hst (F.push _) (fun p hp => ⟨Heap.get?_push_of_some _ (N p hp).1, (N p hp).2⟩) hj ?_ ?_
    · intro i h hi b hb
      rw [List.mem_singleton.mp hb]
      exact hob i h hi
    · intro hm
      exact absurd F.ns.lt ((List.mem_singleton.mp hm) ▸ Nat.lt_irrefl _)
    · intro b' hb
      rw [List.mem_singleton.mp hb]
      exact next_is_new F
    · intro p hp hI
      exact absurd (Heap.lt_size (N p hp).1) ((List.mem_singleton.mp hI) ▸ Nat.lt_irrefl _)
    · rintro i v m₁ nx h tk own hi ⟨n, u, hn, rfl⟩ hoff hj' F₁ N₁
      exact turn i n u m₁ nx h tk own hn hoff hj' F₁ N₁
    · intro m₁ nx h tk hj' F₁ N₁
      exact done m₁ nx h tk hj' F₁ N₁
  cases ha : xt.cps.all (· < 128)
  · exact wpAny_pyIter_wide ha (go _ _ (fun i h ⟨o, ho, _⟩ => ⟨o, ho⟩) (Walks.strWide hh _ xt tx) ⟨_, Heap.get?_push_size _ rfl, rfl, rfl⟩)
  · exact wpAny_pyIter_ascii ha (go _ _ (fun i h ⟨o, ho, _⟩ => ⟨o, ho⟩) (Walks.strAscii hh _ xt tx) ⟨_, Heap.get?_push_size _ rfl, rfl, rfl⟩)
/-- the state between two turns: names with their values, the ledger -/
def KL {σ : Type} (ps : σ → List (PySem.Str × Value)) (x : PySem.Str) (stored : List PySem.Str) (m₀ : PySem.Str → Option Value) (P : List (Addr × Obj) → σ → Prop) (m : PySem.Str → Option Value) (nx : List (Addr × Obj)) : Prop :=
  ∃ c : σ, (∀ p ∈ ps c, m p.1 = some p.2) ∧ (∀ z, z ≠ x → (∀ p ∈ ps c, z ≠ p.1) → stored.contains z = false → m z = m₀ z) ∧ P nx c
theorem text_loop {σ : Type} {xt : PySem.Str} {tx : Tok} {m₀ : PySem.Str → Option Value} {news : List (Addr × Obj)} (ps : σ → List (PySem.Str × Value)) (stored : List PySem.Str) (P : Nat → List (Addr × Obj) → σ → Prop) (c₀ : σ)
    (hh : A.handled = none) (F : Fr h₀ env.locals s.heap m₀) (N : News h₀ env.locals s.heap news) (hk : ∀ p ∈ ps c₀, m₀ p.1 = some p.2) (hp : P 0 news c₀)
    (turn : ∀ i n (c : σ) (u : PySem.Str → Option Value) t nx h tk own, xt.cps[i]? = some n → OwnOff own (nx.map (·.1)) → P i nx c →
      Fr h₀ env.locals h (fun y => if y = x then some (.str ⟨#[n]⟩ t) else kstB (fun z => if stored.contains z then u z else m₀ z) (ps c) y) → News h₀ env.locals h (nx ++ own) →
      wpAny (model prog w) A (execs body env) (InvPostG h₀ env.locals (KL ps x stored m₀ (P (i + 1))) own { s with heap := h, toks := tk } Q) E { s with heap := h, toks := tk })
    (done : ∀ (c : σ) (u : PySem.Str → Option Value) nx h tk, P xt.cps.size nx c → Fr h₀ env.locals h (fun y => if y = x then u y else kstB (fun z => if stored.contains z then u z else m₀ z) (ps c) y) → News h₀ env.locals h nx → Q .next { s with heap := h, toks := tk }) :
    wpAny (model prog w) A (pyIter (.str xt tx)) (fun it s₂ => LoopAtV prog w A h₀ env x body Q E it s₂) E s := by
  refine text_inv (fun i m nx => KL ps x stored m₀ (P i) m nx) hh F N ⟨c₀, hk, fun _ _ _ _ => rfl, hp⟩ ?_ ?_
  · rintro i n t m₁ nx h tk own hn hoff ⟨c, h1, h2, hp'⟩ F₁ N₁
    exact turn i n c m₁ t nx h tk own hn hoff hp' (kst_fr h1 h2 F₁) N₁
  · rintro m₁ nx h tk ⟨c, h1, h2, hp'⟩ F₁ N₁
    exact done c m₁ nx h tk hp' (kst_frOut h1 h2 F₁) N₁
theorem KL_end {σ : Type} {ps : σ → List (PySem.Str × Value)} {stored : List PySem.Str} {m₀ m' : PySem.Str → Option Value} {P : List (Addr × Obj) → σ → Prop} {L : Addr} {own news' : List (Addr × Obj)} {s₁ : Shared} {h' : Heap} {tk : Nat}
    (c : σ) (nx : List (Addr × Obj)) (F : Fr h₀ L h' m') (N : News h₀ L h' news') (hn : ∀ p ∈ nx, p ∈ news') (ho : ∀ p ∈ own, p ∈ news') (hoff : OwnOff own (nx.map (·.1)))
    (hk : ∀ p ∈ ps c, m' p.1 = some p.2) (hr : ∀ z, z ≠ x → (∀ p ∈ ps c, z ≠ p.1) → stored.contains z = false → m' z = m₀ z) (hp : P nx c) :
    InvEndG h₀ L (KL ps x stored m₀ P) own s₁ { s₁ with heap := h', toks := tk } := ⟨h', tk, m', news', nx, rfl, F, N, hn, ho, hoff, c, hk, hr, hp⟩
/-- a loop over any walk, any target, an else behind it -/
theorem loop_else {target : PySem.Expr} {orelse : List Stmt} {I : Addr} {fp wr : List Addr} {n : Nat} {P : Nat → Value → Prop} {St : Nat → Heap → Prop} {m : PySem.Str → Option Value} {news : List (Addr × Obj)} (W : Walks prog w A I fp wr n P St)
    (hgo : ∀ i v (s : Shared) (Q : Unit → Shared → Prop) (E : Value → Shared → Prop), St i s.heap → P (i - 1) v → Q () s → wpAny (model prog w) A (letOwnedTupleGo target (.ref I) v) Q E s)
    (hfw : ∀ b ∈ fp, b ∉ wr → ∃ o, h₀.get? b = some o) (hob : ∀ i h, St i h → ∀ b ∈ wr, ∃ o, h.get? b = some o)
    (hLf : env.locals ∉ fp) (hwr : ∀ b ∈ wr, h₀.get? b = none) (hnw : ∀ p ∈ news, p.1 ∉ wr) (hst : St 0 s.heap) (F : Fr h₀ env.locals s.heap m) (N : News h₀ env.locals s.heap news)
    (J : Nat → (PySem.Str → Option Value) → List (Addr × Obj) → Prop) (h0 : J 0 m news)
    (hE : PassesOwn (model prog w) A env E)
    (turn : ∀ i v m₁ nx h tk own, i < n → P i v → OwnOff own (nx.map (·.1)) → J i m₁ nx → Fr h₀ env.locals h m₁ → News h₀ env.locals h (nx ++ own) →
      wpAny (model prog w) A (assign target env v) (fun _ s₂ => wpAny (model prog w) A (execs body env) (InvPostG h₀ env.locals (J (i + 1)) own { s with heap := h, toks := tk } Q) E s₂) E { s with heap := h, toks := tk })
    (done : ∀ m₁ nx h tk, J n m₁ nx → Fr h₀ env.locals h m₁ → News h₀ env.locals h nx → wpAny (model prog w) A (execs orelse env) Q E { s with heap := h, toks := tk }) :
    codeAny (model prog w) A (.forLoop target (.ref I) body orelse env) (fun r s' => match r with | .ok f => Q f s' | .error e => cameBackBy (model prog w) A env E e s') s := by
  have hLw : env.locals ∉ wr := fun h => hLf (W.sub _ h)
  have old : ∀ b o, h₀.get? b = some o → b ∉ wr := fun b o e hb => by rw [hwr b hb] at e; cases e
  refine codeAny_forLoop_any
    (fun k s' => ∃ h' tk m' news' i, s' = { s with heap := h', toks := tk } ∧ St i h' ∧ Fr h₀ env.locals h' m' ∧ News h₀ env.locals h' news' ∧ (∀ p ∈ news', p.1 ∉ wr) ∧ J i m' news' ∧ i ≤ n ∧ k = n + 1 - i) ?_ (n + 1)
    ⟨s.heap, s.toks, m, news, 0, rfl, hst, F, N, hnw, h0, Nat.zero_le _, rfl⟩
  rintro k s' ⟨h', tk, m', news', i, rfl, hst', F', N', hnw', hJ, hi, rfl⟩
  have next : ∀ h₁ : Heap, (∀ b o, b ∉ wr → h'.get? b = some o → h₁.get? b = some o) → Fr h₀ env.locals h₁ m' ∧ News h₀ env.locals h₁ news' := fun h₁ hk₁ =>
    ⟨⟨F'.ns.at' fun o e => hk₁ _ o hLw e, fun b o e => hk₁ b o (old b o e) (F'.keep b o e), F'.above⟩, fun p hp => ⟨hk₁ _ _ (hnw' p hp) (N' p hp).1, (N' p hp).2⟩⟩
  by_cases hlt : i < n
  · refine W.item i _ _ _ hlt hst' fun v h₂ tk₁ hP hst₂ hk₁ => ?_
    refine hgo (i + 1) v _ _ _ hst₂ (by simpa using hP) ?_
    obtain ⟨F₂, N₂⟩ := next h₂ hk₁
    have Nown : News h₀ env.locals h₂ (PyProof.Rows.ownOf h₀ fp h₂) := news_ownOf hLf
    have hoff : OwnOff (PyProof.Rows.ownOf h₀ fp h₂) (news'.map (·.1)) := by
      intro p hp b hb e
      obtain ⟨q, hq, rfl⟩ := List.mem_map.mp hb
      have h1 : p.1 ∈ fp := ownOf_sub p hp
      by_cases hw : p.1 ∈ wr
      · exact hnw' q hq (e ▸ hw)
      · obtain ⟨o, ho⟩ := hfw _ h1 hw
        have h2 := (Nown p hp).2.2
        rw [ho] at h2
        cases h2
    have fin : ∀ s₃, InvEndG h₀ env.locals (J (i + 1)) (PyProof.Rows.ownOf h₀ fp h₂) { s with heap := h₂, toks := tk₁ } s₃ →
        ∃ m, m < n + 1 - i ∧ ∃ h' tk m' news' i, s₃ = { s with heap := h', toks := tk } ∧ St i h' ∧ Fr h₀ env.locals h' m' ∧ News h₀ env.locals h' news' ∧ (∀ p ∈ news', p.1 ∉ wr) ∧ J i m' news' ∧ i ≤ n ∧ m = n + 1 - i := by
      rintro s₃ ⟨h₃, tk₃, m₃, n₃, nx, rfl, F₃, N₃, hn₃, ho₃, ha₃, hJ₃⟩
      refine ⟨n + 1 - (i + 1), by omega, h₃, tk₃, m₃, nx, i + 1, rfl, ?_, F₃, fun p hp => N₃ p (hn₃ p hp), ?_, hJ₃, hlt, rfl⟩
      · refine W.frame _ _ _ hst₂ fun b hb o e => ?_
        cases hn : h₀.get? b with
        | some o₀ =>
          have : o₀ = o := by have q := F₂.keep b o₀ hn; rw [e] at q; exact (Option.some.inj q).symm
          exact this ▸ F₃.keep b o₀ hn
        | none => exact (N₃ _ (ho₃ _ (mem_ownOf hb hn e))).1
      · intro p hp hb
        obtain ⟨o, ho⟩ := hob _ _ hst₂ p.1 hb
        exact ha₃ _ (mem_ownOf (W.sub _ hb) (hwr _ hb) ho) p.1 (List.mem_map.mpr ⟨p, hp, rfl⟩) rfl
    refine wpAny_mono (turn i v m' news' h₂ tk₁ (PyProof.Rows.ownOf h₀ fp h₂) hlt hP hoff hJ F₂ (fun p hp => (List.mem_append.mp hp).elim (N₂ p) (Nown p))) (fun _ s₂ h₂' => wpAny_passesOwn hE (wpAny_mono h₂' (fun f s₃ h₃ => ?_) fun _ _ e => e)) hE
    cases f with
    | ret v => exact h₃
    | brk => exact h₃
    | cont => exact fin _ h₃
    | next => exact fin _ h₃
  · have hin : i = n := by omega
    subst hin
    refine W.done _ _ _ hst' fun h₁ tk₁ hk₁ => ?_
    obtain ⟨F₁, N₁⟩ := next h₁ hk₁
    exact wpAny_passesOwn hE (done m' news' h₁ tk₁ hJ F₁ N₁)
/-- a for over a list of the text's own, any target, an else behind it -/
theorem for_list_else {target iter : PySem.Expr} {orelse : List Stmt} {pos : Pos} {ax : Addr} {vs : List Value} {m₀ : PySem.Str → Option Value} {news : List (Addr × Obj)} (J : Nat → (PySem.Str → Option Value) → List (Addr × Obj) → Prop)
    (hh : A.handled = none) (hl : h₀.IsList ax vs.toArray) (F : Fr h₀ env.locals s.heap m₀) (N : News h₀ env.locals s.heap news) (hj : J 0 m₀ news)
    (hgo : ∀ I i v (s : Shared) (Q : Unit → Shared → Prop) (E : Value → Shared → Prop), s.heap.IsListIter I ax i → Q () s → wpAny (model prog w) A (letOwnedTupleGo target (.ref I) v) Q E s)
    (hev : wpAny (model prog w) A (eval iter env) (fun x s₁ => x = .ref ax ∧ s₁ = s) E s)
    (turn : ∀ i v m₁ nx h tk own, vs[i]? = some v → OwnOff own (nx.map (·.1)) → J i m₁ nx → Fr h₀ env.locals h m₁ → News h₀ env.locals h (nx ++ own) →
      wpAny (model prog w) A (assign target env v) (fun _ s₂ => wpAny (model prog w) A (execs body env) (InvPostG h₀ env.locals (J (i + 1)) own { s with heap := h, toks := tk } Q) E s₂) E { s with heap := h, toks := tk })
    (done : ∀ m₁ nx h tk, J vs.length m₁ nx → Fr h₀ env.locals h m₁ → News h₀ env.locals h nx → wpAny (model prog w) A (execs orelse env) Q E { s with heap := h, toks := tk })
    (hs : ∀ x, foldedSetIterable iter env x = pure x := by intro _; rfl)
    (hE : PassesOwn (model prog w) A env E := by passes_own) :
    wpAny (model prog w) A (exec (.For target iter body orelse pos) env) Q E s := by
  refine wpAny_For (wpAny_mono hev (fun x s₁ h₁ => ?_) fun _ _ e => e) hs
  obtain ⟨rfl, rfl⟩ := h₁
  have hls : s₁.heap.IsList ax vs.toArray := hl.at fun o e => F.keep ax o e
  obtain ⟨ol, hol, _⟩ := id hl
  have hlt : ax < h₀.objs.size := Heap.lt_size hol
  have hne : ax ≠ s₁.heap.objs.size := Nat.ne_of_lt (Nat.lt_trans (Nat.lt_of_lt_of_le hlt F.above) F.ns.lt)
  refine wpAny_pyIter_list hls ?_
  have W := Walks.list (prog := prog) (w := w) hh s₁.heap.objs.size ax hne vs.toArray
  have hlen : vs.toArray.size = vs.length := by simp
  rw [hlen] at W
  refine loop_else (s := { s₁ with heap := _ }) W (fun i v s Q E st _ q => hgo _ i v s Q E st.1 q) ?_ ?_ ?_ ?_ ?_ ⟨⟨_, Heap.get?_push_size _ rfl, rfl, rfl⟩, hls.at fun o e => Heap.get?_push_of_some _ e⟩ (F.push _) (fun p hp => ⟨Heap.get?_push_of_some _ (N p hp).1, (N p hp).2⟩) J hj hE ?_ ?_
  · intro b hb hw
    rcases List.mem_cons.mp hb with e | hb
    · exact absurd (by rw [e]; exact List.mem_singleton.mpr rfl) hw
    · rw [List.mem_singleton.mp hb]; exact ⟨ol, hol⟩
  · intro i h hi b hb
    obtain ⟨⟨o, ho, _⟩, _⟩ := hi
    rw [List.mem_singleton.mp hb]; exact ⟨o, ho⟩
  · intro hm
    rcases List.mem_cons.mp hm with e | hm
    · exact absurd F.ns.lt (e ▸ Nat.lt_irrefl _)
    · exact absurd (Nat.lt_of_lt_of_le hlt F.above) ((List.mem_singleton.mp hm) ▸ Nat.lt_irrefl _)
  · intro b hb
    rw [List.mem_singleton.mp hb]
    exact next_is_new F
  · intro p hp hI
    exact absurd (Heap.lt_size (N p hp).1) ((List.mem_singleton.mp hI) ▸ Nat.lt_irrefl _)
  · intro i v m₁ nx h tk own _ hP hoff hJ F₁ N₁
    exact turn i v m₁ nx h tk own (by simpa using hP) hoff hJ F₁ N₁
  · intro m₁ nx h tk hJ F₁ N₁
    exact done m₁ nx h tk hJ F₁ N₁
/-- the state between two turns, no name set apart -/
def KM {σ : Type} (ps : σ → List (PySem.Str × Value)) (stored : List PySem.Str) (m₀ : PySem.Str → Option Value) (P : List (Addr × Obj) → σ → Prop) (m : PySem.Str → Option Value) (nx : List (Addr × Obj)) : Prop :=
  ∃ c : σ, (∀ p ∈ ps c, m p.1 = some p.2) ∧ (∀ z, (∀ p ∈ ps c, z ≠ p.1) → stored.contains z = false → m z = m₀ z) ∧ P nx c
theorem KM_end {σ : Type} {ps : σ → List (PySem.Str × Value)} {stored : List PySem.Str} {m₀ m' : PySem.Str → Option Value} {P : List (Addr × Obj) → σ → Prop} {L : Addr} {own news' : List (Addr × Obj)} {s₁ : Shared} {h' : Heap} {tk : Nat}
    (c : σ) (nx : List (Addr × Obj)) (F : Fr h₀ L h' m') (N : News h₀ L h' news') (hn : ∀ p ∈ nx, p ∈ news') (ho : ∀ p ∈ own, p ∈ news') (hoff : OwnOff own (nx.map (·.1)))
    (hk : ∀ p ∈ ps c, m' p.1 = some p.2) (hr : ∀ z, (∀ p ∈ ps c, z ≠ p.1) → stored.contains z = false → m' z = m₀ z) (hp : P nx c) :
    InvEndG h₀ L (KM ps stored m₀ P) own s₁ { s₁ with heap := h', toks := tk } := ⟨h', tk, m', news', nx, rfl, F, N, hn, ho, hoff, c, hk, hr, hp⟩
theorem for_list_km {σ : Type} {target iter : PySem.Expr} {orelse : List Stmt} {pos : Pos} {ax : Addr} {vs : List Value} {m₀ : PySem.Str → Option Value} {news : List (Addr × Obj)} (ps : σ → List (PySem.Str × Value)) (stored : List PySem.Str) (P : Nat → List (Addr × Obj) → σ → Prop) (c₀ : σ)
    (hh : A.handled = none) (hl : h₀.IsList ax vs.toArray) (F : Fr h₀ env.locals s.heap m₀) (N : News h₀ env.locals s.heap news) (hk : ∀ p ∈ ps c₀, m₀ p.1 = some p.2) (hp : P 0 news c₀)
    (hgo : ∀ I i v (s : Shared) (Q : Unit → Shared → Prop) (E : Value → Shared → Prop), s.heap.IsListIter I ax i → Q () s → wpAny (model prog w) A (letOwnedTupleGo target (.ref I) v) Q E s)
    (hev : wpAny (model prog w) A (eval iter env) (fun x s₁ => x = .ref ax ∧ s₁ = s) E s)
    (turn : ∀ i v (c : σ) (u : PySem.Str → Option Value) nx h tk own, vs[i]? = some v → OwnOff own (nx.map (·.1)) → P i nx c → Fr h₀ env.locals h (kstB (fun z => if stored.contains z then u z else m₀ z) (ps c)) → News h₀ env.locals h (nx ++ own) →
      wpAny (model prog w) A (assign target env v) (fun _ s₂ => wpAny (model prog w) A (execs body env) (InvPostG h₀ env.locals (KM ps stored m₀ (P (i + 1))) own { s with heap := h, toks := tk } Q) E s₂) E { s with heap := h, toks := tk })
    (done : ∀ (c : σ) (u : PySem.Str → Option Value) nx h tk, P vs.length nx c → Fr h₀ env.locals h (kstB (fun z => if stored.contains z then u z else m₀ z) (ps c)) → News h₀ env.locals h nx → wpAny (model prog w) A (execs orelse env) Q E { s with heap := h, toks := tk })
    (hs : ∀ x, foldedSetIterable iter env x = pure x := by intro _; rfl)
    (hE : PassesOwn (model prog w) A env E := by passes_own) :
    wpAny (model prog w) A (exec (.For target iter body orelse pos) env) Q E s := by
  refine for_list_else (fun i m nx => KM ps stored m₀ (P i) m nx) hh hl F N ⟨c₀, hk, fun _ _ _ => rfl, hp⟩ hgo hev ?_ ?_ hs hE
  · rintro i v m₁ nx h tk own hv hoff ⟨c, h1, h2, hp'⟩ F₁ N₁
    exact turn i v c m₁ nx h tk own hv hoff hp' (ksw_fr h1 h2 F₁) N₁
  · rintro m₁ nx h tk ⟨c, h1, h2, hp'⟩ F₁ N₁
    exact done c m₁ nx h tk hp' (ksw_fr h1 h2 F₁) N₁
end
end Mine
end
namespace Mine
section
local macro_rules | `(tactic| walk_at "mine_nothing") => `(tactic| skip)
theorem fresh_GX : True ∧ True := by
  w_top off
  first | (walk1; fail "on") | exact ⟨trivial, trivial⟩
end
end Mine
section
open PySem PySem.W PyProof.Rows PySem.Calls PySem.Spec PyProof.V
set_option Elab.async false
set_option maxRecDepth 100000
set_option maxHeartbeats 0
namespace Mine
abbrev tabOf (ps : Array Value) : Obj := { cls := .none, data := .fields ps }
/-- a generator of ints that sum() may take -/
def SumGen (w : World) (A : Around) (h₀ : Heap) (L : Addr) (m : PySem.Str → Option Value) (led : List (Addr × Obj)) (a : Addr) (v : Int) (s : Shared) : Prop :=
  ∀ (Q E : Value → Shared → Prop), (∀ t h' tk gs, AllBare gs → Fr h₀ L h' m → News h₀ L h' led → Q (.int v t) { s with heap := h', toks := tk, gens := gs }) → wpAny (model PR w) A (call (.builtin "sum") [.ref a]) Q E s
theorem preSum_map (val : Nat → Int) : ∀ n, preSum val n = ((List.range n).map val).sum
  | 0 => rfl
  | n + 1 => by rw [preSum, preSum_map val n, List.range_succ, List.map_append, List.sum_append]; simp
theorem passing_all (n : Nat) : passing (fun _ => true) n 0 = List.range n := by simp [passing]
section
variable {w : World} {A : Around} {E : Value → Shared → Prop} {s : Shared} {h₀ : Heap} {c P L : Addr} {ps : Array Value} {m mg : PySem.Str → Option Value} {bm : Addr} {ob : Obj} {news : List (Addr × Obj)}
theorem gexp_core {env : Env} {elt iter : PySem.Expr} {x : PySem.Str} {px : Pos} {scope : Scope} {cl : List (PySem.Str × Addr)} {pos : Pos} {Q : Value → Shared → Prop} (n₀ : Nat) (Pi : Nat → Value → Prop) (val : Nat → Int)
    (hh : A.handled = none) (hco : scope.isCoroutine = false) (hclos : closureFor scope env = pure cl) (hcell : ∀ y ∈ scope.names, y.2 ≠ .cell) (h0 : scope.names.lookup (".0" : PySem.Str) = some NameKind.local)
    (hx : scope.names.lookup x = some .local) (hkind : scope.kind = .function) (hroom : A.depth < recursionLimit)
    (hcode : env.code = .ref c) (hg : env.globals = mainGlobals) (M : BMod h₀ mainGlobals mg bm ob) (hlim : h₀.NoLimit) (hC : ∀ h : Heap, (∀ b o, h₀.get? b = some o → h.get? b = some o) → ∀ ps : Array Value, h.get? P = some (tabOf ps) → TriplesOk ps.toList → h.IsCode c P ps ∧ h.TableAt c P ps) (htr : TriplesOk ps.toList)
    (hPn : ∀ p ∈ news, p.1 ≠ P) (G : AllBare s.gens)
    (hiter : wpAny (model PR w) A (eval iter env) (fun xv s₁ => wpAny (model PR w) A (pyIter xv) (fun it s₂ => ∃ h₂ tk₂ I fp St₀, s₂ = { s with heap := h₂, toks := tk₂ } ∧ Fr h₀ L h₂ m ∧ News h₀ L h₂ ((P, tabOf ps) :: news) ∧ it = .ref I ∧
      (∀ A' : Around, A'.handled = none → Walks PR w A' I fp [I] n₀ Pi St₀) ∧ St₀ 0 h₂ ∧ (∀ b ∈ fp, b < h₂.objs.size) ∧ (∀ p ∈ (P, tabOf ps) :: news, p.1 ≠ I) ∧ L < I ∧ P ∉ fp) E s₁) E s)
    (helt : ∀ (C : Addr) (code : Value) (A' : Around) E' i v (t : Shared) m₂, A'.handled = none → A'.depth ≤ A.depth + 1 → A'.units ≤ A.units + 8 → Pi i v → i < n₀ → Fr h₀ C t.heap m₂ → m₂ x = some v → News h₀ C t.heap news →
      wpAny (model PR w) A' (eval elt (genEnv scope cl C code builtinsNs env)) (fun y s₃ => (∃ u, y = .int (val i) u) ∧ Keeps t s₃) E' t)
    (hPi : ∀ i v, Pi i v → i < n₀)
    (hQ : ∀ a h' tk gs ps', TriplesOk ps'.toList → AllBare gs → Fr h₀ L h' m → News h₀ L h' ((P, tabOf ps') :: news) →
      SumGen w A h₀ L m ((P, tabOf ps') :: news) a ((List.range n₀).map val).sum { s with heap := h', toks := tk, gens := gs } → Q (.ref a) { s with heap := h', toks := tk, gens := gs })
    (hs : ∀ x, genFold iter env x = pure x) :
    wpAny (model PR w) A (eval (.GeneratorExp elt [⟨.Name x px, iter, [], 0⟩] scope pos) env) Q E s := by
  refine wpAny_GeneratorExp_walksQD hh hco hclos hcell h0 hx hkind hroom (wpAny_mono hiter (fun xv s₁ h₁' => wpAny_mono h₁' (fun it s₂ h₂ => ?_) fun _ _ e => e) fun _ _ e => e) hs
  obtain ⟨h₂, tk₂, I, fp, St₀, rfl, F₂, N₂, rfl, W₀, hst, hfp, hoff, hLI, hPf⟩ := h₂
  have hP₂ : h₂.get? P = some (tabOf ps) := (N₂ _ (.head _)).1
  have hPL : P ≠ L := (N₂ _ (.head _)).2.1
  have hP0 : h₀.get? P = none := (N₂ _ (.head _)).2.2
  have hI0 : h₀.get? I = none := Heap.get?_none_of_le (Nat.le_trans F₂.above (Nat.le_of_lt hLI))
  obtain ⟨hok, htab⟩ := hC h₂ F₂.keep ps hP₂ htr
  have hcP : cStatics ≠ P := fun e => by
    obtain ⟨_, hns, _⟩ := hlim
    obtain ⟨o, es, ep, ho, hd, _⟩ := hns
    rw [e, hP0] at ho; cases ho
  have hcI : cStatics ≠ I := fun e => by
    obtain ⟨_, hns, _⟩ := hlim
    obtain ⟨o, es, ep, ho, hd, _⟩ := hns
    rw [e, hI0] at ho; cases ho
  -- what holds behind the code's making, in both ways
  have rest : ∀ (code : Value) (h₃ : Heap) (tk₃ : Nat) (ps' : Array Value), Heap.ExtBut P h₂ h₃ → h₂.objs.size ≤ h₃.objs.size → h₃.get? P = some (tabOf ps') → TriplesOk ps'.toList →
      wpAny (model PR w) A (builtinsFor env.globals env.builtins) (fun bi s₄ =>
        ∃ I' fp wr n₀' P' St₀' pz F, Value.ref I = .ref I' ∧ (∀ A' : Around, A'.handled = none → Walks PR w A' I' fp wr n₀' P' St₀') ∧ St₀' 0 s₄.heap ∧ (∀ b ∈ fp, b < s₄.heap.objs.size) ∧ s₄.heap.NoLimit ∧ cStatics ∉ wr ∧
          (∀ href : Heap, (∀ b o, s₄.heap.get? b = some o → href.get? b = some o) →
            QuietGenD PR w (genEnv scope cl s₄.heap.objs.size code bi env) x [] elt (List.range s₄.heap.objs.size) wr P' pz F href (A.depth + 1) (A.units + 8)) ∧
          (∀ a h₅ tk gs, gs.bare = true → s₄.heap.objs.size < a → h₅.objs.size = a + 1 → (∀ b o, s₄.heap.get? b = some o → h₅.get? b = some o) →
            WalksS PR w A.in4 a (a :: s₄.heap.objs.size :: List.range s₄.heap.objs.size) (s₄.heap.objs.size :: wr) (GenOnlyQ s₄.gens.size) (passing pz n₀' 0).length
              (fun j y => ∃ i, (passing pz n₀' 0)[j]? = some i ∧ F i y) (GenAt PR w A.in4 a s₄.gens.size s₄.heap.objs.size (List.range s₄.heap.objs.size) wr pz n₀' F) →
            GenAt PR w A.in4 a s₄.gens.size s₄.heap.objs.size (List.range s₄.heap.objs.size) wr pz n₀' F 0 { s₄ with gens := s₄.gens.push gs, toks := tk, heap := h₅ } →
            Q (.ref a) { s₄ with gens := s₄.gens.push gs, toks := tk, heap := h₅ })) E { s with heap := h₃, toks := tk₃ } := by
    intro code h₃ tk₃ ps' hx₃ hsz hP₃ htr'
    have keep₃ : ∀ b o, h₀.get? b = some o → h₃.get? b = some o := fun b o e => hx₃ b o (fun q => by rw [q, hP0] at e; cases e) (F₂.keep b o e)
    have F₃ : Fr h₀ L h₃ m := ⟨F₂.ns.at' fun o e => hx₃ L o (Ne.symm hPL) e, keep₃, F₂.above⟩
    have N₃ : News h₀ L h₃ ((P, tabOf ps') :: news) := fun p hp => by
      rcases List.mem_cons.mp hp with rfl | hp
      · exact ⟨hP₃, hPL, hP0⟩
      · have n := N₂ p (.tail _ hp)
        exact ⟨hx₃ _ _ (hPn p hp) n.1, n.2⟩
    have M₃ := M.keeps keep₃
    rw [hg]
    refine wpAny_builtinsFor M₃.ns M₃.name M₃.ne M₃.obj M₃.cls M₃.dict M₃.data ?_
    have hst₃ : St₀ 0 h₃ := (W₀ A hh).frame _ _ _ hst (fun b hb o e => hx₃ b o (fun e' => hPf (e' ▸ hb)) e)
    have hfp₃ : ∀ b ∈ fp, b < h₃.objs.size := fun b hb => Nat.lt_of_lt_of_le (hfp b hb) hsz
    have hIlt : I < h₃.objs.size := hfp₃ I ((W₀ A hh).sub I (List.mem_singleton.mpr rfl))
    refine ⟨I, fp, [I], n₀, Pi, St₀, fun _ => true, fun i y => ∃ u, y = .int (val i) u, rfl, W₀, hst₃, hfp₃, hlim.keeps keep₃, fun hm => hcI (List.mem_singleton.mp hm), ?_, ?_⟩
    · intro href hhref
      have inB : ∀ (t : Shared) m₂, t.heap.Ns h₃.objs.size m₂ → (∀ b ∈ List.range h₃.objs.size, b ∉ [I] → ∀ o, href.get? b = some o → t.heap.get? b = some o) → Fr h₀ h₃.objs.size t.heap m₂ ∧ News h₀ h₃.objs.size t.heap news := by
        intro t m₂ hn hkp
        have up : ∀ b o, b ≠ I → h₃.get? b = some o → t.heap.get? b = some o := fun b o hb e => hkp b (List.mem_range.mpr (Heap.lt_size e)) (fun hm => hb (List.mem_singleton.mp hm)) o (hhref b o e)
        refine ⟨⟨hn, fun b o e => up b o (fun q => by rw [q, hI0] at e; cases e) (keep₃ b o e), Nat.le_trans F₂.above (Nat.le_of_lt (Nat.lt_of_lt_of_le F₂.ns.lt hsz))⟩, fun p hp => ?_⟩
        have n := N₃ p (.tail _ hp)
        exact ⟨up _ _ (hoff p (.tail _ hp)) n.1, Nat.ne_of_lt (Heap.lt_size n.1), n.2.2⟩
      refine ⟨fun A' E' i v t m₂ hA hD hU hP hn hm hkp => ?_, fun A' E' i v t m₂ hA hD hU hP _ hn hm hkp => ?_⟩
      · exact wpAny_pure ⟨rfl, _, _, rfl, fun _ _ e => e⟩
      · exact helt _ code A' E' i v t m₂ hA hD hU hP (hPi i v hP) (inB t m₂ hn hkp).1 hm (inB t m₂ hn hkp).2
    · intro a h₅ tk gs hgb hag hsz₅ hk₅ W hat
      dsimp only at hag hk₅ W hat
      have F₅ := F₃.keeps hk₅
      have N₅ := N₃.keeps hk₅
      have G₅ := G.push hgb
      refine hQ a h₅ tk _ ps' htr' G₅ F₅ N₅ ?_
      intro Q' E' hQ'
      have W1 := W.in4_1
      refine call_sum_walkAnyS (W1.self 0 _ _ _ hat ⟨a, _, _, _, _, _, _, val, rfl, W1, hat, ?_, ?_, ?_⟩)
      · intro b hb
        show b < h₅.objs.size
        rw [hsz₅]
        rcases List.mem_cons.mp hb with rfl | hb
        · exact Nat.lt_succ_self _
        · rcases List.mem_cons.mp hb with rfl | hb
          · exact Nat.lt_succ_of_lt hag
          · exact Nat.lt_succ_of_lt (Nat.lt_trans (List.mem_range.mp hb) hag)
      · rintro j v ⟨i, hij, hv⟩
        rw [passing_all] at hij
        have : i = j := by
          obtain ⟨hj, e⟩ := List.getElem?_eq_some_iff.mp hij
          rw [List.getElem_range] at e; exact e.symm
        subst this
        exact hv
      · intro s' t' hm
        have hwr : ∀ b ∈ (h₃.objs.size :: [I]), L < b := fun b hb => by
          rcases List.mem_cons.mp hb with rfl | hb
          · exact Nat.lt_of_lt_of_le F₂.ns.lt hsz
          · rw [List.mem_singleton.mp hb]; exact hLI
        have F₆ := Fr.moved F₅ hm hwr
        have G₆ := AllBare.movedS (s := { s with heap := h₅, toks := tk, gens := s.gens.push gs }) G₅ hm
        have N₆ : News h₀ L s'.heap ((P, tabOf ps') :: news) := fun p hp => by
          have n := N₅ p hp
          refine ⟨hm.heap _ _ (fun hb => ?_) n.1, n.2⟩
          rcases List.mem_cons.mp hb with e | hb
          · have := Heap.lt_size (N₃ p hp).1
            exact absurd this (by rw [e]; exact Nat.lt_irrefl _)
          · refine hoff (p.1, p.2) ?_ (List.mem_singleton.mp hb)
            rcases List.mem_cons.mp hp with rfl | hp
            · exact absurd (List.mem_singleton.mp hb) (hoff (P, tabOf ps) (.head _))
            · exact .tail _ hp
        obtain ⟨hs', gs', d', tk', os'⟩ := s'
        have e1 := hm.drawn
        have e2 := hm.os
        dsimp only at e1 e2
        subst e1; subst e2
        have z := hQ' t' hs' tk' gs' G₆ F₆ N₆
        rw [passing_all, List.length_range, preSum_map]
        exact z
  refine ⟨hlim.keeps F₂.keep, ?_⟩
  cases hq : codeAmong pos ps.toList with
  | some cv => exact wpAny_genexprCode_hit hcode hok hq (rest cv h₂ tk₂ ps (fun _ _ _ e => e) (Nat.le_refl _) hP₂ htr)
  | none =>
    refine wpAny_genexprCodeX hcode hok htab hq fun c' h₃ tk₃ hx₃ hge hlt hcode₃ _ htab₃ _ => ?_
    obtain ⟨_, _, _, _, _, _, _, _, _, op, _, _, _, _, _, _, _, hop, hpd, htr', _⟩ := hcode₃
    have : op = tabOf _ := Option.some.inj (hop.symm.trans htab₃.2)
    subst this
    cases hpd
    exact rest _ h₃ tk₃ _ hx₃ (Nat.le_trans hge (Nat.le_of_lt hlt)) htab₃.2 htr'
end
end Mine
end
namespace Mine
section
local macro_rules | `(tactic| walk_at "mine_nothing") => `(tactic| skip)
theorem fresh_TS : True ∧ True := by
  w_top off
  first | (walk1; fail "on") | exact ⟨trivial, trivial⟩
end
end Mine
section
open PySem PySem.W PyProof.Rows PySem.Calls PySem.Spec PyProof.V
set_option Elab.async false
set_option maxRecDepth 100000
set_option maxHeartbeats 0
namespace Mine
local macro_rules | `(tactic| walk_at "my_enter") => `(tactic| (refine wpAny_call ?_; walk_at "my_code"))
local macro_rules | `(tactic| walk_at "my_code") => `(tactic| (k_dflt (refine' code_q ?k1 ?k2 ?k3 ?k4 ?k6 ?k7 ?k8 ?k9 ?kB ?_ ?c2 ?c3 ?c4 ?c5; (case k1 => k_asm); (case k2 => k_asm); (case k3 => k_asm); (case k4 => k_asm); (case k6 => k_is); (case k7 => k_is); (case k8 => ktr_room); (case k9 => first | exact BindsTo.of_eq rfl | exact binds_K (by k_in) rfl (by k_is) rfl rfl rfl); (case c5 => decide); (case kB => exact locs rfl); (case c2 => exact rfl); (case c3 => exact rfl); (case c4 => exact rfl); k_whole; intro g' L' h' FG' F' N' kp' X' T' lt'; (try dsimp only); (try k_fold))))
local macro_rules | `(tactic| ktr_room) => `(tactic| ((try simp only [depth_under_make, depth_under_kw, depth_in1, depth_deeper, depth_caller]); (try dsimp only [qTop]); omega))
local macro_rules | `(tactic| ktr_units) => `(tactic| ((try simp only [units_in1, units_deeper, Around.mark_units, units_caller]); (try dsimp only [qTop]); omega))
local macro_rules | `(tactic| walk_at "my_fill") => `(tactic| ((have hkk : PySem.Challenge.rw_ey0020_01 = PySem.Challenge.rw_ey0020_01 ∧ hd.heap_39 = hd.heap_39 := by (k_fill; exact ⟨rfl, rfl⟩)); clear hkk))
local macro_rules | `(tactic| walk_at "km_same") => `(tactic| (intro z; intros; rename_i hs; simp only [List.contains_cons, List.contains_nil, Bool.or_false, Bool.or_eq_false_iff, beq_eq_false_iff_ne, ne_eq] at hs; simp [kstB, *]))
local macro_rules | `(tactic| walk_at "km_same2") => `(tactic| (intro z hz hs; simp only [List.contains_cons, List.contains_nil, Bool.or_false, Bool.or_eq_false_iff, beq_eq_false_iff_ne, ne_eq] at hs; simp only [List.forall_mem_cons, List.not_mem_nil, false_imp_iff, implies_true, and_true, ne_eq] at hz; simp [kstB, hz, hs]))
local macro_rules | `(tactic| walk_at "km_same3") => `(tactic| (intro z hx hz hs; simp only [List.contains_cons, List.contains_nil, Bool.or_false, Bool.or_eq_false_iff, beq_eq_false_iff_ne, ne_eq] at hs; simp only [List.forall_mem_cons, List.not_mem_nil, false_imp_iff, implies_true, and_true, ne_eq] at hz; simp [kstB, hx, hz, hs]))
local macro_rules | `(tactic| walk_at "tell_args") => `(tactic| ((case k2 => k_asm); (case k3 => k_asm); (case k4 => k_asm); (case k5 => k_asm); (case kd => ktr_room); (case ku => ktr_units)))
local macro_rules | `(tactic| walk_at "keep_end") => `(tactic| exact KeepsBut.then (by assumption) (by assumption))
local macro_rules | `(tactic| walk_at "steps_while") => `(tactic| repeat' ((fail_if_success (with_reducible show wpAny _ _ (exec (Stmt.While _ _ _ _) _) _ _ _)); (first | (k_unfold; (try dsimp only)) | (k_end; wrow_close) | walk1 | (dsimp only; walk1) | (leave1; walk_say "STEP leave1"; try dsimp only) | fail "no step")))
def single (n : Nat) : Bool := (32 ≤ n && n ≤ 126) || (160 ≤ n && n ≤ 172) || (174 ≤ n && n ≤ 767) || (880 ≤ n && n ≤ 1154) || (9472 ≤ n && n ≤ 9724) || (10240 ≤ n && n ≤ 10495)
def rs : List (Int × Int) := [(32, 126), (160, 172), (174, 767), (880, 1154), (9472, 9724), (10240, 10495)]
theorem rs_single (n : Nat) (h : ∀ k a b, k < 6 → rs[k]? = some (a, b) → ¬ (a ≤ (n : Int) ∧ (n : Int) ≤ b)) : single n = false := by
  have h0 := h 0 _ _ (by omega) rfl
  have h1 := h 1 _ _ (by omega) rfl
  have h2 := h 2 _ _ (by omega) rfl
  have h3 := h 3 _ _ (by omega) rfl
  have h4 := h 4 _ _ (by omega) rfl
  have h5 := h 5 _ _ (by omega) rfl
  simp only [single, Bool.or_eq_false_iff, Bool.and_eq_false_iff, decide_eq_false_iff_not]
  omega
theorem rs_single' (n : Nat) {k : Nat} {a b : Int} (h : rs[k]? = some (a, b)) (h1 : a ≤ (n : Int)) (h2 : (n : Int) ≤ b) : single n = true := by
  have hk : k < 6 := by have := (List.getElem?_eq_some_iff.mp h).1; simpa [rs] using this
  have : (a, b) = (32, 126) ∨ (a, b) = (160, 172) ∨ (a, b) = (174, 767) ∨ (a, b) = (880, 1154) ∨ (a, b) = (9472, 9724) ∨ (a, b) = (10240, 10495) := by
    match k, hk with
    | 0, _ => left; exact (Option.some.inj h).symm
    | 1, _ => right; left; exact (Option.some.inj h).symm
    | 2, _ => right; right; left; exact (Option.some.inj h).symm
    | 3, _ => right; right; right; left; exact (Option.some.inj h).symm
    | 4, _ => right; right; right; right; left; exact (Option.some.inj h).symm
    | 5, _ => right; right; right; right; right; exact (Option.some.inj h).symm
  simp only [single, Bool.or_eq_true, Bool.and_eq_true, decide_eq_true_eq]
  simp only [Prod.mk.injEq] at this
  omega
def allSingle (x : Str) : Bool := x.cps.all single
theorem all_true {x : Str} (h : ∀ k c, k < x.cps.size → x.cps[k]? = some c → single c = true) : allSingle x = true := by
  unfold allSingle
  rw [Array.all_eq_true]
  intro i hi
  exact h i _ hi (by simp)
theorem all_false {x : Str} {i n : Nat} (hn : x.cps[i]? = some n) (h : single n = false) : allSingle x = false := by
  unfold allSingle
  obtain ⟨hi, e⟩ := Array.getElem?_eq_some_iff.mp hn
  cases q : x.cps.all single with
  | false => rfl
  | true =>
    rw [Array.all_eq_true] at q
    have := q i hi
    rw [e, h] at this
    cases this
theorem ranges_tup {w : World} {h : Heap} (X : (hd.heap_39 w.params).In h) : ∀ (i : Nat) (v : Value), [Value.ref 164, Value.ref 165, Value.ref 166, Value.ref 167, Value.ref 168, Value.ref 169][i]? = some v → ∃ T a b ta tb, v = .ref T ∧ IsTup h T [.int a ta, .int b tb].toArray ∧ rs[i]? = some (a, b) := by
  have : PySem.Challenge.rw_ey0020_01 = PySem.Challenge.rw_ey0020_01 ∧ hd.heap_39 = hd.heap_39 := by k_fill; exact ⟨rfl, rfl⟩
  clear this
  intro i v hv
  have hi : i < 6 := by have := (List.getElem?_eq_some_iff.mp hv).1; simpa using this
  match i, hi with
  | 0, _ => exact ⟨164, _, _, _, _, (Option.some.inj hv).symm, tupK X (by k_is), rfl⟩
  | 1, _ => exact ⟨165, _, _, _, _, (Option.some.inj hv).symm, tupK X (by k_is), rfl⟩
  | 2, _ => exact ⟨166, _, _, _, _, (Option.some.inj hv).symm, tupK X (by k_is), rfl⟩
  | 3, _ => exact ⟨167, _, _, _, _, (Option.some.inj hv).symm, tupK X (by k_is), rfl⟩
  | 4, _ => exact ⟨168, _, _, _, _, (Option.some.inj hv).symm, tupK X (by k_is), rfl⟩
  | 5, _ => exact ⟨169, _, _, _, _, (Option.some.inj hv).symm, tupK X (by k_is), rfl⟩
section
local macro_rules | `(tactic| walk_at "exec For Name Name cons nil") => `(tactic| (k_here; (rename Fr _ _ _ _ => lF'); (with_unfolding_all refine' For_invVF lF' ?k1 ?k2 ?_; (case k1 => exact rfl); (case k2 => exact rfl); k_whole)))
theorem single_tell (w : World) (mg mb) (x : Str) (t : Tok) (news) : Tell w mg mb 177 1 news [.str x t] (fun news' r => news' = news ∧ r = .bool (allSingle x)) := by
  walk_at "my_fill"
  unfold Tell
  intro dp un gd fr h₀ L m s Q E F X N T hd hu hret
  dsimp only [PR, KK] at *
  walk_at "my_enter"
  iterate 4 walk1
  refine text_loop (σ := Unit) (news := news) (fun _ => []) [Str.ofString "codepoint", Str.ofString "_start", Str.ofString "_end"] (fun i nx _ => nx = news ∧ ∀ k c, k < i → x.cps[k]? = some c → single c = true) () rfl (by assumption) (by assumption) (by simp) ⟨rfl, by omega⟩ ?_ ?_
  · rintro i n _ u t nx h tk own hn hoff ⟨rfl, hP⟩ F₁ N₁
    k_fold
    iterate 12 walk1
    have hl : Heap.IsList _ 170 _ := lstK (by assumption : Frag.In _ _) (by k_is)
    have ht := ranges_tup (by assumption)
    refine for_list_km (σ := Unit) (fun _ => []) [Str.ofString "_start", Str.ofString "_end"] (fun i nx' _ => nx' = nx ++ own ∧ ∀ k a b, k < i → rs[k]? = some (a, b) → ¬ (a ≤ (n : Int) ∧ (n : Int) ≤ b)) () rfl hl (by assumption) (by assumption) (by simp) ⟨rfl, fun _ _ _ h => absurd h (Nat.not_lt_zero _)⟩ (fun _ _ _ _ _ _ st q => letGo_listiter st q) ?_ ?_ ?_
    · k_steps
    · rintro j v _ u nx' h tk own' hv hoff' ⟨rfl, hI⟩ F₁ N₁
      obtain ⟨T, a', b', ta, tb, rfl, hT, hab⟩ := ht j v hv
      have hT' : IsTup h T _ := hT.keeps F₁.keep
      k_steps
      · refine KL_end () nx (by assumption) (by assumption) (by intro p hp; simp [hp]) (by intro p hp; simp [hp]) hoff (by simp) ?_ ⟨rfl, ?_⟩
        · walk_at "km_same"
        · simp only [decide_eq_true_eq] at *
          intro k c hk hc
          by_cases e : k = i
          · subst e; rw [hn] at hc; cases hc; exact rs_single' n hab (by omega) (by omega)
          · exact hP k c (by omega) hc
      all_goals (
        refine KM_end () _ (by assumption) (by assumption) (by intro p hp; exact List.mem_append_left _ hp) (by intro p hp; exact List.mem_append_right _ hp) (by assumption) (by simp) ?_ ⟨rfl, ?_⟩
        · walk_at "km_same"
        · simp only [decide_eq_false_iff_not, decide_eq_true_eq] at *
          intro k a₁ b₁ hk hc
          by_cases e : k = j
          · subst e; rw [hab] at hc; cases hc; omega
          · exact hI k a₁ b₁ (by omega) hc)
    · rintro _ u nx' h tk ⟨rfl, hI⟩ F₁ N₁
      k_steps
      exact hret _ _ _ _ (by assumption) (by rename News _ _ _ _ => kn; intro p hp; exact kn p (by simp [hp])) (by walk_at "keep_end") ⟨rfl, by congr 1; exact (all_false hn (rs_single n fun k a b hk h => hI k a b hk h)).symm⟩
  · rintro _ u nx h tk ⟨rfl, hP⟩ F₁ N₁
    k_steps
    exact hret _ _ _ _ (by assumption) (by assumption) (by walk_at "keep_end") ⟨rfl, by congr 1; exact (all_true hP).symm⟩
end
end Mine
end
namespace Mine
section
local macro_rules | `(tactic| walk_at "mine_nothing") => `(tactic| skip)
theorem fresh_CT : True ∧ True := by
  w_top off
  first | (walk1; fail "on") | exact ⟨trivial, trivial⟩
end
end Mine
section
open PySem PySem.W PyProof.Rows PySem.Calls PySem.Spec PyProof.V
set_option Elab.async false
set_option maxRecDepth 100000
set_option maxHeartbeats 0
namespace Mine
section
variable {w : World} {A : Around} {R : Result → Shared → Prop} {h : Heap} {g : Array GenState} {d : Drawn} {t : Nat} {os : OsState} {E : Value → Shared → Prop}
local macro_rules | `(tactic| walk_at "my_fill") => `(tactic| ((have hkk : PySem.Challenge.rw_ey0020_01 = PySem.Challenge.rw_ey0020_01 ∧ hd.heap_39 = hd.heap_39 := by (k_fill; exact ⟨rfl, rfl⟩)); clear hkk))
def CtBack (w : World) (R : Result → Shared → Prop) (r : Result) (s' : Shared) : Prop := match r with
  | .ok (.ret v) => ∃ x o, v = .ref x ∧ s'.heap.get? x = some o ∧ o.cls = .ref 135 ∧ (hd.heap_39 w.params).In s'.heap ∧ R (.ok (.ret (.ref x))) s'
  | _ => False
theorem CtBack.intro {w : World} {R : Result → Shared → Prop} {x : Addr} {o : Obj} {s' : Shared} (h1 : s'.heap.get? x = some o) (h2 : o.cls = .ref 135) (h3 : (hd.heap_39 w.params).In s'.heap) (h4 : R (.ok (.ret (.ref x))) s') : CtBack w R (.ok (.ret (.ref x))) s' := ⟨x, o, rfl, h1, h2, h3, h4⟩
theorem ct_type {v1 v2 v3 : Value} (X : (hd.heap_39 w.params).In h) 
   (hq : codeAny (model PR w) (A.under (.builtin "type.__call__" ⟨[.ref 135, v1, v2, v3], []⟩)) (.call (.ref 82) ⟨[.ref 135, v1, v2, v3], []⟩) (CtBack w R) ⟨h, g, d, t + 1, os⟩) :
    codeAny (model PR w) A (.call (.ref 135) ⟨[v1, v2, v3], []⟩) R ⟨h, g, d, t, os⟩ := by
  walk_at "my_fill"
  have hC : h.get? 135 = _ := X 135 _ rfl
  have call : Looks (model PR w) h (specialOf (.ref 135) "__call__") (some (.builtin "type.__call__")) := looks_specialIn X (by k_is)
  have typ : Looks (model PR w) h (isInstance (.ref 135) (.type "type")) true := looks_instIn X (by k_is)
  have hm : Looks (model PR w) h (mroOf (.ref 135)) [Value.ref 135, Value.type "tuple", Value.type "object"] := ((Looks.ld (part := none) hC).andThen .now).andThen .now
  refine codeAny_of_tree ?_
  show wpAny _ _ (callAny (.ref 135) _) _ _ _
  refine nd_load hC ?_
  show wpAny _ _ (callAny.viaDunder (.ref 135) _) _ _ _
  unfold callAny.viaDunder
  refine wpAny_bind (call.at ?_)
  dsimp only
  rw [tc_bind]
  refine wpAny_bind (wpAny_pure (wpAny_bind (wpAny_pure ?_)))
  refine wpAny_pure (a := Fin.again (.call (.builtin "type.__call__") ⟨[.ref 135, v1, v2, v3], []⟩)) (And.intro rfl ?_)
  refine codeAny_call_builtin_at (Code.quiet_builtin _ (by decide +kernel)) entry_typeCall (check_slot tc_kind tc_split typ (tc_args _ _ _) ?_)
  unfold Builtin.«type.__call__»
  have made : Looks (model PR w) h (Bind.madeBy (.ref 135)) none := by
    intro A Q E s k q
    unfold Bind.madeBy
    refine wpAny_bind (hm A _ E s k ?_)
    rw [List.forIn_cons]
    refine wpAny_bind (wpAny_bind (wpAny_bind (wpAny_bind (wpAny_loadPart (k _ _ hC) (wpAny_pure ?_)))))
    dsimp only
    exact wpAny_pure (wpAny_pure (wpAny_pure q))
  repeat (first | with_reducible refine cls_bind (g := .builtin "staticmethod.__get__") (a := .ref 136) (obj := .none) (tp := .ref 135) (mc := .type "type") X ?hr ?he ?_ | lk)
  case hr => k_is
  case he => k_is
  refine wpAny_call (sm_get (s := ⟨h, g, d, t + 1, os⟩) (f := .ref 82) (rest := []) X (by k_is) ?_)
  refine handed_on rfl ?_
  repeat (first | with_reducible refine wpAny_call ?_ | lk)
  refine codeAny_mono hq fun r s' z => ?_
  rcases r with e | (v | _ | _ | _) <;> first | exact z.elim | skip
  obtain ⟨x, o, rfl, hx, hc, X', z⟩ := z
  obtain ⟨h', g', d', t', os'⟩ := s'
  dsimp only at hx X'
  have t1 : Looks (model PR w) h' (typeOf (.ref x)) (.ref 135) := (Looks.ld hx).andThen (by rw [hc]; exact .now)
  have s1 : Looks (model PR w) h' (isSubtype (.ref 135) (.ref 135)) true := looks_subIn X' (by k_is)
  have i1 : Looks (model PR w) h' (typeLookup (.ref 135) "__init__") (some (.builtin "object.__init__")) := looks_findIn X' (by k_is)
  have hC' : h'.get? 135 = _ := X' 135 _ rfl
  have hm' : Looks (model PR w) h' (mroOf (.ref 135)) [Value.ref 135, Value.type "tuple", Value.type "object"] := ((Looks.ld (part := none) hC').andThen .now).andThen .now
  have made' : Looks (model PR w) h' (Bind.madeBy (.ref 135)) none := by
    intro A Q E s k q
    unfold Bind.madeBy
    refine wpAny_bind (hm' A _ E s k ?_)
    rw [List.forIn_cons]
    refine wpAny_bind (wpAny_bind (wpAny_bind (wpAny_bind (wpAny_loadPart (k _ _ hC') (wpAny_pure ?_)))))
    dsimp only
    exact wpAny_pure (wpAny_pure (wpAny_pure q))
  unfold isInstance callSpecial? specialOf
  repeat (first | rw [oi_bind] | with_reducible refine wpAny_call ?_ | lk)
  have t2 : Looks (model PR w) h' (isInstance (.ref x) (.type "object")) true := t1.andThen (looks_subIn X' (by k_is))
  refine codeAny_call_builtin oi_plain entry_oi (@check_slot (model PR w) _ _ _ "object.__init__" "object" "__init__" (.ref x) [v1, v2, v3] [] _ oi_kind oi_split t2 (by unfold argsOk; kernel_rfl) ?_)
  unfold Builtin.«object.__init__»
  repeat lk
  exact z
end
end Mine
end
namespace Mine
section
local macro_rules | `(tactic| walk_at "mine_nothing") => `(tactic| skip)
theorem fresh_TN : True ∧ True := by
  w_top off
  first | (walk1; fail "on") | exact ⟨trivial, trivial⟩
end
end Mine
section
open PySem PySem.W PyProof.Rows PySem.Calls PySem.Spec PyProof.V
set_option Elab.async false
set_option maxRecDepth 100000
set_option maxHeartbeats 0
namespace Mine
section
variable {w : World} {A : Around} {R : Result → Shared → Prop} {h : Heap} {g : Array GenState} {d : Drawn} {t : Nat} {os : OsState} {E : Value → Shared → Prop}
local macro_rules | `(tactic| walk_at "my_fill") => `(tactic| ((have hkk : PySem.Challenge.rw_ey0020_01 = PySem.Challenge.rw_ey0020_01 ∧ hd.heap_39 = hd.heap_39 := by (k_fill; exact ⟨rfl, rfl⟩)); clear hkk))
theorem ct_base (X : (hd.heap_39 w.params).In h) : Looks (model PR w) h (Bind.staticBase (.ref 135)) (.type "tuple") := by
  walk_at "my_fill"
  have hC : h.get? 135 = _ := X 135 _ rfl
  have hm : Looks (model PR w) h (mroOf (.ref 135)) [Value.ref 135, Value.type "tuple", Value.type "object"] := ((Looks.ld (part := none) hC).andThen .now).andThen .now
  have made : Looks (model PR w) h (Bind.madeBy (.ref 135)) none := by
    intro A Q E s k q
    unfold Bind.madeBy
    refine wpAny_bind (hm A _ E s k ?_)
    rw [List.forIn_cons]
    refine wpAny_bind (wpAny_bind (wpAny_bind (wpAny_bind (wpAny_loadPart (k _ _ hC) (wpAny_pure ?_)))))
    dsimp only
    exact wpAny_pure (wpAny_pure (wpAny_pure q))
  intro A Q E s k q
  unfold Bind.staticBase
  refine wpAny_bind (hm A _ E s k ?_)
  have hC' := k _ _ hC
  have made' := made.keeps k
  have mt : Looks (model PR w) s.heap (Bind.madeBy (.type "tuple")) (some "tuple.__new__") := Looks.of_pure PySem.F.called_tuple.made
  rw [List.forIn_cons]
  repeat lk
  exact q
abbrev ctObj (v1 v2 v3 : Value) (dx : Addr) : Obj := { cls := .ref 135, dict := some dx, data := .seq #[v1, v2, v3] }
theorem ct_new {D : Addr} {v1 v2 v3 : Value} {o : Obj} {n : Nat} (X : (hd.heap_39 w.params).In h) (hD : h.get? D = some o) (hc : o.cls = .type "tuple") (hd : o.data = .seq #[v1, v2, v3] n)
    (hq : ∀ h' : Heap, (∀ b o', h.get? b = some o' → h'.get? b = some o') → R (.ok (.ret (.ref (h'.objs.size + 1)))) ⟨(h'.push emptyDict).push (ctObj v1 v2 v3 h'.objs.size), g, d, t, os⟩) :
    codeAny (model PR w) A (.call (.builtin "tuple.__new__") ⟨[.ref 135, .ref D], []⟩) R ⟨h, g, d, t, os⟩ := by
  walk_at "my_fill"
  have hC : h.get? 135 = _ := X 135 _ rfl
  have base := ct_base X
  have mt : Looks (model PR w) h (Bind.madeBy (.type "tuple")) (some "tuple.__new__") := Looks.of_pure PySem.F.called_tuple.made
  have sub : Looks (model PR w) h (isSubtype (.ref 135) (.type "tuple")) true := looks_subIn X (by k_is)
  have typ : Looks (model PR w) h (isType (.ref 135)) true := (Looks.ld (part := none) hC).andThen .now
  have ini : Looks (model PR w) h (typeLookup (.ref 135) "__init__") (some (.builtin "object.__init__")) := looks_findIn X (by k_is)
  refine codeAny_call_builtin_code (Code.quiet_builtin _ (by decide +kernel)) ?_
  simp only [checkBuiltinCall, show builtinKind "tuple.__new__" = some .builtinFn from by decide +kernel, show splitId "tuple.__new__" = some ("tuple", "__new__") from by decide +kernel]
  repeat lk
  refine codeAny_builtin PySem.F.entry_tuple_new ?_
  have here : Looks (model PR w) h (Bind.madeHere "tuple.__new__" (.ref 135)) () := base.andThen (mt.andThen (Looks.of_pure (by simp only [Option.map_some, bne_self_eq_false, Bool.false_eq_true, if_false])))
  unfold Builtin.«tuple.__new__»
  repeat (first | with_reducible refine wpAny_collect_seq D (.inr rfl) hD hc hd (fun h' hk => ?_) | lk)
  have hC' := hk _ _ hC
  have hC2 : ∀ o₁ o₂, ((h'.push o₁).push o₂).get? 135 = _ := fun o₁ o₂ => Heap.get?_push_of_some _ (Heap.get?_push_of_some _ hC')
  repeat lk
  refine nd_load (hC2 _ _) ?_
  repeat lk
  have z := hq h' hk
  rw [← Heap.size_push (o := emptyDict)] at z
  exact z
theorem ct_newF {h₀ : Heap} {L : Addr} {m : Str → Option Value} {news : List (Addr × Obj)} {s : Shared} {Q : Value → Shared → Prop} {D : Addr} {v1 v2 v3 : Value} (F : Fr h₀ L s.heap m) (X₀ : (hd.heap_39 w.params).In h₀) (N : News h₀ L s.heap news)
    (hm : (D, ({ cls := .type "tuple", data := .seq #[v1, v2, v3] } : Obj)) ∈ news)
    (k : ∀ x dx h', Fr h₀ L h' m → News h₀ L h' ((x, ctObj v1 v2 v3 dx) :: (dx, emptyDict) :: news) → (∀ p ∈ news, p.1 < dx) → dx < x → Q (.ref x) { s with heap := h' }) :
    wpAny (model PR w) A (call (.builtin "tuple.__new__") [.ref 135, .ref D]) Q E s := by
  obtain ⟨h, g, d, t, os⟩ := s
  refine wpAny_call (ct_new (X₀.keeps F.keep) (N _ hm).1 rfl rfl fun h2 hk2 => ?_)
  have F2 := F.keeps hk2
  have N2 := N.keeps hk2
  have N3 := (N2.push F2 emptyDict).push (F2.push emptyDict) (ctObj v1 v2 v3 h2.objs.size)
  rw [Heap.size_push] at N3
  exact k _ h2.objs.size _ ((F2.push emptyDict).push _) N3 (fun p hp => Heap.lt_size (N2 p hp).1) (Nat.lt_succ_self _)
end
end Mine
end
namespace Mine
section
local macro_rules | `(tactic| walk_at "mine_nothing") => `(tactic| skip)
theorem fresh_TL : True ∧ True := by
  w_top off
  first | (walk1; fail "on") | exact ⟨trivial, trivial⟩
end
end Mine
section
open PySem PySem.W PyProof.Rows PySem.Calls PySem.Spec PyProof.V
set_option Elab.async false
set_option maxRecDepth 100000
set_option maxHeartbeats 0
namespace Mine
local macro_rules | `(tactic| walk_at "my_enter") => `(tactic| (refine wpAny_call ?_; walk_at "my_code"))
local macro_rules | `(tactic| walk_at "my_code") => `(tactic| (k_dflt (refine' code_q ?k1 ?k2 ?k3 ?k4 ?k6 ?k7 ?k8 ?k9 ?kB ?_ ?c2 ?c3 ?c4 ?c5; (case k1 => k_asm); (case k2 => k_asm); (case k3 => k_asm); (case k4 => k_asm); (case k6 => k_is); (case k7 => k_is); (case k8 => ktr_room); (case k9 => first | exact BindsTo.of_eq rfl | exact binds_K (by k_in) rfl (by k_is) rfl rfl rfl); (case c5 => decide); (case kB => exact locs rfl); (case c2 => exact rfl); (case c3 => exact rfl); (case c4 => exact rfl); k_whole; intro g' L' h' FG' F' N' kp' X' T' lt'; (try dsimp only); (try k_fold))))
local macro_rules | `(tactic| ktr_room) => `(tactic| ((try simp only [depth_under_make, depth_under_kw, depth_in1, depth_deeper, depth_caller]); (try dsimp only [qTop]); omega))
local macro_rules | `(tactic| ktr_units) => `(tactic| ((try simp only [units_in1, units_deeper, Around.mark_units, units_caller]); (try dsimp only [qTop]); omega))
local macro_rules | `(tactic| walk_at "my_fill") => `(tactic| ((have hkk : PySem.Challenge.rw_ey0020_01 = PySem.Challenge.rw_ey0020_01 ∧ hd.heap_39 = hd.heap_39 := by (k_fill; exact ⟨rfl, rfl⟩)); clear hkk))
local macro_rules | `(tactic| walk_at "km_same") => `(tactic| (intro z; intros; rename_i hs; simp only [List.contains_cons, List.contains_nil, Bool.or_false, Bool.or_eq_false_iff, beq_eq_false_iff_ne, ne_eq] at hs; simp [kstB, *]))
local macro_rules | `(tactic| walk_at "km_same2") => `(tactic| (intro z hz hs; simp only [List.contains_cons, List.contains_nil, Bool.or_false, Bool.or_eq_false_iff, beq_eq_false_iff_ne, ne_eq] at hs; simp only [List.forall_mem_cons, List.not_mem_nil, false_imp_iff, implies_true, and_true, ne_eq] at hz; simp [kstB, hz, hs]))
local macro_rules | `(tactic| walk_at "km_same3") => `(tactic| (intro z hx hz hs; simp only [List.contains_cons, List.contains_nil, Bool.or_false, Bool.or_eq_false_iff, beq_eq_false_iff_ne, ne_eq] at hs; simp only [List.forall_mem_cons, List.not_mem_nil, false_imp_iff, implies_true, and_true, ne_eq] at hz; simp [kstB, hx, hz, hs]))
local macro_rules | `(tactic| walk_at "tell_args") => `(tactic| ((case k2 => k_asm); (case k3 => k_asm); (case k4 => k_asm); (case k5 => k_asm); (case kd => ktr_room); (case ku => ktr_units)))
local macro_rules | `(tactic| walk_at "keep_end") => `(tactic| exact KeepsBut.then (by assumption) (by assumption))
local macro_rules | `(tactic| walk_at "steps_while") => `(tactic| repeat' ((fail_if_success (with_reducible show wpAny _ _ (exec (Stmt.While _ _ _ _) _) _ _ _)); (first | (k_unfold; (try dsimp only)) | (k_end; wrow_close) | walk1 | (dsimp only; walk1) | (leave1; walk_say "STEP leave1"; try dsimp only) | fail "no step")))
theorem drop3 {h₀ h : Heap} {L : Addr} {a b c : Addr × Obj} {l : List (Addr × Obj)} (N : News h₀ L h (a :: b :: c :: l)) : News h₀ L h (a :: b :: l) := fun p hp => N p (by
  rcases List.mem_cons.mp hp with rfl | hp
  · exact .head _
  · rcases List.mem_cons.mp hp with rfl | hp
    · exact .tail _ (.head _)
    · exact .tail _ (.tail _ (.tail _ hp)))
section
local macro_rules | `(tactic| walk_at "getMethod type:tuple") => `(tactic| (k_here; refine' method_type ?F ?X ?m (by decide +kernel) ?e ?h ?_; (case F => k_asm); (case X => k_asm); (case m => exact meta_tuple); (case e => k_dflt k_is); (case h => k_handed)))
theorem load_tell (w : World) (mg mb) (x : Str) (t : Tok) (news) : Tell w mg mb 163 3 news [.str x t] (fun news' r => ∃ T dx t', r = .ref T ∧ news' = (T, ctObj (.str (Str.ofString "narrow") t') (.ref 154) (.ref 155) dx) :: (dx, emptyDict) :: news ∧ AllLt dx news ∧ dx < T) := by
  walk_at "my_fill"
  unfold Tell
  intro dp un gd fr h₀ L m s Q E F X N T hd hu hret
  dsimp only [PR, KK] at *
  walk_at "my_enter"
  iterate 17 walk1
  have KX := Frag.In.keeps (by assumption : Frag.In _ _) (Fr.keep (by assumption))
  refine wpAny_call (ct_type KX ?_)
  walk_at "my_code"
  k_steps
  refine ct_newF (by assumption) (by assumption) (by assumption) (.head _) fun x1 dx1 h1 F3 N3 l1 l2 => ?_
  k_steps
  rename News _ _ _ _ => N4
  rename Fr _ _ _ _ => F4
  refine CtBack.intro (N4 _ (.head _)).1 rfl (Frag.In.keeps (by assumption) F4.keep) ?_
  k_steps
  rename News _ _ _ _ => N5
  exact hret _ _ _ _ (by assumption) (drop3 N5) (by walk_at "keep_end") ⟨_, _, _, rfl, rfl, allLt_of fun p hp => l1 _ (by simp [hp]), l2⟩
end
end Mine
end
namespace Mine
section
local macro_rules | `(tactic| walk_at "mine_nothing") => `(tactic| skip)
theorem fresh_TW : True ∧ True := by
  w_top off
  first | (walk1; fail "on") | exact ⟨trivial, trivial⟩
end
end Mine
section
open PySem PySem.W PyProof.Rows PySem.Calls PySem.Spec PyProof.V
open Builtin.ObjectAttr
set_option Elab.async false
set_option maxRecDepth 100000
set_option maxHeartbeats 0
namespace Mine
section
variable {w : World} {A : Around} {E : Value → Shared → Prop} {s : Shared} 
local macro_rules | `(tactic| walk_at "my_fill") => `(tactic| ((have hkk : PySem.Challenge.rw_ey0020_01 = PySem.Challenge.rw_ey0020_01 ∧ hd.heap_39 = hd.heap_39 := by (k_fill; exact ⟨rfl, rfl⟩)); clear hkk))
theorem ct_widths {x dx : Addr} {v1 v2 v3 : Value} {Q : Value → Shared → Prop} {expr : Bool} (X : (hd.heap_39 w.params).In s.heap) (hx : s.heap.get? x = some (ctObj v1 v2 v3 dx)) (hdx : s.heap.get? dx = some emptyDict)
    (h : codeAny (model PR w) A.in1 (.call (.ref 43) ⟨[.ref 127, .ref x, .ref 135], []⟩) (fun r s' => match r with | .ok (.ret v) => handedIn v = true ∧ Q v s' | _ => False) { s with toks := s.toks + 1 }) :
    wpAny (model PR w) A (getAttr (.ref x) "widths" expr) Q E s := by
  walk_at "my_fill"
  have I : InstAt s.heap x (ctObj v1 v2 v3 dx) 135 (some emptyDict) := ⟨hx, rfl, rfl, hdx⟩
  have hf : findObj (hd.heap_39 w.params) 135 (some emptyDict) "widths" = some (.bind (.ref 43) (.ref 127)) := by
    have h1 : (clsIn (hd.heap_39 w.params) 135).isSome = true := by kernel_rfl
    have h2 : findIn (hd.heap_39 w.params) (.ref 135) "widths" = some (some (.ref 127)) := by k_is
    have h3 : specialIn (hd.heap_39 w.params) (.ref 127) "__get__" = some (some (.ref 43)) := by k_is
    have h4 : takesIn (hd.heap_39 w.params) (.ref 127) = some true := by k_is
    exact findObj_data h1 h2 h3 h4
  obtain ⟨hh, g, d, t, os⟩ := s
  dsimp only at X hx hdx I
  have L0 := I.type (M := model PR w)
  have LF := looks_find (M := model PR w) X I hf
  have LG : Looks (model PR w) hh (typeLookup (.ref 135) "__getattribute__") (some (.builtin "tuple.__getattribute__")) := looks_findIn X (by k_is)
  have LH : Looks (model PR w) hh (typeLookup (.ref 135) "__getattr__") none := looks_findIn X (by k_is)
  have LS : Looks (model PR w) hh (isSubtype (.ref 135) (.type "tuple")) true := looks_subIn X (by k_is)
  have LT : Looks (model PR w) hh (isInstance (.ref x) (.type "tuple")) true := L0.andThen LS
  cases expr
  all_goals (
    repeat (first | with_reducible refine wpAny_attempt ?_ | with_reducible refine wpAny_call ?_ | lk)
    refine codeAny_call_builtin (by decide +kernel) am_entry_tuple_getattribute (@check_slot (model PR w) _ _ _ "tuple.__getattribute__" "tuple" "__getattribute__" (.ref x) [.str "widths" t] [] _ (by decide +kernel) (by decide +kernel) LT (by unfold argsOk; kernel_rfl) ?_)
    unfold Builtin.«object.__getattribute__»
    repeat (first | with_reducible refine wpAny_call ?_ | lk)
    refine codeAny_mono h fun r s' z => ?_
    match r, z with
    | .ok (.ret v), ⟨hh', z⟩ =>
      refine wpAny_pure ?_
      show wpAny _ _ (handedOut v) _ _ _
      rw [handedOut_of hh']
      exact wpAny_pure z)
theorem ct_issub {Q : Value → Shared → Prop} (X : (hd.heap_39 w.params).In s.heap) (h : Q (.bool true) s) : wpAny (model PR w) A (call (.builtin "issubclass") [.ref 135, .type "tuple"]) Q E s := by
  walk_at "my_fill"
  obtain ⟨hh, g, d, t, os⟩ := s
  have LS : Looks (model PR w) hh (isSubtype (.ref 135) (.type "tuple")) true := looks_subIn X (by k_is)
  have LM : Looks (model PR w) hh (typeOf (.type "tuple")) (.type "type") := Looks.of_pure meta_tuple
  have LT : Looks (model PR w) hh (isInstance (.ref 135) (.type "type")) true := looks_instIn X (by k_is)
  have hC : hh.get? 135 = _ := X 135 _ rfl
  have typ : Looks (model PR w) hh (isType (.ref 135)) true := (Looks.ld (part := none) hC).andThen .now
  refine wpAny_call (codeAny_call_builtin (by decide +kernel) (entryFor_of_tree (by kernel_rfl) : entryFor table "issubclass" = some Builtin.«issubclass») ?_)
  rw [show checkBuiltinCall "issubclass" ⟨[.ref 135, .type "tuple"], []⟩ = pure () from by kernel_rfl]
  refine wpAny_pure ?_
  unfold Builtin.«issubclass»
  repeat lk
  refine ⟨Code.quiet_builtin _ (by decide +kernel), codeAny_builtin (entryFor_of_tree (by kernel_rfl) : entryFor table "issubclass.nested" = some Builtin.«issubclass.nested») ?_⟩
  unfold Builtin.«issubclass.nested»
  repeat lk
  exact h
theorem ct_item {x dx : Addr} {v1 v2 v3 : Value} {tk : Tok} {Q : Value → Shared → Prop} (X : (hd.heap_39 w.params).In s.heap) (hx : s.heap.get? x = some (ctObj v1 v2 v3 dx)) (h : Q v2 s) : wpAny (model PR w) A (call (.builtin "tuple.__getitem__") [.ref x, .int 1 tk]) Q E s := by
  walk_at "my_fill"
  obtain ⟨hh, g, d, t, os⟩ := s
  dsimp only at X hx
  have L0 : Looks (model PR w) hh (typeOf (.ref x)) (.ref 135) := (Looks.ld hx).andThen .now
  have LS : Looks (model PR w) hh (isSubtype (.ref 135) (.type "tuple")) true := looks_subIn X (by k_is)
  have LT : Looks (model PR w) hh (isInstance (.ref x) (.type "tuple")) true := L0.andThen LS
  refine wpAny_call (codeAny_call_builtin (by decide +kernel) (entryFor_of_tree (by kernel_rfl) : entryFor table "tuple.__getitem__" = some Builtin.«tuple.__getitem__») (@check_slot (model PR w) _ _ _ "tuple.__getitem__" "tuple" "__getitem__" (.ref x) [.int 1 tk] [] _ (by decide +kernel) (by decide +kernel) LT (by unfold argsOk; kernel_rfl) ?_))
  unfold Builtin.«tuple.__getitem__»
  repeat lk
  exact h
end
end Mine
end
namespace Mine
section
local macro_rules | `(tactic| walk_at "mine_nothing") => `(tactic| skip)
theorem fresh_TV : True ∧ True := by
  w_top off
  first | (walk1; fail "on") | exact ⟨trivial, trivial⟩
end
end Mine
section
open PySem PySem.W PyProof.Rows PySem.Calls PySem.Spec PyProof.V
set_option Elab.async false
set_option maxRecDepth 100000
set_option maxHeartbeats 0
namespace Mine
local macro_rules | `(tactic| walk_at "my_enter") => `(tactic| (refine wpAny_call ?_; walk_at "my_code"))
local macro_rules | `(tactic| walk_at "my_code") => `(tactic| (k_dflt (refine' code_q ?k1 ?k2 ?k3 ?k4 ?k6 ?k7 ?k8 ?k9 ?kB ?_ ?c2 ?c3 ?c4 ?c5; (case k1 => k_asm); (case k2 => k_asm); (case k3 => k_asm); (case k4 => k_asm); (case k6 => k_is); (case k7 => k_is); (case k8 => ktr_room); (case k9 => first | exact BindsTo.of_eq rfl | exact binds_K (by k_in) rfl (by k_is) rfl rfl rfl); (case c5 => decide); (case kB => exact locs rfl); (case c2 => exact rfl); (case c3 => exact rfl); (case c4 => exact rfl); k_whole; intro g' L' h' FG' F' N' kp' X' T' lt'; (try dsimp only); (try k_fold))))
local macro_rules | `(tactic| ktr_room) => `(tactic| ((try simp only [depth_under_make, depth_under_kw, depth_in1, depth_deeper, depth_caller]); (try dsimp only [qTop]); omega))
local macro_rules | `(tactic| ktr_units) => `(tactic| ((try simp only [units_in1, units_deeper, Around.mark_units, units_caller]); (try dsimp only [qTop]); omega))
local macro_rules | `(tactic| walk_at "my_fill") => `(tactic| ((have hkk : PySem.Challenge.rw_ey0020_01 = PySem.Challenge.rw_ey0020_01 ∧ hd.heap_39 = hd.heap_39 := by (k_fill; exact ⟨rfl, rfl⟩)); clear hkk))
local macro_rules | `(tactic| walk_at "km_same") => `(tactic| (intro z; intros; rename_i hs; simp only [List.contains_cons, List.contains_nil, Bool.or_false, Bool.or_eq_false_iff, beq_eq_false_iff_ne, ne_eq] at hs; simp [kstB, *]))
local macro_rules | `(tactic| walk_at "km_same2") => `(tactic| (intro z hz hs; simp only [List.contains_cons, List.contains_nil, Bool.or_false, Bool.or_eq_false_iff, beq_eq_false_iff_ne, ne_eq] at hs; simp only [List.forall_mem_cons, List.not_mem_nil, false_imp_iff, implies_true, and_true, ne_eq] at hz; simp [kstB, hz, hs]))
local macro_rules | `(tactic| walk_at "km_same3") => `(tactic| (intro z hx hz hs; simp only [List.contains_cons, List.contains_nil, Bool.or_false, Bool.or_eq_false_iff, beq_eq_false_iff_ne, ne_eq] at hs; simp only [List.forall_mem_cons, List.not_mem_nil, false_imp_iff, implies_true, and_true, ne_eq] at hz; simp [kstB, hx, hz, hs]))
local macro_rules | `(tactic| walk_at "tell_args") => `(tactic| ((case k2 => k_asm); (case k3 => k_asm); (case k4 => k_asm); (case k5 => k_asm); (case kd => ktr_room); (case ku => ktr_units)))
local macro_rules | `(tactic| walk_at "keep_end") => `(tactic| exact KeepsBut.then (by assumption) (by assumption))
local macro_rules | `(tactic| walk_at "steps_while") => `(tactic| repeat' ((fail_if_success (with_reducible show wpAny _ _ (exec (Stmt.While _ _ _ _) _) _ _ _)); (first | (k_unfold; (try dsimp only)) | (k_end; wrow_close) | walk1 | (dsimp only; walk1) | (leave1; walk_say "STEP leave1"; try dsimp only) | fail "no step")))
section
local macro_rules | `(tactic| walk_at "getMethod type:tuple") => `(tactic| (k_here; refine' method_type ?F ?X ?m (by decide +kernel) ?e ?h ?_; (case F => k_asm); (case X => k_asm); (case m => exact meta_tuple); (case e => k_dflt k_is); (case h => k_handed)))
local macro_rules | `(tactic| walk_at "call builtin:issubclass") => `(tactic| (k_here; refine' ct_issub ?X ?_; (case X => k_in)))
local macro_rules | `(tactic| walk_at "call builtin:tuple.__getitem__") => `(tactic| (k_here; refine' ct_item ?X ?hx ?_; (case X => k_in); (case hx => exact (News.get (by k_asm) (by assumption)))))
local macro_rules | `(tactic| walk_at "call type:type") => `(tactic| (k_here; (with_reducible show wpAny _ _ (call (Value.type "type") [Value.ref _]) _ _ _); refine' kto_own (C := 135) (ox := ctObj _ (.ref 154) _ _) (od := some emptyDict) ⟨?h1, rfl, rfl, ?h2⟩ ?_; (case h1 => exact (News.get (by k_asm) (by assumption))); (case h2 => exact (News.get (by k_asm) (by assumption)))))
theorem widths_tell {w : World} {mg mb} {x dx : Addr} {v1 : Value} {v3 : Value} {news} (hx : (x, ctObj v1 (.ref 154) v3 dx) ∈ news) (hdx : (dx, emptyDict) ∈ news)
    {dp un : Nat} {gd : Option (List Code)} {fr : Option (List Env)} {h₀ : Heap} {L : Addr} {m : Str → Option Value} {s : Shared}
    {expr : Bool} {Q E : Value → Shared → Prop} (F : Fr h₀ L s.heap m) (X : (hd.heap_39 w.params).In h₀) (N : News h₀ L s.heap news) (T : TopRead hd.view_39 LO mg mb h₀) (hd : dp + 3 < recursionLimit)
    (hret : ∀ h' tk', Fr h₀ L h' m → News h₀ L h' news → KeepsBut news s.heap h' → Q (.ref 154) { s with heap := h', toks := tk' }) :
    wpAny (model PR w) (qTop dp un gd fr) (getAttr (.ref x) "widths" expr) Q E s := by
  walk_at "my_fill"
  dsimp only [PR] at *
  refine ct_widths (X.keeps F.keep) (N _ hx).1 (N _ hdx).1 ?_
  walk_at "my_code"
  k_steps
  exact hret _ _ (by assumption) (by assumption) (by walk_at "keep_end")
end
end Mine
end
namespace Mine
section
local macro_rules | `(tactic| walk_at "mine_nothing") => `(tactic| skip)
theorem fresh_TG : True ∧ True := by
  w_top off
  first | (walk1; fail "on") | exact ⟨trivial, trivial⟩
end
end Mine
section
open PySem PySem.W PyProof.Rows PySem.Calls PySem.Spec PyProof.V
set_option Elab.async false
set_option maxRecDepth 100000
set_option maxHeartbeats 0
namespace Mine
local macro_rules | `(tactic| walk_at "my_enter") => `(tactic| (refine wpAny_call ?_; walk_at "my_code"))
local macro_rules | `(tactic| walk_at "my_code") => `(tactic| (k_dflt (refine' code_q ?k1 ?k2 ?k3 ?k4 ?k6 ?k7 ?k8 ?k9 ?kB ?_ ?c2 ?c3 ?c4 ?c5; (case k1 => k_asm); (case k2 => k_asm); (case k3 => k_asm); (case k4 => k_asm); (case k6 => k_is); (case k7 => k_is); (case k8 => ktr_room); (case k9 => first | exact BindsTo.of_eq rfl | exact binds_K (by k_in) rfl (by k_is) rfl rfl rfl); (case c5 => decide); (case kB => exact locs rfl); (case c2 => exact rfl); (case c3 => exact rfl); (case c4 => exact rfl); k_whole; intro g' L' h' FG' F' N' kp' X' T' lt'; (try dsimp only); (try k_fold))))
local macro_rules | `(tactic| ktr_room) => `(tactic| ((try simp only [depth_under_make, depth_under_kw, depth_in1, depth_deeper, depth_caller]); (try dsimp only [qTop]); omega))
local macro_rules | `(tactic| ktr_units) => `(tactic| ((try simp only [units_in1, units_deeper, Around.mark_units, units_caller]); (try dsimp only [qTop]); omega))
local macro_rules | `(tactic| walk_at "my_fill") => `(tactic| ((have hkk : PySem.Challenge.rw_ey0020_01 = PySem.Challenge.rw_ey0020_01 ∧ hd.heap_39 = hd.heap_39 := by (k_fill; exact ⟨rfl, rfl⟩)); clear hkk))
local macro_rules | `(tactic| walk_at "km_same") => `(tactic| (intro z; intros; rename_i hs; simp only [List.contains_cons, List.contains_nil, Bool.or_false, Bool.or_eq_false_iff, beq_eq_false_iff_ne, ne_eq] at hs; simp [kstB, *]))
local macro_rules | `(tactic| walk_at "km_same2") => `(tactic| (intro z hz hs; simp only [List.contains_cons, List.contains_nil, Bool.or_false, Bool.or_eq_false_iff, beq_eq_false_iff_ne, ne_eq] at hs; simp only [List.forall_mem_cons, List.not_mem_nil, false_imp_iff, implies_true, and_true, ne_eq] at hz; simp [kstB, hz, hs]))
local macro_rules | `(tactic| walk_at "km_same3") => `(tactic| (intro z hx hz hs; simp only [List.contains_cons, List.contains_nil, Bool.or_false, Bool.or_eq_false_iff, beq_eq_false_iff_ne, ne_eq] at hs; simp only [List.forall_mem_cons, List.not_mem_nil, false_imp_iff, implies_true, and_true, ne_eq] at hz; simp [kstB, hx, hz, hs]))
local macro_rules | `(tactic| walk_at "tell_args") => `(tactic| ((case k2 => k_asm); (case k3 => k_asm); (case k4 => k_asm); (case k5 => k_asm); (case kd => ktr_room); (case ku => ktr_units)))
local macro_rules | `(tactic| walk_at "keep_end") => `(tactic| exact KeepsBut.then (by assumption) (by assumption))
local macro_rules | `(tactic| walk_at "steps_while") => `(tactic| repeat' ((fail_if_success (with_reducible show wpAny _ _ (exec (Stmt.While _ _ _ _) _) _ _ _)); (first | (k_unfold; (try dsimp only)) | (k_end; wrow_close) | walk1 | (dsimp only; walk1) | (leave1; walk_say "STEP leave1"; try dsimp only) | fail "no step")))
def tb : List (Int × Int × Int) := [(0, 0, 0), (173, 173, 0), (768, 879, 0), (4352, 4447, 2), (8203, 8207, 0), (9200, 9203, 2), (11904, 12350, 2), (12353, 13311, 2), (19968, 40959, 2), (44032, 55203, 2), (65024, 65039, 0), (65281, 65376, 2), (127744, 127994, 2), (127995, 127999, 0), (128000, 128591, 2)]
def tbV : List Value := [Value.ref 139, Value.ref 140, Value.ref 141, Value.ref 142, Value.ref 143, Value.ref 144, Value.ref 145, Value.ref 146, Value.ref 147, Value.ref 148, Value.ref 149, Value.ref 150, Value.ref 151, Value.ref 152, Value.ref 153]
theorem tbl_tup {w : World} {h : Heap} (X : (hd.heap_39 w.params).In h) : ∀ (i : Nat), i < 15 → ∃ T a b c ta tb' tc, tbV[i]? = some (.ref T) ∧ IsTup h T [.int a ta, .int b tb', .int c tc].toArray ∧ tb[i]? = some (a, b, c) := by
  walk_at "my_fill"
  intro i hi
  match i, hi with
  | 0, _ => exact ⟨139, _, _, _, _, _, _, rfl, tupK X (by k_is), rfl⟩
  | 1, _ => exact ⟨140, _, _, _, _, _, _, rfl, tupK X (by k_is), rfl⟩
  | 2, _ => exact ⟨141, _, _, _, _, _, _, rfl, tupK X (by k_is), rfl⟩
  | 3, _ => exact ⟨142, _, _, _, _, _, _, rfl, tupK X (by k_is), rfl⟩
  | 4, _ => exact ⟨143, _, _, _, _, _, _, rfl, tupK X (by k_is), rfl⟩
  | 5, _ => exact ⟨144, _, _, _, _, _, _, rfl, tupK X (by k_is), rfl⟩
  | 6, _ => exact ⟨145, _, _, _, _, _, _, rfl, tupK X (by k_is), rfl⟩
  | 7, _ => exact ⟨146, _, _, _, _, _, _, rfl, tupK X (by k_is), rfl⟩
  | 8, _ => exact ⟨147, _, _, _, _, _, _, rfl, tupK X (by k_is), rfl⟩
  | 9, _ => exact ⟨148, _, _, _, _, _, _, rfl, tupK X (by k_is), rfl⟩
  | 10, _ => exact ⟨149, _, _, _, _, _, _, rfl, tupK X (by k_is), rfl⟩
  | 11, _ => exact ⟨150, _, _, _, _, _, _, rfl, tupK X (by k_is), rfl⟩
  | 12, _ => exact ⟨151, _, _, _, _, _, _, rfl, tupK X (by k_is), rfl⟩
  | 13, _ => exact ⟨152, _, _, _, _, _, _, rfl, tupK X (by k_is), rfl⟩
  | 14, _ => exact ⟨153, _, _, _, _, _, _, rfl, tupK X (by k_is), rfl⟩
theorem tbl_mid {w : World} {A : Around} {E : Value → Shared → Prop} {s : Shared} {h₀ : Heap} {L : Addr} {m : Str → Option Value} {value slice : Expr} {k : Int} {u : Tok} {Q : Value → Shared → Prop} (F : Fr h₀ L s.heap m) (X₀ : (hd.heap_39 w.params).In h₀)
    (h0 : 0 ≤ k) (h1 : k < 15) (h : ∀ T a b c ta tb' tc, IsTup s.heap T [.int a ta, .int b tb', .int c tc].toArray → tb[k.toNat]? = some (a, b, c) → Q (.ref T) s)
    (hs : subscripted slice false (.ref 154) (.int k u) = operate [.ref 154, .int k u] (getItem (.ref 154) (.int k u)) := by with_unfolding_all rfl) :
    wpAny (model PR w) A (subscriptTail value slice (.ref 154) (.int k u)) Q E s := by
  walk_at "my_fill"
  obtain ⟨T, a, b, c, ta, tb', tc, e1, e2, e3⟩ := tbl_tup (X₀.keeps F.keep) k.toNat (by omega)
  refine topTup_K (prog := PR) (l := tbV) (dd := none) (sl := #[]) (n := 0) (j := k.toNat) (v := .ref T) F X₀ ?_ (by omega) (by omega) ?_ e1 (h T a b c ta tb' tc e2 e3) hs
  · k_is
  · have hl : tbV.length = 15 := rfl
    unfold seqIndex?
    rw [hl]
    simp only [Int.not_lt.mpr h0, if_false]
    rw [if_pos (by simp only [Bool.and_eq_true, decide_eq_true_eq]; omega)]
def cellSize (n : Nat) : Int := match tb.find? (fun p => decide (p.1 ≤ (n : Int)) && decide ((n : Int) ≤ p.2.1)) with
  | some p => p.2.2
  | none => 1
theorem tb_apart : ∀ p ∈ tb, ∀ q ∈ tb, p = q ∨ p.2.1 < q.1 ∨ q.2.1 < p.1 := by decide
theorem cellSize_hit {n k : Nat} {a b c : Int} (h : tb[k]? = some (a, b, c)) (h1 : a ≤ (n : Int)) (h2 : (n : Int) ≤ b) : cellSize n = c := by
  have hm : (a, b, c) ∈ tb := List.mem_of_getElem? h
  unfold cellSize
  cases q : tb.find? (fun p => decide (p.1 ≤ (n : Int)) && decide ((n : Int) ≤ p.2.1)) with
  | none =>
    have := List.find?_eq_none.mp q _ hm
    simp only [Bool.and_eq_true, decide_eq_true_eq] at this
    exact absurd ⟨h1, h2⟩ this
  | some p =>
    have hp := List.mem_of_find?_eq_some q
    have hq := List.find?_some q
    simp only [Bool.and_eq_true, decide_eq_true_eq] at hq
    rcases tb_apart _ hm _ hp with e | e | e
    · rw [← e]
    · dsimp only at e; omega
    · dsimp only at e; omega
theorem cellSize_miss {n : Nat} (h : ∀ (k : Nat) (a b c : Int), tb[k]? = some (a, b, c) → b < (n : Int) ∨ (n : Int) < a) : cellSize n = 1 := by
  unfold cellSize
  rw [List.find?_eq_none.mpr ?_]
  intro p hp
  obtain ⟨k, hk⟩ := List.getElem?_of_mem hp
  have := h k p.1 p.2.1 p.2.2 hk
  simp only [Bool.and_eq_true, decide_eq_true_eq]
  omega
theorem tb_mono {i j : Nat} {a b c a' b' c' : Int} (hij : i < j) (h : tb[i]? = some (a, b, c)) (h' : tb[j]? = some (a', b', c')) : b < a' ∧ a ≤ b ∧ a' ≤ b' := by
  have key : ∀ j : Fin 15, ∀ i : Fin 15, i.1 < j.1 → (tb[i.1]?.getD (0,0,0)).2.1 < (tb[j.1]?.getD (0,0,0)).1 ∧ (tb[i.1]?.getD (0,0,0)).1 ≤ (tb[i.1]?.getD (0,0,0)).2.1 ∧ (tb[j.1]?.getD (0,0,0)).1 ≤ (tb[j.1]?.getD (0,0,0)).2.1 := by decide
  have hj : j < 15 := (List.getElem?_eq_some_iff.mp h').1
  have := key ⟨j, hj⟩ ⟨i, by omega⟩ hij
  rw [h, h'] at this
  exact this
section
local macro_rules | `(tactic| walk_at "call ref") => `(tactic| (k_here; (with_reducible show wpAny _ _ (call (Value.ref 163) [Value.str _ _]) _ _ _); k_dflt (refine' tell_use (load_tell _ _ _ _ _ _) ?k2 ?k3 ?k4 ?k5 ?kd ?ku ?_; walk_at "tell_args"); intro r9 news9 h9 tk9 F9 N9 K9 P9; obtain ⟨T9, dx9, t9, e9, e8, l9, l8⟩ := P9; subst e9; subst e8; (try k_lt l9)))
local macro_rules | `(tactic| walk_at "getAttr ref") => `(tactic| (k_here; (with_reducible show wpAny _ _ (getAttr (Value.ref _) (PySem.Str.ofString "widths") _) _ _ _); k_dflt (refine' widths_tell ?m1 ?m2 ?k2 ?k3 ?k4 ?k5 ?kd ?_; (case k4 => k_asm); (case m1 => exact .head _); (case m2 => exact .tail _ (.head _)); (case k2 => k_asm); (case k3 => k_asm); (case k5 => k_asm); (case kd => ktr_room)); intro h9 tk9 F9 N9 K9))
local macro_rules | `(tactic| walk_at "subscriptTail Name Name ref int") => `(tactic| (k_here; (with_reducible show wpAny _ _ (subscriptTail _ _ (Value.ref 154) (Value.int _ _)) _ _ _); refine' tbl_mid ?k1 ?k2 ?k3 ?k4 ?_; (case k1 => k_asm); (case k2 => k_asm); (case k3 => (simp only [PySem.fdiv_two, decide_eq_true_eq] at *; omega)); (case k4 => (simp only [PySem.fdiv_two, decide_eq_true_eq] at *; omega)); intro T8 a8 b8 c8 ta8 tb8 tc8 hT8 hE8))
theorem gccs_tell (w : World) (mg mb) (n : Nat) (y : Str) (t u : Tok) (hn : 32 ≤ n ∧ ¬ (127 ≤ n ∧ n < 160) ∧ n ≤ 128591) (news): Tell w mg mb 185 8 news [.str ⟨#[n]⟩ t, .str y u] (fun news' r => news' = news ∧ ∃ t, r = .int (cellSize n) t) := by
  walk_at "my_fill"
  unfold Tell
  intro dp un gd fr h₀ L m s Q E F X N T hd hu hret
  dsimp only [PR, KK] at *
  walk_at "my_enter"
  walk_at "steps_while"
  all_goals try ((fail_if_success (with_reducible show wpAny _ _ _ _ _ _)); exfalso; omega)
  all_goals (
    rename News _ _ _ _ => N0
    refine' ksw_while (σ := (Int × Tok) × (Int × Tok)) (fun _ => news) (fun c => [(Str.ofString "lower_bound", .int c.1.1 c.1.2), (Str.ofString "upper_bound", .int c.2.1 c.2.2)]) (fun _ => True) [Str.ofString "index", Str.ofString "start", Str.ofString "end", Str.ofString "width"]
      (fun c => 0 ≤ c.1.1 ∧ c.1.1 ≤ 15 ∧ -1 ≤ c.2.1 ∧ c.2.1 ≤ 14 ∧ ∀ (k : Nat) (a b d : Int), tb[k]? = some (a, b, d) → ((k : Int) < c.1.1 → b < (n : Int)) ∧ (c.2.1 < (k : Int) → (n : Int) < a)) (fun c => (c.2.1 + 1 - c.1.1).toNat) ((0, _), (14, _)) ?kF (fun p hp => N0 p (by simp [hp])) trivial ?kk ?kp ?kt ?kE
    case kF => assumption
    case kk => (refine List.forall_mem_cons.mpr ⟨?_, List.forall_mem_cons.mpr ⟨?_, List.forall_mem_nil _⟩⟩ <;> with_unfolding_all exact rfl)
    case kE => passes_own
    case kp =>
      refine ⟨Int.le_refl 0, (by decide : (0 : Int) ≤ 15), (by decide : (-1 : Int) ≤ 14), Int.le_refl 14, fun k a b d hk => ⟨fun h => absurd h (by dsimp only; omega), fun h => ?_⟩⟩
      have : k < 15 := (List.getElem?_eq_some_iff.mp hk).1
      dsimp only at h; omega
    case kt =>
      rintro ⟨⟨lb, t1⟩, ⟨ub, t2⟩⟩ u h tk _ ⟨i1, i2, i3, i4, i5⟩ F₁ N₁
      dsimp only at i1 i2 i3 i4 i5 F₁
      k_steps
      · rename (tb[_]? = some _) => hE
        simp only [PySem.fdiv_two, decide_eq_true_eq] at *
        refine' ksw_end ((lb, t1), (_, _)) (by assumption) (by assumption) (fun p hp => hp) trivial ?kk ?kr ?kp ?km
        case kk => (refine List.forall_mem_cons.mpr ⟨?_, List.forall_mem_cons.mpr ⟨?_, List.forall_mem_nil _⟩⟩ <;> with_unfolding_all exact rfl)
        case kr => walk_at "km_same2"
        case kp =>
          refine ⟨i1, i2, ?_, ?_, fun k a b d hk => ⟨fun h => (i5 k a b d hk).1 h, fun h => ?_⟩⟩
          · dsimp only; omega
          · dsimp only; omega
          · dsimp only at h
            rcases Nat.lt_trichotomy k ((lb + ub) / 2).toNat with e | e | e
            · omega
            · rw [e, hE] at hk; cases hk; omega
            · have := tb_mono e hE hk; omega
        case km => dsimp only; omega
      · rename (tb[_]? = some _) => hE
        simp only [PySem.fdiv_two, decide_eq_true_eq, decide_eq_false_iff_not] at *
        refine' ksw_end ((_, _), (ub, t2)) (by assumption) (by assumption) (fun p hp => hp) trivial ?kk ?kr ?kp ?km
        case kk => (refine List.forall_mem_cons.mpr ⟨?_, List.forall_mem_cons.mpr ⟨?_, List.forall_mem_nil _⟩⟩ <;> with_unfolding_all exact rfl)
        case kr => walk_at "km_same2"
        case kp =>
          refine ⟨?_, ?_, i3, i4, fun k a b d hk => ⟨fun h => ?_, fun h => (i5 k a b d hk).2 h⟩⟩
          · dsimp only; omega
          · dsimp only; omega
          · dsimp only at h
            rcases Nat.lt_trichotomy k ((lb + ub) / 2).toNat with e | e | e
            · have := tb_mono e hk hE; omega
            · rw [e, hE] at hk; cases hk; omega
            · omega
        case km => dsimp only; omega
      · rename (tb[_]? = some _) => hE
        simp only [decide_eq_true_eq, decide_eq_false_iff_not] at *
        exact hret _ _ _ _ (by assumption) (by assumption) (by walk_at "keep_end") ⟨rfl, _, by rw [cellSize_hit hE (by omega) (by omega)]⟩
      · simp only [decide_eq_false_iff_not] at *
        refine hret _ _ _ _ (by assumption) (by assumption) (by walk_at "keep_end") ⟨rfl, _, by rw [cellSize_miss fun k a b c hk => by have := i5 k a b c hk; omega]⟩)
end
end Mine
end
namespace Mine
section
local macro_rules | `(tactic| walk_at "mine_nothing") => `(tactic| skip)
theorem fresh_GE : True ∧ True := by
  w_top off
  first | (walk1; fail "on") | exact ⟨trivial, trivial⟩
end
end Mine
section
open PySem PySem.W PyProof.Rows PySem.Calls PySem.Spec PyProof.V
set_option Elab.async false
set_option maxRecDepth 100000
set_option maxHeartbeats 0
namespace Mine
local macro_rules | `(tactic| walk_at "my_enter") => `(tactic| (refine wpAny_call ?_; walk_at "my_code"))
local macro_rules | `(tactic| walk_at "my_code") => `(tactic| (k_dflt (refine' code_q ?k1 ?k2 ?k3 ?k4 ?k6 ?k7 ?k8 ?k9 ?kB ?_ ?c2 ?c3 ?c4 ?c5; (case k1 => k_asm); (case k2 => k_asm); (case k3 => k_asm); (case k4 => k_asm); (case k6 => k_is); (case k7 => k_is); (case k8 => ktr_room); (case k9 => first | exact BindsTo.of_eq rfl | exact binds_K (by k_in) rfl (by k_is) rfl rfl rfl); (case c5 => decide); (case kB => exact locs rfl); (case c2 => exact rfl); (case c3 => exact rfl); (case c4 => exact rfl); k_whole; intro g' L' h' FG' F' N' kp' X' T' lt'; (try dsimp only); (try k_fold))))
local macro_rules | `(tactic| ktr_room) => `(tactic| ((try simp only [depth_under_make, depth_under_kw, depth_in1, depth_deeper, depth_caller]); (try dsimp only [qTop]); omega))
local macro_rules | `(tactic| ktr_units) => `(tactic| ((try simp only [units_in1, units_deeper, Around.mark_units, units_caller]); (try dsimp only [qTop]); omega))
local macro_rules | `(tactic| walk_at "my_fill") => `(tactic| ((have hkk : PySem.Challenge.rw_ey0020_01 = PySem.Challenge.rw_ey0020_01 ∧ hd.heap_39 = hd.heap_39 := by (k_fill; exact ⟨rfl, rfl⟩)); clear hkk))
local macro_rules | `(tactic| walk_at "km_same") => `(tactic| (intro z; intros; rename_i hs; simp only [List.contains_cons, List.contains_nil, Bool.or_false, Bool.or_eq_false_iff, beq_eq_false_iff_ne, ne_eq] at hs; simp [kstB, *]))
local macro_rules | `(tactic| walk_at "km_same2") => `(tactic| (intro z hz hs; simp only [List.contains_cons, List.contains_nil, Bool.or_false, Bool.or_eq_false_iff, beq_eq_false_iff_ne, ne_eq] at hs; simp only [List.forall_mem_cons, List.not_mem_nil, false_imp_iff, implies_true, and_true, ne_eq] at hz; simp [kstB, hz, hs]))
local macro_rules | `(tactic| walk_at "km_same3") => `(tactic| (intro z hx hz hs; simp only [List.contains_cons, List.contains_nil, Bool.or_false, Bool.or_eq_false_iff, beq_eq_false_iff_ne, ne_eq] at hs; simp only [List.forall_mem_cons, List.not_mem_nil, false_imp_iff, implies_true, and_true, ne_eq] at hz; simp [kstB, hx, hz, hs]))
local macro_rules | `(tactic| walk_at "tell_args") => `(tactic| ((case k2 => k_asm); (case k3 => k_asm); (case k4 => k_asm); (case k5 => k_asm); (case kd => ktr_room); (case ku => ktr_units)))
local macro_rules | `(tactic| walk_at "keep_end") => `(tactic| exact KeepsBut.then (by assumption) (by assumption))
local macro_rules | `(tactic| walk_at "steps_while") => `(tactic| repeat' ((fail_if_success (with_reducible show wpAny _ _ (exec (Stmt.While _ _ _ _) _) _ _ _)); (first | (k_unfold; (try dsimp only)) | (k_end; wrow_close) | walk1 | (dsimp only; walk1) | (leave1; walk_say "STEP leave1"; try dsimp only) | fail "no step")))
def signsL : List Nat := [97, 98, 32, 20013, 54620, 769, 233, 99, 65313, 8203]
structure OkT (x : Str) : Prop where
  mem : ∀ c ∈ x.cps.toList, c ∈ signsL
  len : x.length ≤ 200
theorem signsL_ok : ∀ n ∈ signsL, 32 ≤ n ∧ ¬ (127 ≤ n ∧ n < 160) ∧ n ≤ 128591 := by decide
theorem OkT.at {x : Str} (h : OkT x) {i n : Nat} (e : x.cps[i]? = some n) : n ∈ signsL := h.mem n (Array.mem_toList_iff.mpr (Array.mem_of_getElem? e))
theorem OkT.free {x : Str} (h : OkT x) {c : Nat} (hc : c ∉ signsL) : (Builtin.Str.occurrences x ⟨#[c]⟩ 0 x.length 1).isEmpty = true := by
  have := StrLaws.found_one x c
  rw [decide_eq_false (fun q => hc (h.mem c q))] at this
  simpa using this
def cellLen (x : Str) : Int := ((List.range x.cps.size).map fun i => cellSize (x.cps.getD i 0)).sum
section
variable {M : Model} {A : Around} {E : Value → Shared → Prop} {s : Shared} {scope : Scope} {cl : List (Str × Addr)} {C : Addr} {code : Value} {bi : Addr} {env : Env} {x : Str} {v : Value} {m mg mb : Str → Option Value} {Q : Value → Shared → Prop} {pos : Pos} {K : Frag} {h₀ : Heap} {p : Program} {loose : List Str} {news : List (Addr × Obj)} {c : Addr} {o : Obj}
theorem nameG_L (F : Fr h₀ C s.heap m) (hv : m x = some v) (h : Q v s) (hk : scope.kind = .function := by rfl) (hx : (genEnv scope cl C code bi env).kindOf x = some .local := by rfl) (hd : (x == ("__debug__" : Str)) = false := by decide) :
    wpAny M A (eval (.Name x pos) (genEnv scope cl C code bi env)) Q E s := wpAny_Name (wpAny_loadName_local hk hx F.ns hv h) hd
theorem nameG_F (N : News h₀ C s.heap news) (hc : cl.lookup x = some c) (hm : (c, o) ∈ news) (hd : o.data = .cell (some v)) (h : Q v s)
    (hk : scope.kind = .function := by rfl) (hx : (genEnv scope cl C code bi env).kindOf x = some .free := by rfl) (hb : (x == ("__debug__" : Str)) = false := by decide) (hn : (x == ("__classdict__" : Str)) = false := by decide) :
    wpAny M A (eval (.Name x pos) (genEnv scope cl C code bi env)) Q E s := wpAny_Name (wpAny_loadName_free hk hx hc ⟨o, N.get hm, hd⟩ h hn) hb
theorem nameG_K (F : Fr h₀ C s.heap m) (X : K.In h₀) (T : TopRead p loose mg mb h₀) (e : nsIn K mainGlobals x = some (some v)) (hg : env.globals = mainGlobals) (h : Q v s)
    (hk : scope.kind = .function := by rfl) (hx : (genEnv scope cl C code bi env).kindOf x = some .globalImplicit := by rfl) (hd : (x == ("__debug__" : Str)) = false := by decide) :
    wpAny M A (eval (.Name x pos) (genEnv scope cl C code bi env)) Q E s := Name_function_global hk hx (loadGlobal_global (env := genEnv scope cl C code bi env) (by show s.heap.Ns env.globals mg; rw [hg]; exact T.g.keeps F.keep) (mg_of X T.g e) h) hd
end
section
local macro_rules | `(tactic| walk_at "eval Name") => `(tactic| (k_here; k_dflt (first
  | (refine' nameG_L ?F ?v ?_ ?a ?b; (case F => k_asm); (case a => rfl); (case b => rfl); (case v => first | assumption | rfl); k_whole)
  | (refine' nameG_F ?N ?c ?m ?d ?_ ?a ?b; (case a => rfl); (case b => rfl); (case N => k_asm); (case c => rfl); (case m => first | assumption | k_mem); (case d => k_asm); k_whole)
  | (refine' nameG_K ?F ?X ?T ?e ?g ?_ ?a ?b; (case F => k_asm); (case X => k_asm); (case T => k_asm); (case a => rfl); (case b => rfl); (case e => k_is); (case g => first | rfl | assumption); k_whole))))
local macro_rules | `(tactic| walk_at "call ref") => `(tactic| (k_here; (with_reducible show wpAny _ _ (call (Value.ref 185) [Value.str _ _, Value.str _ _]) _ _ _); k_dflt (refine' tell_use (gccs_tell _ _ _ _ _ _ _ ?hn []) ?k2 ?k3 ?k4 ?k5 ?kd ?ku ?_; (case hn => assumption); (case k2 => k_asm); (case k3 => k_asm); (case k4 => exact News.nil); (case k5 => k_asm); (case kd => ktr_room); (case ku => ktr_units)); intro r9 news9 h9 tk9 F9 N9 K9 P9; obtain ⟨e9, t9, e8⟩ := P9; subst e8))
theorem clen_elt {w : World} {mg mb : Str → Option Value} {env : Env} {cA C : Addr} {code : Value} {o : Obj} {y : Str} {u tt : Tok} {n : Nat} {A' : Around} {E' : Value → Shared → Prop} {t : Shared} {m₂ : Str → Option Value} {h₀ : Heap} {news : List (Addr × Obj)} {D U : Nat}
    (hA : A'.handled = none) (hD : A'.depth ≤ D) (hU : A'.units ≤ U) (hD' : D + 8 < recursionLimit) (hU' : U + 64 < cLine) (hg : env.globals = mainGlobals) (X : (hd.heap_39 w.params).In h₀) (T : TopRead hd.view_39 LO mg mb h₀)
    (hn : 32 ≤ n ∧ ¬ (127 ≤ n ∧ n < 160) ∧ n ≤ 128591) (F : Fr h₀ C t.heap m₂) (hm : m₂ (Str.ofString "character") = some (.str ⟨#[n]⟩ tt)) (N : News h₀ C t.heap news) (hc : (cA, o) ∈ news) (hd : o.data = .cell (some (.str y u))) {p1 p2 p3 p4 : Pos} :
    wpAny (model PR w) A' (eval (.Call (.Name (Str.ofString "get_character_cell_size") p1) [.Name (Str.ofString "character") p2, .Name (Str.ofString "unicode_version") p3] [] p4)
      (genEnv { kind := ScopeKind.function, names := [(Str.ofString ".0", NameKind.local), (Str.ofString "character", NameKind.local), (Str.ofString "unicode_version", NameKind.free), (Str.ofString "get_character_cell_size", NameKind.globalImplicit)], isGenerator := true, isCoroutine := false, more := [] } [(Str.ofString "unicode_version", cA)] C code builtinsNs env))
      (fun y s₃ => (∃ u, y = .int (cellSize n) u) ∧ Keeps t s₃) E' t := by
  walk_at "my_fill"
  obtain ⟨hd1, dp, fr, gd, un⟩ := A'
  dsimp only at hA hD hU
  subst hA
  dsimp only [PR]
  k_steps
  rename KeepsBut [] _ _ => K9
  exact ⟨_, _, rfl, fun b o e => K9 b o (by simp) e⟩
end
end Mine
end
namespace Mine
section
local macro_rules | `(tactic| walk_at "mine_nothing") => `(tactic| skip)
theorem fresh_CL : True ∧ True := by
  w_top off
  first | (walk1; fail "on") | exact ⟨trivial, trivial⟩
end
end Mine
section
open PySem PySem.W PyProof.Rows PySem.Calls PySem.Spec PyProof.V
set_option Elab.async false
set_option maxRecDepth 100000
set_option maxHeartbeats 0
namespace Mine
local macro_rules | `(tactic| walk_at "my_enter") => `(tactic| (refine wpAny_call ?_; walk_at "my_code"))
local macro_rules | `(tactic| walk_at "my_code") => `(tactic| (k_dflt (refine' code_q ?k1 ?k2 ?k3 ?k4 ?k6 ?k7 ?k8 ?k9 ?kB ?_ ?c2 ?c3 ?c4 ?c5; (case k1 => k_asm); (case k2 => k_asm); (case k3 => k_asm); (case k4 => k_asm); (case k6 => k_is); (case k7 => k_is); (case k8 => ktr_room); (case k9 => first | exact BindsTo.of_eq rfl | exact binds_K (by k_in) rfl (by k_is) rfl rfl rfl); (case c5 => decide); (case kB => exact locs rfl); (case c2 => exact rfl); (case c3 => exact rfl); (case c4 => exact rfl); k_whole; intro g' L' h' FG' F' N' kp' X' T' lt'; (try dsimp only); (try k_fold))))
local macro_rules | `(tactic| ktr_room) => `(tactic| ((try simp only [depth_under_make, depth_under_kw, depth_in1, depth_deeper, depth_caller]); (try dsimp only [qTop]); omega))
local macro_rules | `(tactic| ktr_units) => `(tactic| ((try simp only [units_in1, units_deeper, Around.mark_units, units_caller]); (try dsimp only [qTop]); omega))
local macro_rules | `(tactic| walk_at "my_fill") => `(tactic| ((have hkk : PySem.Challenge.rw_ey0020_01 = PySem.Challenge.rw_ey0020_01 ∧ hd.heap_39 = hd.heap_39 := by (k_fill; exact ⟨rfl, rfl⟩)); clear hkk))
local macro_rules | `(tactic| walk_at "km_same") => `(tactic| (intro z; intros; rename_i hs; simp only [List.contains_cons, List.contains_nil, Bool.or_false, Bool.or_eq_false_iff, beq_eq_false_iff_ne, ne_eq] at hs; simp [kstB, *]))
local macro_rules | `(tactic| walk_at "km_same2") => `(tactic| (intro z hz hs; simp only [List.contains_cons, List.contains_nil, Bool.or_false, Bool.or_eq_false_iff, beq_eq_false_iff_ne, ne_eq] at hs; simp only [List.forall_mem_cons, List.not_mem_nil, false_imp_iff, implies_true, and_true, ne_eq] at hz; simp [kstB, hz, hs]))
local macro_rules | `(tactic| walk_at "km_same3") => `(tactic| (intro z hx hz hs; simp only [List.contains_cons, List.contains_nil, Bool.or_false, Bool.or_eq_false_iff, beq_eq_false_iff_ne, ne_eq] at hs; simp only [List.forall_mem_cons, List.not_mem_nil, false_imp_iff, implies_true, and_true, ne_eq] at hz; simp [kstB, hx, hz, hs]))
local macro_rules | `(tactic| walk_at "tell_args") => `(tactic| ((case k2 => k_asm); (case k3 => k_asm); (case k4 => k_asm); (case k5 => k_asm); (case kd => ktr_room); (case ku => ktr_units)))
local macro_rules | `(tactic| walk_at "keep_end") => `(tactic| exact KeepsBut.then (by assumption) (by assumption))
local macro_rules | `(tactic| walk_at "steps_while") => `(tactic| repeat' ((fail_if_success (with_reducible show wpAny _ _ (exec (Stmt.While _ _ _ _) _) _ _ _)); (first | (k_unfold; (try dsimp only)) | (k_end; wrow_close) | walk1 | (dsimp only; walk1) | (leave1; walk_say "STEP leave1"; try dsimp only) | fail "no step")))
local macro_rules | `(tactic| walk_at "my_enterC") => `(tactic| (refine wpAny_call ?_; walk_at "my_codeC"))
local macro_rules | `(tactic| walk_at "my_codeC") => `(tactic| (k_dflt (refine' code_qC ?k1 ?k2 ?k3 ?k4 ?k6 ?k7 ?k8 ?k9 ?kB ?kD ?_ ?c2 ?c3 ?c4; (case k1 => k_asm); (case k2 => k_asm); (case k3 => k_asm); (case k4 => k_asm); (case k6 => k_is); (case k7 => k_is); (case k8 => ktr_room); (case k9 => first | exact BindsTo.of_eq rfl | exact binds_K (by k_in) rfl (by k_is) rfl rfl rfl); (case kB => exact rfl); (case kD => decide +kernel); (case c2 => exact rfl); (case c3 => exact rfl); (case c4 => exact rfl); k_whole; intro g' L' h' tk' cells' FG' F' N' Y' kp' X' T' lt'; k_cells Y'; (try simp only [List.cons_append, List.nil_append] at N'); (try dsimp only); (try k_fold))))
theorem codeAt_of {K : Frag} {h : Heap} {c P : Addr} {n : Option Addr} {vs ps : Array Value} {t1 t2 t3 : Tok} {file : Str} {fl tx : Int} {b : Bool} (X : K.In h) (ho : ∃ sl, K.lookup c = some ⟨.type "code", n, .fields vs, sl⟩) (h11 : vs[11]? = some (.ref P)) (h18 : vs[18]? = some (.str file t1)) (h7 : vs[7]? = some (.int fl t2))
    (h9 : vs[9]? = some (.bool b)) (h10 : vs[10]? = some (.int tx t3)) (hP : h.get? P = some (tabOf ps)) (hne : c ≠ P) (ht : TriplesOk ps.toList) : h.IsCode c P ps ∧ h.TableAt c P ps := by
  obtain ⟨sl, ho⟩ := ho
  refine ⟨⟨_, vs, file, t1, fl, t2, b, tx, t3, _, X _ _ ho, rfl, ?_, ?_, ?_, ?_, ?_, hP, rfl, ht, hne⟩, ⟨_, vs, X _ _ ho, rfl, rfl, h11⟩, hP⟩
  · simp [Array.getD_eq_getD_getElem?, h11]
  · simp [Array.getD_eq_getD_getElem?, h18]
  · simp [Array.getD_eq_getD_getElem?, h7]
  · simp [Array.getD_eq_getD_getElem?, h9]
  · simp [Array.getD_eq_getD_getElem?, h10]
theorem code207 {w : World} {h : Heap} {ps : Array Value} (X : (hd.heap_39 w.params).In h) (hP : h.get? 203 = some (tabOf ps)) (ht : TriplesOk ps.toList) : h.IsCode 207 203 ps ∧ h.TableAt 207 203 ps := by
  walk_at "my_fill"
  exact codeAt_of X ⟨_, by k_is⟩ rfl rfl rfl rfl rfl hP (by decide) ht
theorem code223 {w : World} {h : Heap} {ps : Array Value} (X : (hd.heap_39 w.params).In h) (hP : h.get? 219 = some (tabOf ps)) (ht : TriplesOk ps.toList) : h.IsCode 223 219 ps ∧ h.TableAt 223 219 ps := by
  walk_at "my_fill"
  exact codeAt_of X ⟨_, by k_is⟩ rfl rfl rfl rfl rfl hP (by decide) ht
section
variable {w : World} {A : Around} {E : Value → Shared → Prop} {s : Shared} {h₀ : Heap} {L : Addr} {m : Str → Option Value} {news : List (Addr × Obj)}
theorem iter_text {xt : Str} {tx : Tok} {P : Addr} {ps : Array Value} (hh : A.handled = none) (F : Fr h₀ L s.heap m) (N : News h₀ L s.heap ((P, tabOf ps) :: news)) :
    wpAny (model PR w) A (pyIter (.str xt tx)) (fun it s₂ => ∃ h₂ tk₂ I fp St₀, s₂ = { s with heap := h₂, toks := tk₂ } ∧ Fr h₀ L h₂ m ∧ News h₀ L h₂ ((P, tabOf ps) :: news) ∧ it = .ref I ∧
      (∀ A' : Around, A'.handled = none → Walks PR w A' I fp [I] xt.cps.size (SignAt xt) St₀) ∧ St₀ 0 h₂ ∧ (∀ b ∈ fp, b < h₂.objs.size) ∧ (∀ p ∈ (P, tabOf ps) :: news, p.1 ≠ I) ∧ L < I ∧ P ∉ fp) E s := by
  have hl : ∀ p ∈ (P, tabOf ps) :: news, p.1 ≠ s.heap.objs.size := fun p hp => Nat.ne_of_lt (Heap.lt_size (N p hp).1)
  have hL : L < s.heap.objs.size := F.ns.lt
  have hP : P ∉ [s.heap.objs.size] := fun hm => hl _ (.head _) (List.mem_singleton.mp hm)
  have hfp : ∀ (o : Obj), ∀ b ∈ [s.heap.objs.size], b < (s.heap.push o).objs.size := fun o b hb => by
    rw [List.mem_singleton.mp hb]
    simp [Heap.push]
  cases ha : xt.cps.all (· < 128)
  · exact wpAny_pyIter_wide ha ⟨_, _, _, [s.heap.objs.size], _, rfl, F.push _, fun p hp => ⟨Heap.get?_push_of_some _ (N p hp).1, (N p hp).2⟩, rfl, fun A' hA => Walks.strWide hA _ xt tx, ⟨_, Heap.get?_push_size _ rfl, rfl, rfl⟩, hfp _, hl, hL, hP⟩
  · exact wpAny_pyIter_ascii ha ⟨_, _, _, [s.heap.objs.size], _, rfl, F.push _, fun p hp => ⟨Heap.get?_push_of_some _ (N p hp).1, (N p hp).2⟩, rfl, fun A' hA => Walks.strAscii hA _ xt tx, ⟨_, Heap.get?_push_size _ rfl, rfl, rfl⟩, hfp _, hl, hL, hP⟩
theorem swapN {h : Heap} {a b : Addr × Obj} {l : List (Addr × Obj)} (N : News h₀ L h (a :: b :: l)) : News h₀ L h (b :: a :: l) := fun p hp => N p (by
  rcases List.mem_cons.mp hp with rfl | hp
  · exact .tail _ (.head _)
  · rcases List.mem_cons.mp hp with rfl | hp
    · exact .head _
    · exact .tail _ (.tail _ hp))
theorem off_cell {P : Addr} {o oc : Obj} {rest : List (Addr × Obj)} (lt : ∀ p ∈ (P, o) :: rest, p.1 < L) (hoff : ∀ p ∈ rest, p.1 ≠ P) : ∀ p ∈ (L + 1, oc) :: rest, p.1 ≠ P :=
  List.forall_mem_cons.mpr ⟨fun e => Nat.lt_irrefl P (Nat.lt_trans (lt (P, o) (.head _)) ((show L + 1 = P from e) ▸ Nat.lt_succ_self L)), hoff⟩
theorem notIn_free {x y : Str} {u t : Tok} {Q : Value → Shared → Prop} {c : Nat} (h : OkT x) (hy : y = ⟨#[c]⟩) (hc : c ∉ signsL) (q : Q (.bool true) s) : wpAny (model PR w) A (compareOp .NotIn (.str y u) (.str x t)) Q E s := by
  subst hy
  refine notIn_str ?_
  rw [h.free hc]
  exact q
end
theorem single_one : ∀ n ∈ signsL, single n = true → cellSize n = 1 := by decide +kernel
theorem cellLen_single {x : Str} (h : OkT x) (ha : allSingle x = true) : cellLen x = x.length := by
  unfold allSingle at ha
  rw [Array.all_eq_true] at ha
  have : ∀ i ∈ List.range x.cps.size, cellSize (x.cps.getD i 0) = 1 := fun i hi => by
    have hi' := List.mem_range.mp hi
    have e : x.cps[i]? = some x.cps[i] := Array.getElem?_eq_getElem hi'
    rw [Array.getD_eq_getD_getElem?, e]
    exact single_one _ (h.at e) (ha i hi')
  unfold cellLen
  rw [List.map_congr_left this]
  clear this ha
  simp only [Str.length]
  induction x.cps.size with
  | zero => rfl
  | succ n ih => rw [List.range_succ, List.map_append, List.sum_append, ih]; simp
section
local macro_rules | `(tactic| walk_at "call ref") => `(tactic| (k_here; (with_reducible show wpAny _ _ (call (Value.ref 177) [Value.str _ _]) _ _ _); k_dflt (refine' tell_use (single_tell _ _ _ _ _ _) ?k2 ?k3 ?k4 ?k5 ?kd ?ku ?_; walk_at "tell_args"); intro r9 news9 h9 tk9 F9 N9 K9 P9; obtain ⟨e9, e8⟩ := P9; subst e9; subst e8))
local macro_rules | `(tactic| walk_at "compareOp NotIn str str") => `(tactic| (k_here; (rename OkT _ => hT); first | (refine notIn_free (c := 8205) hT ?ha (by decide) ?_; (case ha => decide)) | (refine notIn_free (c := 65039) hT ?ha (by decide) ?_; (case ha => decide))))
local macro_rules | `(tactic| walk_at "call builtin:sum") => `(tactic| (k_here; (rename SumGen _ _ _ _ _ _ _ _ _ => S9); refine S9 _ _ ?_; clear S9; intro t9 h9 tk9 gs9 G9 F9 N9))
theorem clen_tell (w : World) (mg mb) (x : Str) (t : Tok) (y : Str) (u : Tok) (hx : OkT x) (ps : Array Value) (htr : TriplesOk ps.toList) (rest : List (Addr × Obj)) (hoff : ∀ p ∈ rest, p.1 ≠ 203) :
    TellG w mg mb 208 12 ((203, tabOf ps) :: rest) [.str x t, .str y u] (fun news' r => ∃ ps' : Array Value, TriplesOk ps'.toList ∧ news' = (203, tabOf ps') :: rest ∧ ∃ t', r = .int (cellLen x) t') := by
  walk_at "my_fill"
  unfold TellG
  intro dp un gd fr h₀ L m s Q E G B F X N T hd hu hret
  dsimp only [PR, KK] at *
  walk_at "my_enterC"
  have hlen := hx.len
  have hx' : ∀ {i n : Nat}, x.cps[i]? = some n → _ := fun e => signsL_ok _ (hx.at e)
  k_steps
  · rename (allSingle x = true) => ha
    refine hret _ _ _ _ _ (by assumption) (by assumption) (kti_tail (by assumption)) (by walk_at "keep_end") ⟨_, htr, rfl, _, by rw [cellLen_single hx ha]⟩
  · rename Fr _ _ _ _ => F1
    rename News _ _ _ _ => N1
    rename TopRead _ _ _ _ _ => T1
    rename Frag.In _ _ => X1
    have B1 := bmodE B (Fr.keep (by assumption : Fr h₀ L _ m))
    obtain ⟨bm, ob, M1⟩ := B1
    rename (_ = Data.cell _) => d1
    refine' gexp_core (P := 203) (c := 207) (news := (_, _) :: rest) (mg := mg) x.cps.size (SignAt x) (fun i => cellSize (x.cps.getD i 0)) rfl rfl (by with_unfolding_all rfl) (by decide) rfl rfl rfl ?room rfl rfl M1 T1.nolimit (fun h hk ps' hP htr' => code207 (X1.keeps hk) hP htr') htr (off_cell (by assumption) hoff) ?gens ?iter ?elt ?pi ?q ?hs
    case room => ktr_room
    case gens => assumption
    case iter =>
      walk1
      rotate_left 3
      exact iter_text (by rfl) (by assumption) (swapN N1)
      all_goals first | exact x | exact (0 : Addr) | exact Value.none
    case pi => exact fun i v ⟨n, u, hn, _⟩ => (Array.getElem?_eq_some_iff.mp hn).1
    case hs => intro _; with_unfolding_all rfl
    case elt =>
      rintro C code A' E' i v t' m₂ hA hD hU ⟨n, u', hn, rfl⟩ _ F2 hm N2
      have : x.cps.getD i 0 = n := by rw [Array.getD_eq_getD_getElem?, hn]; rfl
      rw [this]
      refine clen_elt hA hD hU ?_ ?_ rfl X1 T1 (hx' hn) F2 hm N2 (.head _) d1
      · ktr_room
      · ktr_units
    case q =>
      intro a h' tk gs ps' htr' G' F' N' S'
      k_steps
      exact hret _ _ _ _ _ (by assumption) (by assumption) (by rename News _ _ _ _ => kn; exact kti_tail (swapN kn)) (by walk_at "keep_end") ⟨_, by assumption, rfl, _, rfl⟩
end
end Mine
end
namespace Mine
section
local macro_rules | `(tactic| walk_at "mine_nothing") => `(tactic| skip)
theorem fresh_CM : True ∧ True := by
  w_top off
  first | (walk1; fail "on") | exact ⟨trivial, trivial⟩
end
end Mine
section
open PySem PySem.W PyProof.Rows PySem.Calls PySem.Spec PyProof.V
set_option Elab.async false
set_option maxRecDepth 100000
set_option maxHeartbeats 0
namespace Mine
local macro_rules | `(tactic| walk_at "my_enter") => `(tactic| (refine wpAny_call ?_; walk_at "my_code"))
local macro_rules | `(tactic| walk_at "my_code") => `(tactic| (k_dflt (refine' code_q ?k1 ?k2 ?k3 ?k4 ?k6 ?k7 ?k8 ?k9 ?kB ?_ ?c2 ?c3 ?c4 ?c5; (case k1 => k_asm); (case k2 => k_asm); (case k3 => k_asm); (case k4 => k_asm); (case k6 => k_is); (case k7 => k_is); (case k8 => ktr_room); (case k9 => first | exact BindsTo.of_eq rfl | exact binds_K (by k_in) rfl (by k_is) rfl rfl rfl); (case c5 => decide); (case kB => exact locs rfl); (case c2 => exact rfl); (case c3 => exact rfl); (case c4 => exact rfl); k_whole; intro g' L' h' FG' F' N' kp' X' T' lt'; (try dsimp only); (try k_fold))))
local macro_rules | `(tactic| ktr_room) => `(tactic| ((try simp only [depth_under_make, depth_under_kw, depth_in1, depth_deeper, depth_caller]); (try dsimp only [qTop]); omega))
local macro_rules | `(tactic| ktr_units) => `(tactic| ((try simp only [units_in1, units_deeper, Around.mark_units, units_caller]); (try dsimp only [qTop]); omega))
local macro_rules | `(tactic| walk_at "my_fill") => `(tactic| ((have hkk : PySem.Challenge.rw_ey0020_01 = PySem.Challenge.rw_ey0020_01 ∧ hd.heap_39 = hd.heap_39 := by (k_fill; exact ⟨rfl, rfl⟩)); clear hkk))
local macro_rules | `(tactic| walk_at "km_same") => `(tactic| (intro z; intros; rename_i hs; simp only [List.contains_cons, List.contains_nil, Bool.or_false, Bool.or_eq_false_iff, beq_eq_false_iff_ne, ne_eq] at hs; simp [kstB, *]))
local macro_rules | `(tactic| walk_at "km_same2") => `(tactic| (intro z hz hs; simp only [List.contains_cons, List.contains_nil, Bool.or_false, Bool.or_eq_false_iff, beq_eq_false_iff_ne, ne_eq] at hs; simp only [List.forall_mem_cons, List.not_mem_nil, false_imp_iff, implies_true, and_true, ne_eq] at hz; simp [kstB, hz, hs]))
local macro_rules | `(tactic| walk_at "km_same3") => `(tactic| (intro z hx hz hs; simp only [List.contains_cons, List.contains_nil, Bool.or_false, Bool.or_eq_false_iff, beq_eq_false_iff_ne, ne_eq] at hs; simp only [List.forall_mem_cons, List.not_mem_nil, false_imp_iff, implies_true, and_true, ne_eq] at hz; simp [kstB, hx, hz, hs]))
local macro_rules | `(tactic| walk_at "tell_args") => `(tactic| ((case k2 => k_asm); (case k3 => k_asm); (case k4 => k_asm); (case k5 => k_asm); (case kd => ktr_room); (case ku => ktr_units)))
local macro_rules | `(tactic| walk_at "keep_end") => `(tactic| exact KeepsBut.then (by assumption) (by assumption))
local macro_rules | `(tactic| walk_at "steps_while") => `(tactic| repeat' ((fail_if_success (with_reducible show wpAny _ _ (exec (Stmt.While _ _ _ _) _) _ _ _)); (first | (k_unfold; (try dsimp only)) | (k_end; wrow_close) | walk1 | (dsimp only; walk1) | (leave1; walk_say "STEP leave1"; try dsimp only) | fail "no step")))
section
local macro_rules | `(tactic| walk_at "call ref") => `(tactic| (k_here; (with_reducible show wpAny _ _ (call (Value.ref 208) [Value.str _ _, Value.str _ _]) _ _ _); k_dflt (refine' tellG_use (clen_tell _ _ _ _ _ _ _ ?hx _ ?htr _ ?hoff) ?kG ?kB ?k2 ?k3 ?k4 ?k5 ?kd ?ku ?_; (case hx => k_asm); (case htr => k_asm); (case hoff => k_asm); (case kG => k_asm); (case kB => k_asm); walk_at "tell_args"); intro r9 news9 h9 tk9 gs9 G9 F9 N9 K9 P9; obtain ⟨ps9, htr9, e9, t9, e8⟩ := P9; subst e9; subst e8))
theorem cached_tell (w : World) (mg mb) (x : Str) (t : Tok) (y : Str) (u : Tok) (hx : OkT x) (ps : Array Value) (htr : TriplesOk ps.toList) (rest : List (Addr × Obj)) (hoff : ∀ p ∈ rest, p.1 ≠ 203) :
    TellG w mg mb 193 14 ((203, tabOf ps) :: rest) [.str x t, .str y u] (fun news' r => ∃ ps' : Array Value, TriplesOk ps'.toList ∧ news' = (203, tabOf ps') :: rest ∧ ∃ t', r = .int (cellLen x) t') := by
  walk_at "my_fill"
  unfold TellG
  intro dp un gd fr h₀ L m s Q E G B F X N T hd hu hret
  dsimp only [PR, KK] at *
  walk_at "my_enter"
  have B' := bmodE B (Fr.keep (by assumption : Fr h₀ L _ m))
  k_steps
  exact hret _ _ _ _ _ (by assumption) (by assumption) (by assumption) (by walk_at "keep_end") ⟨_, by assumption, rfl, _, rfl⟩
end
section
local macro_rules | `(tactic| walk_at "call ref") => `(tactic| (k_here; (with_reducible show wpAny _ _ (call (Value.ref 208) [Value.str _ _, Value.str _ _]) _ _ _); k_dflt (refine' tellG_use (clen_tell _ _ _ _ _ _ _ ?hx _ ?htr _ ?hoff) ?kG ?kB ?k2 ?k3 ?k4 ?k5 ?kd ?ku ?_; (case hx => k_asm); (case htr => k_asm); (case hoff => k_asm); (case kG => k_asm); (case kB => k_asm); walk_at "tell_args"); intro r9 news9 h9 tk9 gs9 G9 F9 N9 K9 P9; obtain ⟨ps9, htr9, e9, t9, e8⟩ := P9; subst e9; subst e8))
local macro_rules | `(tactic| walk_at "call ref") => `(tactic| (k_here; (with_reducible show wpAny _ _ (call (Value.ref 193) [Value.str _ _, Value.str _ _]) _ _ _); k_dflt (refine' tellG_use (cached_tell _ _ _ _ _ _ _ ?hx _ ?htr _ ?hoff) ?kG ?kB ?k2 ?k3 ?k4 ?k5 ?kd ?ku ?_; (case hx => k_asm); (case htr => k_asm); (case hoff => k_asm); (case kG => k_asm); (case kB => k_asm); walk_at "tell_args"); intro r9 news9 h9 tk9 gs9 G9 F9 N9 K9 P9; obtain ⟨ps9, htr9, e9, t9, e8⟩ := P9; subst e9; subst e8))
theorem celllen_tell (w : World) (mg mb) (x : Str) (t : Tok) (hx : OkT x) (ps : Array Value) (htr : TriplesOk ps.toList) (rest : List (Addr × Obj)) (hoff : ∀ p ∈ rest, p.1 ≠ 203) :
    TellG w mg mb 201 16 ((203, tabOf ps) :: rest) [.str x t] (fun news' r => ∃ ps' : Array Value, TriplesOk ps'.toList ∧ news' = (203, tabOf ps') :: rest ∧ ∃ t', r = .int (cellLen x) t') := by
  walk_at "my_fill"
  unfold TellG
  intro dp un gd fr h₀ L m s Q E G B F X N T hd hu hret
  dsimp only [PR, KK] at *
  walk_at "my_enter"
  have B' := bmodE B (Fr.keep (by assumption : Fr h₀ L _ m))
  have hlen := hx.len
  k_steps
  all_goals exact hret _ _ _ _ _ (by assumption) (by assumption) (by assumption) (by walk_at "keep_end") ⟨_, by assumption, rfl, _, rfl⟩
end
end Mine
end
namespace Mine
section
local macro_rules | `(tactic| walk_at "mine_nothing") => `(tactic| skip)
theorem fresh_SG : True ∧ True := by
  w_top off
  first | (walk1; fail "on") | exact ⟨trivial, trivial⟩
end
end Mine
section
open PySem PySem.W PyProof.Rows PySem.Calls PySem.Spec PyProof.V
set_option Elab.async false
set_option maxRecDepth 100000
set_option maxHeartbeats 0
namespace Mine
local macro_rules | `(tactic| walk_at "my_enter") => `(tactic| (refine wpAny_call ?_; walk_at "my_code"))
local macro_rules | `(tactic| walk_at "my_code") => `(tactic| (k_dflt (refine' code_q ?k1 ?k2 ?k3 ?k4 ?k6 ?k7 ?k8 ?k9 ?kB ?_ ?c2 ?c3 ?c4 ?c5; (case k1 => k_asm); (case k2 => k_asm); (case k3 => k_asm); (case k4 => k_asm); (case k6 => k_is); (case k7 => k_is); (case k8 => ktr_room); (case k9 => first | exact BindsTo.of_eq rfl | exact binds_K (by k_in) rfl (by k_is) rfl rfl rfl); (case c5 => decide); (case kB => exact locs rfl); (case c2 => exact rfl); (case c3 => exact rfl); (case c4 => exact rfl); k_whole; intro g' L' h' FG' F' N' kp' X' T' lt'; (try dsimp only); (try k_fold))))
local macro_rules | `(tactic| ktr_room) => `(tactic| ((try simp only [depth_under_make, depth_under_kw, depth_in1, depth_deeper, depth_caller]); (try dsimp only [qTop]); omega))
local macro_rules | `(tactic| ktr_units) => `(tactic| ((try simp only [units_in1, units_deeper, Around.mark_units, units_caller]); (try dsimp only [qTop]); omega))
local macro_rules | `(tactic| walk_at "my_fill") => `(tactic| ((have hkk : PySem.Challenge.rw_ey0020_01 = PySem.Challenge.rw_ey0020_01 ∧ hd.heap_39 = hd.heap_39 := by (k_fill; exact ⟨rfl, rfl⟩)); clear hkk))
local macro_rules | `(tactic| walk_at "km_same") => `(tactic| (intro z; intros; rename_i hs; simp only [List.contains_cons, List.contains_nil, Bool.or_false, Bool.or_eq_false_iff, beq_eq_false_iff_ne, ne_eq] at hs; simp [kstB, *]))
local macro_rules | `(tactic| walk_at "km_same2") => `(tactic| (intro z hz hs; simp only [List.contains_cons, List.contains_nil, Bool.or_false, Bool.or_eq_false_iff, beq_eq_false_iff_ne, ne_eq] at hs; simp only [List.forall_mem_cons, List.not_mem_nil, false_imp_iff, implies_true, and_true, ne_eq] at hz; simp [kstB, hz, hs]))
local macro_rules | `(tactic| walk_at "km_same3") => `(tactic| (intro z hx hz hs; simp only [List.contains_cons, List.contains_nil, Bool.or_false, Bool.or_eq_false_iff, beq_eq_false_iff_ne, ne_eq] at hs; simp only [List.forall_mem_cons, List.not_mem_nil, false_imp_iff, implies_true, and_true, ne_eq] at hz; simp [kstB, hx, hz, hs]))
local macro_rules | `(tactic| walk_at "tell_args") => `(tactic| ((case k2 => k_asm); (case k3 => k_asm); (case k4 => k_asm); (case k5 => k_asm); (case kd => ktr_room); (case ku => ktr_units)))
local macro_rules | `(tactic| walk_at "keep_end") => `(tactic| exact KeepsBut.then (by assumption) (by assumption))
local macro_rules | `(tactic| walk_at "steps_while") => `(tactic| repeat' ((fail_if_success (with_reducible show wpAny _ _ (exec (Stmt.While _ _ _ _) _) _ _ _)); (first | (k_unfold; (try dsimp only)) | (k_end; wrow_close) | walk1 | (dsimp only; walk1) | (leave1; walk_say "STEP leave1"; try dsimp only) | fail "no step")))
abbrev tupO (vs : List Value) : Obj := { cls := .type "tuple", data := .seq vs.toArray }
abbrev Span := Int × Int × Int
/-- a list's tuples lie in the ledger -/
def SpansIn (led : List (Addr × Obj)) : List Value → List Span → Prop
  | [], [] => True
  | v :: its, p :: sp => (∃ T a b c, v = .ref T ∧ (T, tupO [.int p.1 a, .int p.2.1 b, .int p.2.2 c]) ∈ led) ∧ SpansIn led its sp
  | _, _ => False
theorem SpansIn.mono {led led' : List (Addr × Obj)} (h : ∀ p ∈ led, p ∈ led') : ∀ {its : List Value} {sp : List Span}, SpansIn led its sp → SpansIn led' its sp
  | [], [], _ => trivial
  | _ :: _, _ :: _, ⟨⟨T, a, b, c, e, hm⟩, r⟩ => ⟨⟨T, a, b, c, e, h _ hm⟩, SpansIn.mono h r⟩
theorem SpansIn.nil {led : List (Addr × Obj)} : ∀ {sp : List Span}, SpansIn led [] sp → sp = []
  | [], _ => rfl
theorem SpansIn.len {led : List (Addr × Obj)} : ∀ {its : List Value} {sp : List Span}, SpansIn led its sp → its.length = sp.length
  | [], [], _ => rfl
  | _ :: _, _ :: _, ⟨_, r⟩ => by simp [SpansIn.len r]
theorem SpansIn.snoc {led : List (Addr × Obj)} {T : Addr} {a b c : Tok} {p : Span} (hm : (T, tupO [.int p.1 a, .int p.2.1 b, .int p.2.2 c]) ∈ led) : ∀ {its : List Value} {sp : List Span}, SpansIn led its sp → SpansIn led (its ++ [.ref T]) (sp ++ [p])
  | [], [], _ => ⟨⟨T, a, b, c, rfl, hm⟩, trivial⟩
  | _ :: _, _ :: _, ⟨e, r⟩ => ⟨e, SpansIn.snoc hm r⟩
theorem SpansIn.last {led : List (Addr × Obj)} {v : Value} : ∀ {its : List Value} {sp : List Span}, SpansIn led (its ++ [v]) sp → ∃ sp' p T a b c, sp = sp' ++ [p] ∧ v = .ref T ∧ (T, tupO [.int p.1 a, .int p.2.1 b, .int p.2.2 c]) ∈ led ∧ SpansIn led its sp'
  | [], [p], ⟨⟨T, a, b, c, e, hm⟩, _⟩ => ⟨[], p, T, a, b, c, rfl, e, hm, trivial⟩
  | [], _ :: _ :: _, ⟨_, h⟩ => by simp [SpansIn] at h
  | x :: its, q :: sp, ⟨e, r⟩ =>
    let ⟨sp', p, T, a, b, c, e1, e2, hm, r'⟩ := SpansIn.last (its := its) (sp := sp) r
    ⟨q :: sp', p, T, a, b, c, by rw [e1]; rfl, e2, hm, ⟨e, r'⟩⟩
theorem SpansIn.at {led : List (Addr × Obj)} : ∀ {its : List Value} {sp : List Span} {k : Nat} {p : Span}, SpansIn led its sp → sp[k]? = some p → ∃ T a b c, its[k]? = some (.ref T) ∧ (T, tupO [.int p.1 a, .int p.2.1 b, .int p.2.2 c]) ∈ led
  | _ :: _, _ :: _, 0, p, ⟨⟨T, a, b, c, e, hm⟩, _⟩, h => by cases h; exact ⟨T, a, b, c, by rw [e]; rfl, hm⟩
  | _ :: _, _ :: _, k + 1, p, ⟨_, r⟩, h => SpansIn.at (k := k) r h
  | [], [], _, _, _, h => by simp at h
  | [], _ :: _, _, _, h, _ => h.elim
  | _ :: _, [], _, _, h, _ => h.elim
/-- the spans of a text's first signs -/
def gstep (sp : List Span) (i : Nat) (c : Int) : List Span :=
  if c ≠ 0 then sp ++ [((i : Int), (i : Int) + 1, c)] else match sp.getLast? with
    | some p => sp.dropLast ++ [(p.1, (i : Int) + 1, p.2.2)]
    | none => [((i : Int), (i : Int) + 1, 0)]
def spansTo (x : Str) : Nat → List Span
  | 0 => []
  | i + 1 => gstep (spansTo x i) i (cellSize (x.cps.getD i 0))
theorem gs_app {sp : List Span} {i : Nat} {c : Int} (hc : ¬ c = 0) : gstep sp i c = sp ++ [((i : Int), (i : Int) + 1, c)] := by unfold gstep; rw [if_pos hc]
theorem gs_nil {i : Nat} : gstep [] i 0 = [((i : Int), (i : Int) + 1, 0)] := by unfold gstep; rw [if_neg (by decide)]; rfl
theorem gs_last {sp : List Span} {p : Span} {i : Nat} : gstep (sp ++ [p]) i 0 = sp ++ [(p.1, (i : Int) + 1, p.2.2)] := by unfold gstep; rw [if_neg (by decide)]; simp
theorem spansTo_at {x : Str} {i n : Nat} (hn : x.cps[i]? = some n) : spansTo x (i + 1) = gstep (spansTo x i) i (cellSize n) := by
  show gstep _ _ (cellSize (x.cps.getD i 0)) = _
  rw [Array.getD_eq_getD_getElem?, hn]; rfl
theorem gstep_len {sp : List Span} {i : Nat} {c : Int} : (gstep sp i c).length ≤ sp.length + 1 := by
  unfold gstep
  split
  · simp
  · split <;> simp
theorem spansTo_len (x : Str) : ∀ i, (spansTo x i).length ≤ i
  | 0 => Nat.le_refl _
  | i + 1 => Nat.le_trans gstep_len (Nat.succ_le_succ (spansTo_len x i))
def cellsTo (x : Str) (i : Nat) : Int := ((List.range i).map fun i => cellSize (x.cps.getD i 0)).sum
theorem cellsTo_at {x : Str} {i n : Nat} (hn : x.cps[i]? = some n) : cellsTo x (i + 1) = cellsTo x i + cellSize n := by
  unfold cellsTo
  rw [List.range_succ, List.map_append, List.sum_append]
  simp [Array.getD_eq_getD_getElem?, hn]
theorem cellsTo_succ (x : Str) (i : Nat) : cellsTo x (i + 1) = cellsTo x i + cellSize (x.cps.getD i 0) := by
  unfold cellsTo
  rw [List.range_succ, List.map_append, List.sum_append]
  simp
section
variable {w : World} {A : Around} {E : Value → Shared → Prop} {s : Shared} {h₀ : Heap} {L D : Addr} {m : Str → Option Value} {news news' : List (Addr × Obj)}
theorem names2 {h : Heap} {a b : Addr} {oa ob : Obj} {r : List (Addr × Obj)} (_ : News h₀ L h ((a, oa) :: (b, ob) :: r)) : ∃ a' oa' b', a' = a ∧ oa' = oa ∧ b' = b := ⟨_, _, _, rfl, rfl, rfl⟩
theorem dupN {h : Heap} {p : Addr × Obj} {l : List (Addr × Obj)} (N : News h₀ L h l) (hm : p ∈ l) : News h₀ L h (p :: l) := fun q hq => (List.mem_cons.mp hq).elim (fun e => e ▸ N p hm) (N q)
theorem set_in_no {S : Str → Bool} {so : Obj} {sa : Addr} {n : Nat} {k : Str} {t : Tok} {Q : Value → Shared → Prop} (N : News h₀ L s.heap news) (hm : (sa, so) ∈ news) (hso : so.SetObjOf (PySem.strKind PR w) S n) (hb : n < scanBound) (hS : S k = false) (h : Q (.bool false) { s with toks := s.toks + 1 }) :
    wpAny (model PR w) A (compareOp .In (.str k t) (.ref sa)) Q E s := by
  obtain ⟨pre, post, rfl⟩ := List.append_of_mem hm
  refine in_sl1 (k := k) N hso hb (strKind_is _ _ _ _) rfl ?_
  rw [hS]
  exact h
theorem str_item {value slice : Expr} {x : Str} {t u : Tok} {i n : Nat} {Q : Value → Shared → Prop} (hn : x.cps[i]? = some n) (hl : x.length ≤ 200) (h : Q (.str ⟨#[n]⟩ s.toks) { s with toks := s.toks + 1 })
    (hs : subscripted slice false (.str x t) (.int i u) = operate [.str x t, .int i u] (getItem (.str x t) (.int i u)) := by with_unfolding_all rfl)
    (ht : ∀ r, letTemporaryGo value (.str x t) r = pure () := by intro _; with_unfolding_all rfl) :
    wpAny (model PR w) A (subscriptTail value slice (.str x t) (.int i u)) Q E s := by
  have hi : i < x.length := (Array.getElem?_eq_some_iff.mp hn).1
  refine item_str (fitsSsize_of (N := 9223372036854775808) (by omega) (by omega) (Int.le_refl _)) (by omega) (by omega) (fun _ => ?_) hs ht
  rw [item_at (n := i) (by omega) (by omega) (by simp), Array.getD_eq_getD_getElem?, hn]
  exact h
theorem seq_last {α : Type} (l : List α) (v : α) : seqIndex? (-1) (l ++ [v]).length = some l.length ∧ (l ++ [v])[l.length]? = some v := by
  refine ⟨?_, by simp⟩
  unfold seqIndex?
  simp only [List.length_append, List.length_singleton]
  simp only [show ((-1 : Int) < 0) = True from eq_true (by decide), if_true]
  rw [if_pos (by simp only [Bool.and_eq_true, decide_eq_true_eq]; omega)]
  congr 1
  omega
theorem last_item {value slice : Expr} {n : Nat} {l : List Value} {v : Value} {u : Tok} {Q : Value → Shared → Prop} (N : News h₀ L s.heap news) (hm : (D, W.listOf (l ++ [v]).toArray n) ∈ news) (h : Q v s)
    (hs : subscripted slice false (.ref D) (.int (-1) u) = operate [.ref D, .int (-1) u] (getItem (.ref D) (.int (-1) u)) := by with_unfolding_all rfl) :
    wpAny (model PR w) A (subscriptTail value slice (.ref D) (.int (-1) u)) Q E s :=
  kde_neg (N.isList hm) (by decide) (by decide) (seq_last l v).1 (seq_last l v).2 h hs
theorem app_line {n : Nat} {l : List Value} {v : Value} {Q : Value → Shared → Prop} (F : Fr h₀ L s.heap m) (N : News h₀ L s.heap news) (U : Upd D (W.listOf l.toArray n) (W.listOf (l ++ [v]).toArray (n + 1)) news news') (hl : l.length ≤ 200)
    (h : ∀ h', Fr h₀ L h' m → News h₀ L h' news' → Q .none { s with heap := h' }) : wpAny (model PR w) A (call (.builtin "list.append") [.ref D, v]) Q E s :=
  append_K (its := l.toArray) (n := n) F N (by rw [List.push_toArray]; exact U) h (by rw [List.size_toArray]; exact Nat.le_trans hl (by decide))
theorem true_line {n : Nat} {l : List Value} {v : Value} {Q : Bool → Shared → Prop} (N : News h₀ L s.heap news) (hm : (D, W.listOf (l ++ [v]).toArray n) ∈ news) (hl : (l ++ [v]).length ≤ 200)
    (h : Q true { s with toks := s.toks + 1 + 1 }) : wpAny (model PR w) A (truthy (.ref D)) Q E s :=
  wpAny_truthy_list (N.isList hm) (by rw [List.size_toArray]; omega) (by rw [List.isEmpty_toArray, show (l ++ [v]).isEmpty = false by simp]; exact h)
theorem setL_last : ∀ (l : List Value) (v x : Value), ki_setL (l ++ [v]) l.length x = some (l ++ [x])
  | [], v, x => rfl
  | a :: l, v, x => by
    show ki_setL (a :: (l ++ [v])) (l.length + 1) x = _
    unfold ki_setL
    rw [setL_last l v x]
    rfl
theorem last_set {n : Nat} {l : List Value} {v x : Value} {u : Tok} {Q : Unit → Shared → Prop} (F : Fr h₀ L s.heap m) (N : News h₀ L s.heap news) (U : Upd D (W.listOf (l ++ [v]).toArray n) (W.listOf (l ++ [x]).toArray n) news news')
    (h : ∀ h', Fr h₀ L h' m → News h₀ L h' news' → Q () { s with heap := h' }) : wpAny (model PR w) A (setItem (.ref D) (.int (-1) u) x) Q E s :=
  ki_setNeg (j := l.length) F N (by decide) (by decide) (by simpa using (seq_last l v).1) (by simpa using setL_last l v x) U h
end
section
local macro_rules | `(tactic| k_all) => `(tactic| assumption)
local macro_rules | `(tactic| walk_at "call ref") => `(tactic| (k_here; (with_reducible show wpAny _ _ (call (Value.ref 163) [Value.str _ _]) _ _ _); k_dflt (refine' tell_use (load_tell _ _ _ _ _ _) ?k2 ?k3 ?k4 ?k5 ?kd ?ku ?_; walk_at "tell_args"); intro r9 news9 h9 tk9 F9 N9 K9 P9; obtain ⟨T9, dx9, t9, e9, e8, l9, l8⟩ := P9; subst e9; subst e8; (try k_lt l9)))
local macro_rules | `(tactic| walk_at "call ref") => `(tactic| (k_here; (with_reducible show wpAny _ _ (call (Value.ref 185) [Value.str _ _, Value.str _ _]) _ _ _); k_dflt (refine' tell_use (gccs_tell _ _ _ _ _ _ _ ?hn _) ?k2 ?k3 ?k4 ?k5 ?kd ?ku ?_; (case hn => assumption); walk_at "tell_args"); intro r9 news9 h9 tk9 F9 N9 K9 P9; obtain ⟨e9, t9, e8⟩ := P9; subst e9; subst e8))
local macro_rules | `(tactic| walk_at "subscriptTail Name Name str int") => `(tactic| (k_here; refine str_item (by assumption) (by assumption) ?_))
local macro_rules | `(tactic| walk_at "compareOp In str ref") => `(tactic| (k_here; k_dflt (refine' set_in_no ?N ?hm ?hso ?hb ?hS ?_; (case N => k_asm); (case hso => assumption); (case hm => k_mem); (case hb => decide); (case hS => assumption))))
local macro_rules | `(tactic| walk_at "subscriptTail Name UnaryOp ref int") => `(tactic| (k_here; k_dflt (refine' last_item ?N ?hm ?_ ?hs; (case N => k_asm); (case hm => k_mem); (case hs => with_unfolding_all rfl))))
local macro_rules | `(tactic| walk_at "setItem ref int") => `(tactic| (k_here; k_dflt (refine' last_set ?F ?N ?U ?_; (case F => k_asm); (case N => k_asm); (case U => k_upd)); intro h' F' N'))
theorem led_sub {a d e : Addr × Obj} {led news : List (Addr × Obj)} : ∀ p ∈ d :: e :: ((a :: led) ++ news), p ∈ a :: d :: e :: (led ++ news) := by
  intro p hp
  simp only [List.cons_append, List.mem_cons] at hp ⊢
  rcases hp with h | h | h | h
  · exact .inr (.inl h)
  · exact .inr (.inr (.inl h))
  · exact .inl h
  · exact .inr (.inr (.inr h))
theorem led_sub2 {a b d e : Addr × Obj} {led news : List (Addr × Obj)} : ∀ p ∈ d :: e :: ((a :: led) ++ news), p ∈ a :: d :: e :: b :: (led ++ news) := by
  intro p hp
  simp only [List.cons_append, List.mem_cons] at hp ⊢
  rcases hp with h | h | h | h
  · exact .inr (.inl h)
  · exact .inr (.inr (.inl h))
  · exact .inl h
  · exact .inr (.inr (.inr (.inr h)))
theorem led_ret {h₀ h : Heap} {L : Addr} {a d e : Addr × Obj} {l : List (Addr × Obj)} (N : News h₀ L h (a :: d :: e :: l)) : News h₀ L h (a :: d :: l) := fun q hq => by
  rcases List.mem_cons.mp hq with rfl | hq
  · exact N _ (.head _)
  · rcases List.mem_cons.mp hq with rfl | hq
    · exact N _ (.tail _ (.head _))
    · exact N _ (.tail _ (.tail _ (.tail _ hq)))
theorem dupN3 {h₀ h : Heap} {L : Addr} {d e p : Addr × Obj} {led news : List (Addr × Obj)} (N : News h₀ L h (d :: e :: (led ++ news))) (hm : p ∈ led) : News h₀ L h (d :: e :: p :: (led ++ news)) := fun q hq => by
  rcases List.mem_cons.mp hq with rfl | hq
  · exact N _ (.head _)
  · rcases List.mem_cons.mp hq with rfl | hq
    · exact N _ (.tail _ (.head _))
    · rcases List.mem_cons.mp hq with rfl | hq
      · exact N _ (.tail _ (.tail _ (List.mem_append_left _ hm)))
      · exact N _ (.tail _ (.tail _ hq))
local macro_rules | `(tactic| walk_at "call builtin:list.append") => `(tactic| (k_here; k_dflt (refine' app_line ?F ?N ?U ?hl ?_; (case F => k_asm); (case N => k_asm); (case U => k_upd); (case hl => assumption)); intro h' F' N'))
local macro_rules | `(tactic| walk_at "truthy ref") => `(tactic| (k_here; k_dflt (refine' true_line ?N ?hm ?hl ?_; (case N => k_asm); (case hm => k_mem); (case hl => assumption))))
theorem special_no {n : Nat} (h : n ∈ signsL) : (fun k' : Str => false || decide (k' = Str.ofString "‍") || decide (k' = Str.ofString "️")) ⟨#[n]⟩ = false := by
  have : n ≠ 8205 ∧ n ≠ 65039 := by
    constructor <;> (intro e; rw [e] at h; revert h; decide)
  have e1 : Str.ofString "‍" = ⟨#[8205]⟩ := by decide
  have e2 : Str.ofString "️" = ⟨#[65039]⟩ := by decide
  rw [e1, e2]
  simp [this.1, this.2]
structure GS where
  i : Nat
  ti : Tok
  tw : Int
  ttw : Tok
  its : List Value
  n : Nat
  led : List (Addr × Obj)
theorem graph_tell (w : World) (mg mb) (x : Str) (t : Tok) (y : Str) (u : Tok) (hx : OkT x) (news : List (Addr × Obj)) :
    Tell w mg mb 216 12 news [.str x t, .str y u] (fun news' r => ∃ T0 D its n led tt, r = .ref T0 ∧ news' = (T0, tupO [.ref D, .int (cellLen x) tt]) :: (D, W.listOf (List.toArray its) n) :: (led ++ news) ∧ SpansIn led its (spansTo x x.cps.size) ∧ ∀ p ∈ led, p.2.cls = .type "tuple") := by
  walk_at "my_fill"
  unfold Tell
  intro dp un gd fr h₀ L m s Q E F X N T hd hu hret
  dsimp only [PR, KK] at *
  walk_at "my_enter"
  have hlen := hx.len
  have hlen2 : x.length = x.cps.size := rfl
  have hx' : ∀ {i n : Nat}, x.cps[i]? = some n → _ := fun e => signsL_ok _ (hx.at e)
  walk_at "steps_while"
  rename Obj.SetObjOf _ _ _ _ => hS
  rename News _ _ _ _ => N0
  rename Fr _ _ _ _ => F0
  obtain ⟨sA, sO, D, e1, e2, e3⟩ := names2 N0
  subst e1 e2 e3
  have hne0 : sA ≠ D := by k_ne
  refine' ksw_while (σ := GS) (fun c => (D, W.listOf c.its.toArray c.n) :: (sA, sO) :: (c.led ++ news)) (fun c => [(Str.ofString "index", .int c.i c.ti), (Str.ofString "total_width", .int c.tw c.ttw)]) (fun _ => True) [Str.ofString "last_measured_character", Str.ofString "character", Str.ofString "character_width", Str.ofString "start", Str.ofString "_end", Str.ofString "cell_length"]
    (fun c => c.i ≤ x.cps.size ∧ SpansIn c.led c.its (spansTo x c.i) ∧ c.tw = cellsTo x c.i ∧ (∀ p ∈ c.led ++ news, p.1 ≠ D) ∧ ∀ p ∈ c.led, p.2.cls = .type "tuple") (fun c => x.cps.size - c.i) ⟨0, _, 0, _, [], 0, []⟩ F0 ?kN trivial ?kk ?kp ?kt ?kE
  case kk => (refine List.forall_mem_cons.mpr ⟨?_, List.forall_mem_cons.mpr ⟨?_, List.forall_mem_nil _⟩⟩ <;> with_unfolding_all exact rfl)
  case kE => passes_own
  case kN =>
    intro p hp
    refine N0 p ?_
    rcases List.mem_cons.mp hp with rfl | hp
    · exact .tail _ (.head _)
    · rcases List.mem_cons.mp hp with rfl | hp
      · exact .head _
      · exact .tail _ (.tail _ (.tail _ (.tail _ hp)))
  case kp =>
    refine ⟨Nat.zero_le _, trivial, rfl, ?_⟩
    rename (_ ∧ _ ∧ AllLt D news) => lD
    exact ⟨tbn_neAll lD.2.2, fun _ hp => absurd hp List.not_mem_nil⟩
  case kt =>
    rintro ⟨i, ti, tw, ttw, its, n, led⟩ u h tk _ ⟨hi, hsp, htw, hoff, hcl⟩ F₁ N₁
    dsimp only at hi hsp htw hoff hcl F₁ N₁
    subst htw
    by_cases hlt : i < x.cps.size
    · obtain ⟨cp, hn⟩ : ∃ n, x.cps[i]? = some n := ⟨_, Array.getElem?_eq_getElem hlt⟩
      have hc := hx' hn
      have hsn := special_no (hx.at hn)
      have hsp' := spansTo_at hn
      have htw' := cellsTo_at hn
      rcases List.eq_nil_or_concat its with rfl | ⟨fr', v, rfl⟩
      · have hsp0 := hsp.nil
        k_steps
        · have hce : ¬ cellSize cp = 0 := by assumption
          rename News _ _ _ _ => NN
          (try simp only [List.push_toArray, List.nil_append] at NN)
          refine' ksw_end ⟨i + 1, _, _, _, [_], _, (_, _) :: led⟩ (by assumption) NN led_sub trivial ?kk ?kr ?kp ?km
          case kk => (refine List.forall_mem_cons.mpr ⟨?_, List.forall_mem_cons.mpr ⟨?_, List.forall_mem_nil _⟩⟩ <;> with_unfolding_all exact rfl)
          case kr => walk_at "km_same2"
          case kp =>
            refine ⟨hlt, ?_, htw'.symm, List.forall_mem_cons.mpr ⟨by k_ne, hoff⟩, List.forall_mem_cons.mpr ⟨rfl, hcl⟩⟩
            rw [hsp', gs_app hce]
            exact SpansIn.snoc (its := []) (p := (_, _, _)) (.head _) (hsp.mono fun p hp => .tail _ hp)
          case km => dsimp only; omega
        · have hce : cellSize cp = 0 := by assumption
          rename News _ _ _ _ => NN
          (try simp only [List.push_toArray, List.nil_append] at NN)
          refine' ksw_end ⟨i + 1, _, _, _, [_], _, (_, _) :: led⟩ (by assumption) NN led_sub trivial ?kk ?kr ?kp ?km
          case kk => (refine List.forall_mem_cons.mpr ⟨?_, List.forall_mem_cons.mpr ⟨?_, List.forall_mem_nil _⟩⟩ <;> with_unfolding_all exact rfl)
          case kr => walk_at "km_same2"
          case kp =>
            refine ⟨hlt, ?_, by (show cellsTo x i = _; rw [htw', hce, Int.add_zero]), List.forall_mem_cons.mpr ⟨by k_ne, hoff⟩, List.forall_mem_cons.mpr ⟨rfl, hcl⟩⟩
            rw [hsp', hce, hsp0, gs_nil]
            exact SpansIn.snoc (its := []) (sp := []) (p := (_, _, _)) (.head _) trivial
          case km => dsimp only; omega
      · rw [List.concat_eq_append] at *
        obtain ⟨sp', p, T, ta, tb', tc, hsp0, rfl, hm, hfr⟩ := hsp.last
        replace N₁ := dupN3 N₁ hm
        have hle : (fr' ++ [Value.ref T]).length ≤ 200 := by rw [hsp.len]; exact Nat.le_trans (spansTo_len x i) (by omega)
        have hoff' : ∀ q ∈ _ :: (led ++ news), q.1 ≠ D := List.forall_mem_cons.mpr ⟨hoff _ (List.mem_append_left _ hm), hoff⟩
        k_steps
        · have hce : ¬ cellSize cp = 0 := by assumption
          rename News _ _ _ _ => NN
          (try simp only [List.push_toArray, List.nil_append] at NN)
          refine' ksw_end ⟨i + 1, _, _, _, (fr' ++ [.ref T]) ++ [_], _, (_, _) :: led⟩ (by assumption) NN led_sub2 trivial ?kk ?kr ?kp ?km
          case kk => (refine List.forall_mem_cons.mpr ⟨?_, List.forall_mem_cons.mpr ⟨?_, List.forall_mem_nil _⟩⟩ <;> with_unfolding_all exact rfl)
          case kr => walk_at "km_same2"
          case kp =>
            refine ⟨hlt, ?_, htw'.symm, List.forall_mem_cons.mpr ⟨by k_ne, hoff⟩, List.forall_mem_cons.mpr ⟨rfl, hcl⟩⟩
            rw [hsp', gs_app hce]
            exact SpansIn.snoc (p := (_, _, _)) (.head _) (hsp.mono fun p hp => .tail _ hp)
          case km => dsimp only; omega
        · have hce : cellSize cp = 0 := by assumption
          rename News _ _ _ _ => NN
          refine' ksw_end ⟨i + 1, _, _, _, fr' ++ [_], _, (_, _) :: led⟩ (by assumption) NN led_sub2 trivial ?kk ?kr ?kp ?km
          case kk => (refine List.forall_mem_cons.mpr ⟨?_, List.forall_mem_cons.mpr ⟨?_, List.forall_mem_nil _⟩⟩ <;> with_unfolding_all exact rfl)
          case kr => walk_at "km_same2"
          case kp =>
            refine ⟨hlt, ?_, by (show cellsTo x i = _; rw [htw', hce, Int.add_zero]), List.forall_mem_cons.mpr ⟨by k_ne, hoff⟩, List.forall_mem_cons.mpr ⟨rfl, hcl⟩⟩
            rw [hsp', hce, hsp0, gs_last]
            exact SpansIn.snoc (p := (p.1, (i : Int) + 1, p.2.2)) (.head _) (hfr.mono fun p hp => .tail _ hp)
          case km => dsimp only; omega
    · have hie : i = x.cps.size := Nat.le_antisymm hi (Nat.le_of_not_lt hlt)
      subst hie
      k_steps
      · rename News _ _ _ _ => NN
        exact hret _ _ _ _ (by assumption) (led_ret NN) (by walk_at "keep_end") ⟨_, _, _, _, led, _, rfl, rfl, hsp, hcl⟩
end
end Mine
end
namespace Mine
section
local macro_rules | `(tactic| walk_at "mine_nothing") => `(tactic| skip)
theorem fresh_ST : True ∧ True := by
  w_top off
  first | (walk1; fail "on") | exact ⟨trivial, trivial⟩
end
end Mine
section
open PySem PySem.W PyProof.Rows PySem.Calls PySem.Spec PyProof.V
set_option Elab.async false
set_option maxRecDepth 100000
set_option maxHeartbeats 0
namespace Mine
local macro_rules | `(tactic| walk_at "my_enter") => `(tactic| (refine wpAny_call ?_; walk_at "my_code"))
local macro_rules | `(tactic| walk_at "my_code") => `(tactic| (k_dflt (refine' code_q ?k1 ?k2 ?k3 ?k4 ?k6 ?k7 ?k8 ?k9 ?kB ?_ ?c2 ?c3 ?c4 ?c5; (case k1 => k_asm); (case k2 => k_asm); (case k3 => k_asm); (case k4 => k_asm); (case k6 => k_is); (case k7 => k_is); (case k8 => ktr_room); (case k9 => first | exact BindsTo.of_eq rfl | exact binds_K (by k_in) rfl (by k_is) rfl rfl rfl); (case c5 => decide); (case kB => exact locs rfl); (case c2 => exact rfl); (case c3 => exact rfl); (case c4 => exact rfl); k_whole; intro g' L' h' FG' F' N' kp' X' T' lt'; (try dsimp only); (try k_fold))))
local macro_rules | `(tactic| ktr_room) => `(tactic| ((try simp only [depth_under_make, depth_under_kw, depth_in1, depth_deeper, depth_caller]); (try dsimp only [qTop]); omega))
local macro_rules | `(tactic| ktr_units) => `(tactic| ((try simp only [units_in1, units_deeper, Around.mark_units, units_caller]); (try dsimp only [qTop]); omega))
local macro_rules | `(tactic| walk_at "my_fill") => `(tactic| ((have hkk : PySem.Challenge.rw_ey0020_01 = PySem.Challenge.rw_ey0020_01 ∧ hd.heap_39 = hd.heap_39 := by (k_fill; exact ⟨rfl, rfl⟩)); clear hkk))
local macro_rules | `(tactic| walk_at "km_same") => `(tactic| (intro z; intros; rename_i hs; simp only [List.contains_cons, List.contains_nil, Bool.or_false, Bool.or_eq_false_iff, beq_eq_false_iff_ne, ne_eq] at hs; simp [kstB, *]))
local macro_rules | `(tactic| walk_at "km_same2") => `(tactic| (intro z hz hs; simp only [List.contains_cons, List.contains_nil, Bool.or_false, Bool.or_eq_false_iff, beq_eq_false_iff_ne, ne_eq] at hs; simp only [List.forall_mem_cons, List.not_mem_nil, false_imp_iff, implies_true, and_true, ne_eq] at hz; simp [kstB, hz, hs]))
local macro_rules | `(tactic| walk_at "km_same3") => `(tactic| (intro z hx hz hs; simp only [List.contains_cons, List.contains_nil, Bool.or_false, Bool.or_eq_false_iff, beq_eq_false_iff_ne, ne_eq] at hs; simp only [List.forall_mem_cons, List.not_mem_nil, false_imp_iff, implies_true, and_true, ne_eq] at hz; simp [kstB, hx, hz, hs]))
local macro_rules | `(tactic| walk_at "tell_args") => `(tactic| ((case k2 => k_asm); (case k3 => k_asm); (case k4 => k_asm); (case k5 => k_asm); (case kd => ktr_room); (case ku => ktr_units)))
local macro_rules | `(tactic| walk_at "keep_end") => `(tactic| exact KeepsBut.then (by assumption) (by assumption))
local macro_rules | `(tactic| walk_at "steps_while") => `(tactic| repeat' ((fail_if_success (with_reducible show wpAny _ _ (exec (Stmt.While _ _ _ _) _) _ _ _)); (first | (k_unfold; (try dsimp only)) | (k_end; wrow_close) | walk1 | (dsimp only; walk1) | (leave1; walk_say "STEP leave1"; try dsimp only) | fail "no step")))
def preW (sp : List Span) (k : Nat) : Int := ((sp.take k).map (·.2.2)).sum
section
variable {w : World} {A : Around} {E : Value → Shared → Prop} {s : Shared} {h₀ : Heap} {L D : Addr} {m : Str → Option Value} {news news' : List (Addr × Obj)}
theorem namesS {led : List (Addr × Obj)} {its : List Value} {sp : List Span} {h : Heap} {T D : Addr} {a : Obj} {l : Array Value} {n : Nat} {r : List (Addr × Obj)} (_ : SpansIn led its sp) (_ : News h₀ L h ((T, a) :: (D, W.listOf l n) :: r)) : ∃ T' D' its' led' n', T' = T ∧ D' = D ∧ its' = its ∧ led' = led ∧ n' = n := ⟨_, _, _, _, _, rfl, rfl, rfl, rfl, rfl⟩
theorem sub_st {t c d : Addr × Obj} {led rest : List (Addr × Obj)} : ∀ p ∈ c :: (d :: (led ++ rest)), p ∈ t :: d :: (led ++ c :: rest) := by
  intro p hp
  simp only [List.mem_cons, List.mem_append] at hp ⊢
  rcases hp with h | h | h | h
  · exact .inr (.inr (.inr (.inl h)))
  · exact .inr (.inl h)
  · exact .inr (.inr (.inl h))
  · exact .inr (.inr (.inr (.inr h)))
theorem len_line {n : Nat} {l : List Value} {Q : Value → Shared → Prop} (N : News h₀ L s.heap news) (hm : (D, W.listOf l.toArray n) ∈ news) (hl : l.length ≤ 200)
    (h : Q (.int l.length (s.toks + 1)) { s with toks := s.toks + 1 + 1 }) : wpAny (model PR w) A (call (.builtin "len") [.ref D]) Q E s :=
  call_len_list (N.isList hm) (by rw [List.size_toArray]; omega) (by rw [List.size_toArray]; exact h)
theorem at_line {value slice : Expr} {n : Nat} {l : List Value} {v : Value} {k : Int} {u : Tok} {Q : Value → Shared → Prop} (N : News h₀ L s.heap news) (hm : (D, W.listOf l.toArray n) ∈ news) (h0 : 0 ≤ k) (h1 : k < 2 ^ 63) (hx : l[k.toNat]? = some v) (h : Q v s)
    (hs : subscripted slice false (.ref D) (.int k u) = operate [.ref D, .int k u] (getItem (.ref D) (.int k u)) := by with_unfolding_all rfl) :
    wpAny (model PR w) A (subscriptTail value slice (.ref D) (.int k u)) Q E s :=
  tail_any (N.isList hm).typeIs slot_list_getitem.lookup (wpAny_getItem_list (N.isList hm) h0 h1 (by simpa using hx) h) hs
theorem tup_line {value slice : Expr} {T : Addr} {l : List Value} {k : Int} {u : Tok} {v : Value} {Q : Value → Shared → Prop} (N : News h₀ L s.heap news) (hm : (T, tupO l) ∈ news) (hlo : -(2 ^ 63) ≤ k) (hhi : k < 2 ^ 63) {j : Nat} (hj : seqIndex? k l.length = some j) (hx : l[j]? = some v) (h : Q v s)
    (hs : subscripted slice false (.ref T) (.int k u) = operate [.ref T, .int k u] (getItem (.ref T) (.int k u)) := by with_unfolding_all rfl) :
    wpAny (model PR w) A (subscriptTail value slice (.ref T) (.int k u)) Q E s := item_tupleT (N.isTup hm) hlo hhi hj hx h hs
theorem off_cls {h : Heap} {l : List (Addr × Obj)} {P : Addr} {ps : Array Value} {p : Addr × Obj} (N : News h₀ L h l) (hP : (P, tabOf ps) ∈ l) (hp : p ∈ l) (hc : p.2.cls ≠ .none) : p.1 ≠ P := by
  intro e
  have h1 := (N p hp).1
  rw [e, (N _ hP).1] at h1
  exact hc (by rw [← Option.some.inj h1])
theorem st_off {h : Heap} {t : Addr × Obj} {ps : Array Value} {l : Array Value} {n : Nat} {led rest : List (Addr × Obj)} (N : News h₀ L h (t :: (D, W.listOf l n) :: (led ++ (219, tabOf ps) :: rest))) (hcl : ∀ p ∈ led, p.2.cls = .type "tuple") (hoff : ∀ p ∈ rest, p.1 ≠ 219) : ∀ p ∈ (D, W.listOf l n) :: (led ++ rest), p.1 ≠ 219 := by
  have hP : (219, tabOf ps) ∈ t :: (D, W.listOf l n) :: (led ++ (219, tabOf ps) :: rest) := sub_st _ (.head _)
  intro p hp
  rcases List.mem_cons.mp hp with rfl | hp
  · exact off_cls N hP (.tail _ (.head _)) (by simp)
  · rcases List.mem_append.mp hp with hp | hp
    · exact off_cls N hP (.tail _ (.tail _ (List.mem_append_left _ hp))) (by rw [hcl p hp]; simp)
    · exact hoff p hp
theorem st_keep {h : Heap} {t a d e : Addr × Obj} {led rest : List (Addr × Obj)} (N : News h₀ L h (t :: a :: d :: e :: (led ++ rest))) : News h₀ L h (t :: a :: rest) := fun p hp => N p (by
  simp only [List.mem_cons, List.mem_append] at hp ⊢
  rcases hp with h | h | h
  · exact .inl h
  · exact .inr (.inl h)
  · exact .inr (.inr (.inr (.inr (.inr h)))))
theorem st_keep2 {h : Heap} {t a d : Addr × Obj} {led rest : List (Addr × Obj)} (N : News h₀ L h (t :: a :: d :: (led ++ rest))) : News h₀ L h (t :: a :: rest) := fun p hp => N p (by
  simp only [List.mem_cons, List.mem_append] at hp ⊢
  rcases hp with h | h | h
  · exact .inl h
  · exact .inr (.inl h)
  · exact .inr (.inr (.inr (.inr h))))
theorem st_sub3 {a d e : Addr × Obj} {l : List (Addr × Obj)} : ∀ p ∈ a :: d :: l, p ∈ a :: d :: e :: l := by
  intro p hp
  simp only [List.mem_cons] at hp ⊢
  rcases hp with h | h | h
  · exact .inl h
  · exact .inr (.inl h)
  · exact .inr (.inr (.inr h))
theorem slice_line {value slice : Expr} {n k : Nat} {i : Int} {u : Tok} {l : List Value} {Q : Value → Shared → Prop} (hi : i = (k : Int)) (hk : k ≤ l.length) (h2 : l.length ≤ 200) (F : Fr h₀ L s.heap m) (N : News h₀ L s.heap news) (hm : (D, W.listOf l.toArray n) ∈ news)
    (h : ∀ a h', Fr h₀ L h' m → News h₀ L h' ((a, W.listOf (l.take k).toArray 0) :: news) → Q (.ref a) { s with heap := h' })
    (hs : subscripted slice false (.ref D) (.ref s.heap.objs.size) = operate [.ref s.heap.objs.size, .ref D] (getItem (.ref D) (.ref s.heap.objs.size)) := by with_unfolding_all rfl)
    (ht : ∀ r, letTemporaryGo value (.ref D) r = pure () := by intro _; with_unfolding_all rfl) :
    wpAny (model PR w) A (subscriptTail value slice (.ref D) (.ref s.heap.objs.size)) Q E { s with heap := s.heap.push { cls := .type "slice", data := .fields #[.none, .int i u, .none] } } := by
  subst hi
  refine slice_list (hsz := ?_) F N (N.isList hm) .none (.int _ _) (fun h' F' N' => ?_) hs ht
  · have e : slicePick l.toArray none (some (k : Int)) none = (l.take k).toArray := by rw [slicePick_upto _ _ (by simpa using hk)]
    rw [e] at N'
    exact h _ _ F' N'
  · rw [List.size_toArray]; exact Nat.le_trans h2 (by decide)
theorem iter_list {ax P : Addr} {ps : Array Value} {l : List Value} {n : Nat} (F : Fr h₀ L s.heap m) (N0 : News h₀ L s.heap news') (hax : (ax, W.listOf l.toArray n) ∈ news') (hsub : ∀ p ∈ (P, tabOf ps) :: news, p ∈ news') (hh : A.handled = none) :
    wpAny (model PR w) A (pyIter (.ref ax)) (fun it s₂ => ∃ h₂ tk₂ I fp St₀, s₂ = { s with heap := h₂, toks := tk₂ } ∧ Fr h₀ L h₂ m ∧ News h₀ L h₂ ((P, tabOf ps) :: news) ∧ it = .ref I ∧
      (∀ A' : Around, A'.handled = none → Walks PR w A' I fp [I] l.toArray.size (fun i v => l.toArray[i]? = some v) St₀) ∧ St₀ 0 h₂ ∧ (∀ b ∈ fp, b < h₂.objs.size) ∧ (∀ p ∈ (P, tabOf ps) :: news, p.1 ≠ I) ∧ L < I ∧ P ∉ fp) E s := by
  have N : News h₀ L s.heap ((P, tabOf ps) :: news) := fun p hp => N0 p (hsub p hp)
  have hl : s.heap.IsList ax l.toArray := N0.isList hax
  have hax2 : ax < s.heap.objs.size := Heap.lt_size (N0 _ hax).1
  have hP : P ≠ ax := fun e => off_cls N0 (hsub _ (.head _)) hax (by simp) e.symm
  have hlt : ∀ p ∈ (P, tabOf ps) :: news, p.1 < s.heap.objs.size := fun p hp => Heap.lt_size (N p hp).1
  have hne : ax ≠ s.heap.objs.size := Nat.ne_of_lt hax2
  refine wpAny_pyIter_list hl ⟨_, _, s.heap.objs.size, [s.heap.objs.size, ax], _, rfl, F.push _, fun p hp => ⟨Heap.get?_push_of_some _ (N p hp).1, (N p hp).2⟩, rfl, fun A' hA => Walks.list hA s.heap.objs.size ax hne l.toArray, ⟨⟨_, Heap.get?_push_size _ rfl, rfl, rfl⟩, hl.at fun o e => Heap.get?_push_of_some _ e⟩, ?_, fun p hp => Nat.ne_of_lt (hlt p hp), F.ns.lt, ?_⟩
  · intro b hb
    have := hax2
    simp only [List.mem_cons, List.not_mem_nil, or_false] at hb
    rcases hb with rfl | rfl
    · simp [Heap.push]
    · exact Nat.lt_of_lt_of_le this (by simp [Heap.push])
  · intro hb
    simp only [List.mem_cons, List.not_mem_nil, or_false] at hb
    rcases hb with e | e
    · exact Nat.ne_of_lt (hlt (P, tabOf ps) (.head _)) e
    · exact hP e
end
theorem preW_succ {sp : List Span} {k : Nat} {p : Span} (h : sp[k]? = some p) : preW sp (k + 1) = preW sp k + p.2.2 := by
  unfold preW
  rw [List.take_succ, h]
  simp [List.sum_append]
theorem preW_range (sp : List Span) : ∀ k, k ≤ sp.length → ((List.range k).map fun i => (sp.getD i (0, 0, 0)).2.2).sum = preW sp k
  | 0, _ => rfl
  | k + 1, h => by
    have e : sp[k]? = some sp[k] := List.getElem?_eq_getElem h
    rw [List.range_succ, List.map_append, List.sum_append, preW_range sp k (Nat.le_of_succ_le h), preW_succ e]
    simp [List.getD_eq_getElem?_getD, e]
theorem cellSize_dec : ∀ p ∈ tb, 0 ≤ p.2.2 ∧ p.2.2 ≤ 2 := by decide
theorem cellSize_bd (n : Nat) : 0 ≤ cellSize n ∧ cellSize n ≤ 2 := by
  unfold cellSize
  split
  · rename_i p e
    exact cellSize_dec p (List.mem_of_find?_eq_some e)
  · decide
theorem cellsTo_bd (x : Str) : ∀ i, 0 ≤ cellsTo x i ∧ cellsTo x i ≤ 2 * i
  | 0 => ⟨Int.le_refl _, Int.le_refl _⟩
  | i + 1 => by
    have h1 := cellsTo_bd x i
    have h2 := cellSize_bd (x.cps.getD i 0)
    rw [cellsTo_succ]
    omega
theorem span_at {led : List (Addr × Obj)} {its : List Value} {sp : List Span} {k i : Nat} {v : Value} (h : SpansIn led its sp) (hv : (its.take k).toArray[i]? = some v) :
    ∃ T a b c, v = .ref T ∧ (T, tupO [.int (sp.getD i (0, 0, 0)).1 a, .int (sp.getD i (0, 0, 0)).2.1 b, .int (sp.getD i (0, 0, 0)).2.2 c]) ∈ led := by
  have hv' : its[i]? = some v := by
    rw [List.getElem?_toArray, List.getElem?_take] at hv
    split at hv
    · exact hv
    · cases hv
  have hi : i < sp.length := by rw [← h.len]; exact (List.getElem?_eq_some_iff.mp hv').1
  have e : sp[i]? = some sp[i] := List.getElem?_eq_getElem hi
  obtain ⟨T, a, b, c, e1, hm⟩ := h.at e
  rw [hv'] at e1
  refine ⟨T, a, b, c, Option.some.inj e1, ?_⟩
  rw [List.getD_eq_getElem?_getD, e]
  exact hm
theorem gstep_w {sp : List Span} {i : Nat} {c : Int} : ((gstep sp i c).map (·.2.2)).sum = (sp.map (·.2.2)).sum + c := by
  unfold gstep
  split
  · simp [List.sum_append]
  · rename_i hc
    have hc : c = 0 := Classical.not_not.mp hc
    subst hc
    split
    · rename_i p e
      have : sp = sp.dropLast ++ [p] := by
        rw [List.getLast?_eq_some_iff] at e
        obtain ⟨l, rfl⟩ := e
        simp
      conv => rhs; rw [this]
      simp [List.sum_append]
    · rename_i e
      rw [List.getLast?_eq_none_iff] at e
      subst e; rfl
theorem spans_w (x : Str) : ∀ i, ((spansTo x i).map (·.2.2)).sum = cellsTo x i
  | 0 => rfl
  | i + 1 => by
    show ((gstep (spansTo x i) i _).map _).sum = _
    rw [gstep_w, spans_w x i, cellsTo_succ]
theorem gstep_pos {sp : List Span} {i : Nat} {c : Int} (h : ∀ p ∈ sp, 0 ≤ p.2.2) (hc : 0 ≤ c) : ∀ p ∈ gstep sp i c, 0 ≤ p.2.2 := by
  intro p hp
  unfold gstep at hp
  split at hp
  · rcases List.mem_append.mp hp with hp | hp
    · exact h p hp
    · rw [List.mem_singleton.mp hp]; exact hc
  · split at hp
    · rename_i q e
      rcases List.mem_append.mp hp with hp | hp
      · exact h p (List.dropLast_subset _ hp)
      · rw [List.mem_singleton.mp hp]; exact h q (List.mem_of_getLast? e)
    · rw [List.mem_singleton.mp hp]; exact Int.le_refl _
theorem spans_pos (x : Str) : ∀ i, ∀ p ∈ spansTo x i, 0 ≤ p.2.2
  | 0 => fun _ hp => absurd hp List.not_mem_nil
  | i + 1 => gstep_pos (spans_pos x i) (cellSize_bd _).1
abbrev spn (x : Str) : List Span := spansTo x x.cps.size
theorem preW_all (x : Str) : preW (spn x) (spn x).length = cellLen x := by
  unfold preW
  rw [List.take_length]
  exact spans_w x _
def SplitOut (x : Str) (pos : Int) (a b : Str) : Prop :=
  (pos ≤ 0 ∧ a = Str.ofString "" ∧ b = x) ∨
  (0 < pos ∧ preW (spn x) (spn x).length = pos ∧ a = x ∧ b = Str.ofString "") ∨
  (0 < pos ∧ ∃ (k : Nat) (p : Span), (spn x)[k]? = some p ∧ preW (spn x) k = pos ∧ a = Txt.slice x none (some p.1) ∧ b = Txt.slice x (some p.1) none) ∨
  (0 < pos ∧ ∃ (k : Nat) (p : Span), (spn x)[k]? = some p ∧ preW (spn x) k < pos ∧ pos < preW (spn x) k + p.2.2 ∧ a = Txt.slice x none (some p.1) ++ Str.ofString " " ∧ b = Str.ofString " " ++ Txt.slice x (some p.2.1) none)
theorem fdiv_bd {a n b : Int} (h0 : 0 < a) (h1 : a ≤ b) (h2 : 0 ≤ n) : 0 ≤ (a * n).fdiv b ∧ (a * n).fdiv b ≤ n := by
  rw [Int.fdiv_eq_ediv_of_nonneg _ (by omega)]
  refine ⟨Int.ediv_nonneg (Int.mul_nonneg (by omega) h2) (by omega), ?_⟩
  refine Int.ediv_le_of_le_mul (by omega) ?_
  rw [Int.mul_comm n b]
  exact Int.mul_le_mul_of_nonneg_right h1 h2
section
local macro_rules | `(tactic| walk_at "eval Name") => `(tactic| (k_here; k_dflt (refine' nameG_L ?F ?v ?_ ?a ?b; (case F => k_asm); (case a => rfl); (case b => rfl); (case v => assumption); k_whole)))
local macro_rules | `(tactic| walk_at "subscriptTail Name Constant ref int") => `(tactic| (k_here; k_dflt (refine' tup_line ?N ?hm ?a ?b ?hj ?hx ?_ ?hs; (case N => k_asm); (case hm => assumption); (case a => decide); (case b => decide); (case hj => rfl); (case hx => rfl); (case hs => with_unfolding_all rfl))))
theorem span_elt {w : World} {env : Env} {C T : Addr} {code : Value} {A' : Around} {E' : Value → Shared → Prop} {t : Shared} {m₂ : Str → Option Value} {h₀ : Heap} {news : List (Addr × Obj)} {p : Span} {a b c : Tok}
    (hA : A'.handled = none) (F : Fr h₀ C t.heap m₂) (hm : m₂ (Str.ofString "span") = some (.ref T)) (N : News h₀ C t.heap news) (hT : (T, tupO [.int p.1 a, .int p.2.1 b, .int p.2.2 c]) ∈ news) {p1 p2 p3 : Pos} :
    wpAny (model PR w) A' (eval (.Subscript (.Name (Str.ofString "span") p1) (.Constant (.int 2) 0 p2) p3)
      (genEnv { kind := ScopeKind.function, names := [(Str.ofString ".0", NameKind.local), (Str.ofString "span", NameKind.local)], isGenerator := true, isCoroutine := false, more := [] } [] C code builtinsNs env))
      (fun y s₃ => (∃ u, y = .int p.2.2 u) ∧ Keeps t s₃) E' t := by
  walk_at "my_fill"
  obtain ⟨hd1, dp, fr, gd, un⟩ := A'
  dsimp only at hA
  subst hA
  dsimp only [PR]
  k_steps
  refine tup_line N hT (by decide) (by decide) rfl rfl ?_
  exact ⟨⟨_, rfl⟩, _, _, rfl, fun b o e => e⟩
end
section
local macro_rules | `(tactic| k_all) => `(tactic| assumption)
local macro_rules | `(tactic| walk_at "call ref") => `(tactic| (k_here; (with_reducible show wpAny _ _ (call (Value.ref 216) [Value.str _ _, Value.str _ _]) _ _ _); k_dflt (refine' tell_use (graph_tell _ _ _ _ _ _ _ ?hx _) ?k2 ?k3 ?k4 ?k5 ?kd ?ku ?_; (case hx => k_asm); walk_at "tell_args"); intro r9 news9 h9 tk9 F9 N9 K9 P9; obtain ⟨T9, D9, its9, n9, led9, t9, e9, e8, sp9, cl9⟩ := P9; subst e9; subst e8; (try k_lt l9)))
local macro_rules | `(tactic| walk_at "call builtin:len") => `(tactic| (k_here; k_dflt (refine' len_line ?N ?hm ?hl ?_; (case N => k_asm); (case hm => k_mem); (case hl => (rw [SpansIn.len (by assumption)]; exact Nat.le_trans (spansTo_len _ _) (by assumption))))))
local macro_rules | `(tactic| walk_at "binaryOp FloorDiv int int") => `(tactic| (k_here; k_dflt (refine floordiv_int ?hb ?_ (Or.inl (PyProof.noPylong_small ?hc)); (case hb => omega); (case hc => omega))))
local macro_rules | `(tactic| walk_at "call builtin:sum") => `(tactic| (k_here; (rename SumGen _ _ _ _ _ _ _ _ _ => S9); refine S9 _ _ ?_; clear S9; intro t9 h9 tk9 gs9 G9 F9 N9))
local macro_rules | `(tactic| walk_at "subscriptTail Name Name ref int") => `(tactic| (k_here; k_dflt (refine' at_line ?N ?hm ?h0 ?h1 ?hx ?_ ?hs; (case N => k_asm); (case hm => k_mem); (case h0 => omega); (case h1 => omega); (case hx => assumption); (case hs => with_unfolding_all rfl))))
local macro_rules | `(tactic| walk_at "subscriptTail Name BinOp ref int") => `(tactic| (k_here; k_dflt (refine' at_line ?N ?hm ?h0 ?h1 ?hx ?_ ?hs; (case N => k_asm); (case hm => k_mem); (case h0 => omega); (case h1 => omega); (case hx => assumption); (case hs => with_unfolding_all rfl))))
local macro_rules | `(tactic| walk_at "subscriptTail Subscript Constant ref int") => `(tactic| (k_here; k_dflt (refine' tup_line ?N ?hm ?a ?b ?hj ?hx ?_ ?hs; (case N => k_asm); (case hm => k_mem); (case a => decide); (case b => decide); (case hj => rfl); (case hx => rfl); (case hs => with_unfolding_all rfl))))
theorem stx_tell (w : World) (mg mb) (x : Str) (t : Tok) (pos : Int) (tp : Tok) (y : Str) (u : Tok) (hx : OkT x) (hpos : pos ≤ cellLen x) (ps : Array Value) (htr : TriplesOk ps.toList) (rest : List (Addr × Obj)) (hoff : ∀ p ∈ rest, p.1 ≠ 219) :
    TellG w mg mb 224 20 ((219, tabOf ps) :: rest) [.str x t, .int pos tp, .str y u] (fun news' r => ∃ (T : Addr) (a b : Str) (ta tb : Tok) (ps' : Array Value), r = .ref T ∧ TriplesOk ps'.toList ∧ news' = (T, tupO [.str a ta, .str b tb]) :: (219, tabOf ps') :: rest ∧ SplitOut x pos a b) := by
  walk_at "my_fill"
  unfold TellG
  intro dp un gd fr h₀ L m s Q E G B F X N T hd hu hret
  dsimp only [PR, KK] at *
  walk_at "my_enter"
  have B' := bmodE B (Fr.keep (by assumption : Fr h₀ L _ m))
  have hlen := hx.len
  have hlen2 : x.length = x.cps.size := rfl
  have hlen3 : x.cps.size ≤ 200 := hlen
  have hcl : cellLen x ≤ 400 := by have := (cellsTo_bd x x.cps.size).2; exact Int.le_trans this (by omega)
  k_steps
  · exact hret _ _ _ _ _ (by assumption) (by assumption) (by assumption) (by walk_at "keep_end") ⟨_, _, _, _, _, _, rfl, htr, rfl, .inl ⟨by assumption, rfl, rfl⟩⟩
  · rename SpansIn _ _ _ => sp9
    rename News _ _ _ _ => N1
    obtain ⟨T9, D, its, led, n, e1, e2, e3, e4, e5⟩ := namesS sp9 N1
    subst e1 e2 e3 e4 e5
    rename TopRead _ _ _ _ _ => T1
    rename Frag.In _ _ => X1
    obtain ⟨bm, ob, M1⟩ := B'
    rename (∀ p ∈ led, _) => cl9
    have hits : its.length = (spn x).length := sp9.len
    have hlit : its.length ≤ 200 := by rw [hits]; exact Nat.le_trans (spansTo_len _ _) hlen3
    have hb := fdiv_bd (a := pos) (n := (its.length : Int)) (b := cellLen x) (by omega) hpos (by omega)
    obtain ⟨k, hk⟩ := Int.eq_ofNat_of_zero_le hb.1
    have hkl : k ≤ its.length := by omega
    have hPn : ∀ p ∈ (D, W.listOf its.toArray n) :: (led ++ rest), p.1 ≠ 219 := st_off N1 cl9 hoff
    replace N1 : News _ _ _ ((219, tabOf ps) :: (D, W.listOf its.toArray n) :: (led ++ rest)) := fun p hp => N1 p (sub_st p hp)
    refine' gexp_core (P := 219) (c := 223) (news := (D, W.listOf its.toArray n) :: (led ++ rest)) (mg := mg) (its.take k).toArray.size (fun i v => (its.take k).toArray[i]? = some v) (fun i => ((spn x).getD i (0, 0, 0)).2.2) rfl rfl (by with_unfolding_all rfl) (by decide) rfl rfl rfl ?room rfl rfl M1 T1.nolimit (fun h hk ps' hP htr' => code223 (X1.keeps hk) hP htr') htr hPn ?gens ?iter ?elt ?pi ?q ?hs
    case room => ktr_room
    case gens => assumption
    case iter =>
      k_steps
      rename News _ _ _ _ => NN
      have e : slicePick its.toArray none (some ((pos * ↑its.length).fdiv (cellLen x))) none = (its.take k).toArray := by rw [hk, slicePick_upto _ _ (by simpa using hkl)]
      rw [e] at NN
      rotate_left 2
      exact iter_list (by assumption) NN (.head _) (fun p hp => .tail _ hp) (by rfl)
    case pi => exact fun i v h => (Array.getElem?_eq_some_iff.mp h).1
    case hs => intro _; with_unfolding_all rfl
    case elt =>
      rintro C code A' E' i v t' m₂ hA hD hU hv hi F2 hm N2
      obtain ⟨T, a, b, c, e, hTm⟩ := span_at sp9 hv
      subst e
      exact span_elt hA F2 hm N2 (.tail _ (List.mem_append_left _ hTm))
    case q =>
      intro a h' tk gs ps' htr' G' F' N' S'
      rw [List.size_toArray, List.length_take, Nat.min_eq_left hkl, preW_range _ _ (by omega)] at S'
      walk_at "steps_while"
      rename News _ _ _ _ => N3
      rename Fr _ _ _ _ => F3
      rename AllBare _ => G3
      have hposi : 0 < pos := by omega
      have hle : k ≤ (spn x).length := by omega
      rw [hk] at F3
      clear hk hb
      refine' ksw_while (σ := (Nat × Tok) × Tok) (fun c => (219, tabOf ps') :: (D, W.listOf its.toArray n) :: (led ++ rest)) (fun c => [(Str.ofString "offset", .int c.1.1 c.1.2), (Str.ofString "left_size", .int (preW (spn x) c.1.1) c.2)]) (fun _ => True) [Str.ofString "start", Str.ofString "end", Str.ofString "cell_size", Str.ofString "split_index"]
        (fun c => c.1.1 ≤ (spn x).length) (fun c => if preW (spn x) c.1.1 < pos then (spn x).length - c.1.1 + 1 else if pos < preW (spn x) c.1.1 then c.1.1 + 1 else 0) ((k, _), _) F3 N3 trivial ?kk hle ?kt ?kE
      case kk => (refine List.forall_mem_cons.mpr ⟨?_, List.forall_mem_cons.mpr ⟨?_, List.forall_mem_nil _⟩⟩ <;> with_unfolding_all exact rfl)
      case kE => passes_own
      case kt =>
        rintro ⟨⟨off, t1⟩, t2⟩ u h tk _ hol F₁ N₁
        dsimp only at hol F₁ N₁
        have hAll := preW_all x
        rcases Int.lt_trichotomy (preW (spn x) off) pos with hlt | heq | hgt
        · have hol' : off < (spn x).length := Nat.lt_of_le_of_ne hol (fun e => by rw [e, hAll] at hlt; omega)
          have ep : (spn x)[off]? = some (spn x)[off] := List.getElem?_eq_getElem hol'
          generalize (spn x)[off] = p at ep
          obtain ⟨T, ta, tb', tc, eT, hTm⟩ := sp9.at ep
          have eT' : its[((off : Nat) : Int).toNat]? = some (.ref T) := by simpa using eT
          have hw := preW_succ ep
          replace N₁ := dupN3 N₁ hTm
          k_steps
          · exfalso; omega
          · rename News _ _ _ _ => NN
            exact hret _ _ _ _ _ (by assumption) (by assumption) (st_keep NN) (by walk_at "keep_end") ⟨_, _, _, _, _, _, rfl, htr', rfl, .inr (.inr (.inr ⟨hposi, off, p, ep, hlt, by omega, rfl, rfl⟩))⟩
          · rename News _ _ _ _ => NN
            rename Fr _ _ _ _ => FF
            rw [← hw] at FF
            refine' ksw_end ((off + 1, _), _) FF NN (st_sub3) trivial ?kk ?kr ?kp ?km
            case kk => (refine List.forall_mem_cons.mpr ⟨?_, List.forall_mem_cons.mpr ⟨?_, List.forall_mem_nil _⟩⟩ <;> with_unfolding_all exact rfl)
            case kr => walk_at "km_same2"
            case kp => exact hol'
            case km => (dsimp only; rw [if_pos hlt]; split <;> (try split) <;> omega)
        · by_cases hol' : off < (spn x).length
          · have ep : (spn x)[off]? = some (spn x)[off] := List.getElem?_eq_getElem hol'
            generalize (spn x)[off] = p at ep
            obtain ⟨T, ta, tb', tc, eT, hTm⟩ := sp9.at ep
            have eT' : its[((off : Nat) : Int).toNat]? = some (.ref T) := by simpa using eT
            replace N₁ := dupN3 N₁ hTm
            k_steps
            all_goals try (exfalso; omega)
            all_goals (rename News _ _ _ _ => NN; exact hret _ _ _ _ _ (by assumption) (by assumption) (st_keep NN) (by walk_at "keep_end") ⟨_, _, _, _, _, _, rfl, htr', rfl, .inr (.inr (.inl ⟨hposi, off, p, ep, heq, rfl, rfl⟩))⟩)
          · have eo : off = (spn x).length := by omega
            k_steps
            all_goals try (exfalso; omega)
            all_goals (rename News _ _ _ _ => NN; exact hret _ _ _ _ _ (by assumption) (by assumption) (st_keep2 NN) (by walk_at "keep_end") ⟨_, _, _, _, _, _, rfl, htr', rfl, .inr (.inl ⟨hposi, by rw [← eo]; exact heq, rfl, rfl⟩)⟩)
        · have h0 : off ≠ 0 := fun e => by rw [e] at hgt; have : preW (spn x) 0 = 0 := rfl; omega
          obtain ⟨k', rfl⟩ := Nat.exists_eq_succ_of_ne_zero h0
          rw [Nat.succ_eq_add_one] at *
          have hol' : k' < (spn x).length := hol
          have ep : (spn x)[k']? = some (spn x)[k'] := List.getElem?_eq_getElem hol'
          generalize (spn x)[k'] = p at ep
          obtain ⟨T, ta, tb', tc, eT, hTm⟩ := sp9.at ep
          have e1 : ((k' + 1 : Nat) : Int) - 1 = (k' : Int) := by omega
          have eT' : its[(((k' + 1 : Nat) : Int) - 1).toNat]? = some (.ref T) := by rw [e1]; simpa using eT
          have hw := preW_succ ep
          have e2 : preW (spn x) (k' + 1) - p.2.2 = preW (spn x) k' := by omega
          replace N₁ := dupN3 N₁ hTm
          k_steps
          · exfalso; omega
          · rename News _ _ _ _ => NN
            exact hret _ _ _ _ _ (by assumption) (by assumption) (st_keep NN) (by walk_at "keep_end") ⟨_, _, _, _, _, _, rfl, htr', rfl, .inr (.inr (.inr ⟨hposi, k', p, ep, by omega, by omega, rfl, rfl⟩))⟩
          · rename News _ _ _ _ => NN
            rename Fr _ _ _ _ => FF
            rw [e2, e1] at FF
            refine' ksw_end ((k', _), _) FF NN (st_sub3) trivial ?kk ?kr ?kp ?km
            case kk => (refine List.forall_mem_cons.mpr ⟨?_, List.forall_mem_cons.mpr ⟨?_, List.forall_mem_nil _⟩⟩ <;> with_unfolding_all exact rfl)
            case kr => walk_at "km_same2"
            case kp => exact Nat.le_of_lt hol'
            case km => (dsimp only; rw [if_neg (by omega), if_pos hgt]; split <;> (try split) <;> omega)
end
end Mine
end
namespace Mine
section
local macro_rules | `(tactic| walk_at "mine_nothing") => `(tactic| skip)
theorem fresh_SS : True ∧ True := by
  w_top off
  first | (walk1; fail "on") | exact ⟨trivial, trivial⟩
end
end Mine
section
open PySem PySem.W PyProof.Rows PySem.Calls PySem.Spec PyProof.V
set_option Elab.async false
set_option maxRecDepth 100000
set_option maxHeartbeats 0
namespace Mine
local macro_rules | `(tactic| walk_at "my_enter") => `(tactic| (refine wpAny_call ?_; walk_at "my_code"))
local macro_rules | `(tactic| walk_at "my_code") => `(tactic| (k_dflt (refine' code_q ?k1 ?k2 ?k3 ?k4 ?k6 ?k7 ?k8 ?k9 ?kB ?_ ?c2 ?c3 ?c4 ?c5; (case k1 => k_asm); (case k2 => k_asm); (case k3 => k_asm); (case k4 => k_asm); (case k6 => k_is); (case k7 => k_is); (case k8 => ktr_room); (case k9 => first | exact BindsTo.of_eq rfl | exact binds_K (by k_in) rfl (by k_is) rfl rfl rfl); (case c5 => decide); (case kB => exact locs rfl); (case c2 => exact rfl); (case c3 => exact rfl); (case c4 => exact rfl); k_whole; intro g' L' h' FG' F' N' kp' X' T' lt'; (try dsimp only); (try k_fold))))
local macro_rules | `(tactic| ktr_room) => `(tactic| ((try simp only [depth_under_make, depth_under_kw, depth_in1, depth_deeper, depth_caller]); (try dsimp only [qTop]); omega))
local macro_rules | `(tactic| ktr_units) => `(tactic| ((try simp only [units_in1, units_deeper, Around.mark_units, units_caller]); (try dsimp only [qTop]); omega))
local macro_rules | `(tactic| walk_at "my_fill") => `(tactic| ((have hkk : PySem.Challenge.rw_ey0020_01 = PySem.Challenge.rw_ey0020_01 ∧ hd.heap_39 = hd.heap_39 := by (k_fill; exact ⟨rfl, rfl⟩)); clear hkk))
local macro_rules | `(tactic| walk_at "km_same") => `(tactic| (intro z; intros; rename_i hs; simp only [List.contains_cons, List.contains_nil, Bool.or_false, Bool.or_eq_false_iff, beq_eq_false_iff_ne, ne_eq] at hs; simp [kstB, *]))
local macro_rules | `(tactic| walk_at "km_same2") => `(tactic| (intro z hz hs; simp only [List.contains_cons, List.contains_nil, Bool.or_false, Bool.or_eq_false_iff, beq_eq_false_iff_ne, ne_eq] at hs; simp only [List.forall_mem_cons, List.not_mem_nil, false_imp_iff, implies_true, and_true, ne_eq] at hz; simp [kstB, hz, hs]))
local macro_rules | `(tactic| walk_at "km_same3") => `(tactic| (intro z hx hz hs; simp only [List.contains_cons, List.contains_nil, Bool.or_false, Bool.or_eq_false_iff, beq_eq_false_iff_ne, ne_eq] at hs; simp only [List.forall_mem_cons, List.not_mem_nil, false_imp_iff, implies_true, and_true, ne_eq] at hz; simp [kstB, hx, hz, hs]))
local macro_rules | `(tactic| walk_at "tell_args") => `(tactic| ((case k2 => k_asm); (case k3 => k_asm); (case k4 => k_asm); (case k5 => k_asm); (case kd => ktr_room); (case ku => ktr_units)))
local macro_rules | `(tactic| walk_at "keep_end") => `(tactic| exact KeepsBut.then (by assumption) (by assumption))
local macro_rules | `(tactic| walk_at "steps_while") => `(tactic| repeat' ((fail_if_success (with_reducible show wpAny _ _ (exec (Stmt.While _ _ _ _) _) _ _ _)); (first | (k_unfold; (try dsimp only)) | (k_end; wrow_close) | walk1 | (dsimp only; walk1) | (leave1; walk_say "STEP leave1"; try dsimp only) | fail "no step")))
theorem off_two {P P' : Addr} {o : Obj} {rest : List (Addr × Obj)} (h : ∀ p ∈ rest, p.1 ≠ P) (hn : P' ≠ P) : ∀ p ∈ (P', o) :: rest, p.1 ≠ P := List.forall_mem_cons.mpr ⟨hn, h⟩
def SetOut (x : Str) (tot : Int) (z : Str) : Prop :=
  (allSingle x = true ∧ (((x.length : Int) < tot ∧ z = x ++ Txt.mul (Str.ofString " ") (tot - x.length)) ∨ (tot ≤ x.length ∧ z = Txt.slice x none (some tot)))) ∨
  (allSingle x = false ∧ ((tot ≤ 0 ∧ z = Str.ofString "") ∨ (0 < tot ∧ ((cellLen x = tot ∧ z = x) ∨ (cellLen x < tot ∧ z = x ++ Txt.mul (Str.ofString " ") (tot - cellLen x)) ∨ (tot < cellLen x ∧ ∃ b, SplitOut x tot z b)))))
def SplitAll (x : Str) (pos : Int) (a b : Str) : Prop :=
  (allSingle x = true ∧ a = Txt.slice x none (some pos) ∧ b = Txt.slice x (some pos) none) ∨ (allSingle x = false ∧ SplitOut x pos a b)
section
local macro_rules | `(tactic| walk_at "call ref") => `(tactic| (k_here; (with_reducible show wpAny _ _ (call (Value.ref 177) [Value.str _ _]) _ _ _); k_dflt (refine' tell_use (single_tell _ _ _ _ _ _) ?k2 ?k3 ?k4 ?k5 ?kd ?ku ?_; walk_at "tell_args"); intro r9 news9 h9 tk9 F9 N9 K9 P9; obtain ⟨e9, e8⟩ := P9; subst e9; subst e8))
local macro_rules | `(tactic| walk_at "call ref") => `(tactic| (k_here; (with_reducible show wpAny _ _ (call (Value.ref 224) [Value.str _ _, Value.int _ _, Value.str _ _]) _ _ _); k_dflt (refine' tellG_use (stx_tell _ _ _ _ _ _ _ _ _ ?hx ?hp _ ?htr _ ?hoff) ?kG ?kB ?k2 ?k3 ?k4 ?k5 ?kd ?ku ?_; (case k4 => first | assumption | exact swapN (by assumption)); (case hx => k_asm); (case hp => first | assumption | omega); (case htr => k_asm); (case hoff => first | assumption | exact off_two (by assumption) (by decide)); (case kG => k_asm); (case kB => k_asm); (case k2 => k_asm); (case k3 => k_asm); (case k5 => k_asm); (case kd => ktr_room); (case ku => ktr_units)); intro r9 news9 h9 tk9 gs9 G9 F9 N9 K9 P9; obtain ⟨T9, a9, b9, ta9, tb9, ps9, e9, htr9, e8, so9⟩ := P9; subst e9; subst e8))
theorem split_tell (w : World) (mg mb) (x : Str) (t : Tok) (pos : Int) (tp : Tok) (hx : OkT x) (hpos : pos ≤ cellLen x) (ps : Array Value) (htr : TriplesOk ps.toList) (rest : List (Addr × Obj)) (hoff : ∀ p ∈ rest, p.1 ≠ 219) :
    TellG w mg mb 232 24 ((219, tabOf ps) :: rest) [.str x t, .int pos tp] (fun news' r => ∃ (T : Addr) (a b : Str) (ta tb : Tok) (ps' : Array Value), r = .ref T ∧ TriplesOk ps'.toList ∧ news' = (T, tupO [.str a ta, .str b tb]) :: (219, tabOf ps') :: rest ∧ SplitAll x pos a b) := by
  walk_at "my_fill"
  unfold TellG
  intro dp un gd fr h₀ L m s Q E G B F X N T hd hu hret
  dsimp only [PR, KK] at *
  walk_at "my_enter"
  have B' := bmodE B (Fr.keep (by assumption : Fr h₀ L _ m))
  have hlen := hx.len
  k_steps
  · rename News _ _ _ _ => NN
    refine hret _ _ _ _ _ (by assumption) (by assumption) NN (by walk_at "keep_end") ?_
    refine ⟨_, _, _, _, _, _, rfl, htr, rfl, ?_⟩
    rename (allSingle x = true) => ha
    exact Or.inl ⟨ha, rfl, rfl⟩
  · rename News _ _ _ _ => NN
    rename SplitOut _ _ _ _ => so
    rename (allSingle x = false) => ha
    refine hret _ _ _ _ _ (by assumption) (by assumption) NN (by walk_at "keep_end") ?_
    refine ⟨_, _, _, _, _, _, rfl, ?_, rfl, ?_⟩
    · assumption
    · exact Or.inr ⟨ha, so⟩
end
section
local macro_rules | `(tactic| walk_at "call ref") => `(tactic| (k_here; (with_reducible show wpAny _ _ (call (Value.ref 177) [Value.str _ _]) _ _ _); k_dflt (refine' tell_use (single_tell _ _ _ _ _ _) ?k2 ?k3 ?k4 ?k5 ?kd ?ku ?_; walk_at "tell_args"); intro r9 news9 h9 tk9 F9 N9 K9 P9; obtain ⟨e9, e8⟩ := P9; subst e9; subst e8))
local macro_rules | `(tactic| walk_at "call ref") => `(tactic| (k_here; (with_reducible show wpAny _ _ (call (Value.ref 224) [Value.str _ _, Value.int _ _, Value.str _ _]) _ _ _); k_dflt (refine' tellG_use (stx_tell _ _ _ _ _ _ _ _ _ ?hx ?hp _ ?htr _ ?hoff) ?kG ?kB ?k2 ?k3 ?k4 ?k5 ?kd ?ku ?_; (case k4 => first | assumption | exact swapN (by assumption)); (case hx => k_asm); (case hp => first | assumption | omega); (case htr => k_asm); (case hoff => first | assumption | exact off_two (by assumption) (by decide)); (case kG => k_asm); (case kB => k_asm); (case k2 => k_asm); (case k3 => k_asm); (case k5 => k_asm); (case kd => ktr_room); (case ku => ktr_units)); intro r9 news9 h9 tk9 gs9 G9 F9 N9 K9 P9; obtain ⟨T9, a9, b9, ta9, tb9, ps9, e9, htr9, e8, so9⟩ := P9; subst e9; subst e8))
local macro_rules | `(tactic| walk_at "call ref") => `(tactic| (k_here; (with_reducible show wpAny _ _ (call (Value.ref 201) [Value.str _ _]) _ _ _); k_dflt (refine' tellG_use (celllen_tell _ _ _ _ _ ?hx _ ?htr _ ?hoff) ?kG ?kB ?k2 ?k3 ?k4 ?k5 ?kd ?ku ?_; (case k4 => exact swapN (by assumption)); (case hx => k_asm); (case htr => k_asm); (case hoff => exact off_two (by assumption) (by decide)); (case kG => k_asm); (case kB => k_asm); (case k2 => k_asm); (case k3 => k_asm); (case k5 => k_asm); (case kd => ktr_room); (case ku => ktr_units)); intro r9 news9 h9 tk9 gs9 G9 F9 N9 K9 P9; obtain ⟨ps9, htr9, e9, t9, e8⟩ := P9; subst e9; subst e8))
theorem set_tell (w : World) (mg mb) (x : Str) (t : Tok) (tot : Int) (tp : Tok) (hx : OkT x) (htot : 0 ≤ tot ∧ tot ≤ 1000) (ps qs : Array Value) (htr : TriplesOk ps.toList) (hqs : TriplesOk qs.toList) (rest : List (Addr × Obj)) (hoff : ∀ p ∈ rest, p.1 ≠ 219) (hoff2 : ∀ p ∈ rest, p.1 ≠ 203) :
    TellG w mg mb 240 24 ((219, tabOf ps) :: (203, tabOf qs) :: rest) [.str x t, .int tot tp] (fun news' r => ∃ (z : Str) (tz : Tok) (ps' qs' : Array Value), r = .str z tz ∧ TriplesOk ps'.toList ∧ TriplesOk qs'.toList ∧ news' = (219, tabOf ps') :: (203, tabOf qs') :: rest ∧ SetOut x tot z) := by
  walk_at "my_fill"
  unfold TellG
  intro dp un gd fr h₀ L m s Q E G B F X N T hd hu hret
  dsimp only [PR, KK] at *
  walk_at "my_enter"
  have B' := bmodE B (Fr.keep (by assumption : Fr h₀ L _ m))
  have hlen := hx.len
  have hcl : cellLen x ≤ 400 := by have := (cellsTo_bd x x.cps.size).2; exact Int.le_trans this (by have := hx.len; have e : x.length = x.cps.size := rfl; omega)
  have hcl0 : 0 ≤ cellLen x := (cellsTo_bd x x.cps.size).1
  k_steps
  · rename News _ _ _ _ => NN
    rename (allSingle x = true) => ha
    refine hret _ _ _ _ _ (by assumption) (by assumption) NN (by walk_at "keep_end") ?_
    refine ⟨_, _, _, _, rfl, ?_, ?_, rfl, ?_⟩
    · assumption
    · assumption
    · exact Or.inl ⟨ha, Or.inl ⟨by omega, rfl⟩⟩
  · rename News _ _ _ _ => NN
    rename (allSingle x = true) => ha
    refine hret _ _ _ _ _ (by assumption) (by assumption) NN (by walk_at "keep_end") ?_
    refine ⟨_, _, _, _, rfl, ?_, ?_, rfl, ?_⟩
    · assumption
    · assumption
    · exact Or.inl ⟨ha, Or.inr ⟨by omega, rfl⟩⟩
  · rename News _ _ _ _ => NN
    rename (allSingle x = false) => ha
    refine hret _ _ _ _ _ (by assumption) (by assumption) NN (by walk_at "keep_end") ?_
    refine ⟨_, _, _, _, rfl, ?_, ?_, rfl, ?_⟩
    · assumption
    · assumption
    · exact Or.inr ⟨ha, Or.inl ⟨by omega, rfl⟩⟩
  · rename News _ _ _ _ => NN
    replace NN := swapN NN
    rename (allSingle x = false) => ha
    refine hret _ _ _ _ _ (by assumption) (by assumption) NN (by walk_at "keep_end") ?_
    refine ⟨_, _, _, _, rfl, ?_, ?_, rfl, ?_⟩
    · assumption
    · assumption
    · exact Or.inr ⟨ha, Or.inr ⟨by omega, Or.inl ⟨by omega, rfl⟩⟩⟩
  · rename News _ _ _ _ => NN
    replace NN := swapN NN
    rename (allSingle x = false) => ha
    refine hret _ _ _ _ _ (by assumption) (by assumption) NN (by walk_at "keep_end") ?_
    refine ⟨_, _, _, _, rfl, ?_, ?_, rfl, ?_⟩
    · assumption
    · assumption
    · exact Or.inr ⟨ha, Or.inr ⟨by omega, Or.inr (Or.inl ⟨by omega, rfl⟩)⟩⟩
  · rename News _ _ _ _ => NN
    replace NN := kti_tail NN
    rename SplitOut _ _ _ _ => so
    rename (allSingle x = false) => ha
    refine hret _ _ _ _ _ (by assumption) (by assumption) NN (by walk_at "keep_end") ?_
    refine ⟨_, _, _, _, rfl, ?_, ?_, rfl, ?_⟩
    · assumption
    · assumption
    · exact Or.inr ⟨ha, Or.inr ⟨by omega, Or.inr (Or.inr ⟨by omega, _, so⟩)⟩⟩
end
end Mine
end
namespace Mine
section
local macro_rules | `(tactic| walk_at "mine_nothing") => `(tactic| skip)
theorem fresh_L1 : True ∧ True := by
  w_top off
  first | (walk1; fail "on") | exact ⟨trivial, trivial⟩
end
end Mine
section
open PySem PySem.W PyProof.Rows PySem.Calls PySem.Spec PyProof.V
set_option Elab.async false
set_option maxRecDepth 100000
set_option maxHeartbeats 0
namespace Mine
local macro_rules | `(tactic| walk_at "my_enter") => `(tactic| (refine wpAny_call ?_; walk_at "my_code"))
local macro_rules | `(tactic| walk_at "my_code") => `(tactic| (k_dflt (refine' code_q ?k1 ?k2 ?k3 ?k4 ?k6 ?k7 ?k8 ?k9 ?kB ?_ ?c2 ?c3 ?c4 ?c5; (case k1 => k_asm); (case k2 => k_asm); (case k3 => k_asm); (case k4 => k_asm); (case k6 => k_is); (case k7 => k_is); (case k8 => ktr_room); (case k9 => first | exact BindsTo.of_eq rfl | exact binds_K (by k_in) rfl (by k_is) rfl rfl rfl); (case c5 => decide); (case kB => exact locs rfl); (case c2 => exact rfl); (case c3 => exact rfl); (case c4 => exact rfl); k_whole; intro g' L' h' FG' F' N' kp' X' T' lt'; (try dsimp only); (try k_fold))))
local macro_rules | `(tactic| ktr_room) => `(tactic| ((try simp only [depth_under_make, depth_under_kw, depth_in1, depth_deeper, depth_caller]); (try dsimp only [qTop]); omega))
local macro_rules | `(tactic| ktr_units) => `(tactic| ((try simp only [units_in1, units_deeper, Around.mark_units, units_caller]); (try dsimp only [qTop]); omega))
local macro_rules | `(tactic| walk_at "my_fill") => `(tactic| ((have hkk : PySem.Challenge.rw_ey0020_01 = PySem.Challenge.rw_ey0020_01 ∧ hd.heap_39 = hd.heap_39 := by (k_fill; exact ⟨rfl, rfl⟩)); clear hkk))
local macro_rules | `(tactic| walk_at "km_same") => `(tactic| (intro z; intros; rename_i hs; simp only [List.contains_cons, List.contains_nil, Bool.or_false, Bool.or_eq_false_iff, beq_eq_false_iff_ne, ne_eq] at hs; simp [kstB, *]))
local macro_rules | `(tactic| walk_at "km_same2") => `(tactic| (intro z hz hs; simp only [List.contains_cons, List.contains_nil, Bool.or_false, Bool.or_eq_false_iff, beq_eq_false_iff_ne, ne_eq] at hs; simp only [List.forall_mem_cons, List.not_mem_nil, false_imp_iff, implies_true, and_true, ne_eq] at hz; simp [kstB, hz, hs]))
local macro_rules | `(tactic| walk_at "km_same3") => `(tactic| (intro z hx hz hs; simp only [List.contains_cons, List.contains_nil, Bool.or_false, Bool.or_eq_false_iff, beq_eq_false_iff_ne, ne_eq] at hs; simp only [List.forall_mem_cons, List.not_mem_nil, false_imp_iff, implies_true, and_true, ne_eq] at hz; simp [kstB, hx, hz, hs]))
local macro_rules | `(tactic| walk_at "tell_args") => `(tactic| ((case k2 => k_asm); (case k3 => k_asm); (case k4 => k_asm); (case k5 => k_asm); (case kd => ktr_room); (case ku => ktr_units)))
local macro_rules | `(tactic| walk_at "keep_end") => `(tactic| exact KeepsBut.then (by assumption) (by assumption))
local macro_rules | `(tactic| walk_at "steps_while") => `(tactic| repeat' ((fail_if_success (with_reducible show wpAny _ _ (exec (Stmt.While _ _ _ _) _) _ _ _)); (first | (k_unfold; (try dsimp only)) | (k_end; wrow_close) | walk1 | (dsimp only; walk1) | (leave1; walk_say "STEP leave1"; try dsimp only) | fail "no step")))
theorem law_size : ∀ n ∈ signsL, ((([Str.ofString "中", Str.ofString "한", Str.ofString "Ａ"].any fun x => x == ⟨#[n]⟩) = true → cellSize n = 2) ∧
    (([Str.ofString "中", Str.ofString "한", Str.ofString "Ａ"].any fun x => x == ⟨#[n]⟩) = false → ([Str.ofString "\u0301", Str.ofString "\u200b"].any fun x => x == ⟨#[n]⟩) = true → cellSize n = 0) ∧
    (([Str.ofString "中", Str.ofString "한", Str.ofString "Ａ"].any fun x => x == ⟨#[n]⟩) = false → ([Str.ofString "\u0301", Str.ofString "\u200b"].any fun x => x == ⟨#[n]⟩) = false → cellSize n = 1)) := by decide +kernel
theorem size_tell (w : World) (mg mb) (n : Nat) (hn : n ∈ signsL) (t : Tok) (news) : Tell w mg mb 259 3 news [.str ⟨#[n]⟩ t] (fun news' r => news' = news ∧ ∃ t, r = .int (cellSize n) t) := by
  walk_at "my_fill"
  unfold Tell
  intro dp un gd fr h₀ L m s Q E F X N T hd hu hret
  dsimp only [PR, KK] at *
  walk_at "my_enter"
  obtain ⟨l1, l2, l3⟩ := law_size n hn
  k_steps
  · rename (List.any _ _ = true) => ha
    rename News _ _ _ _ => NN
    exact hret _ _ _ _ (by assumption) (fun p hp => NN p (by simp [hp])) (by walk_at "keep_end") ⟨rfl, _, by rw [l1 ha]⟩
  · rename (List.any _ _ = true) => ha
    rename (List.any _ _ = false) => hb
    rename News _ _ _ _ => NN
    exact hret _ _ _ _ (by assumption) (fun p hp => NN p (by simp [hp])) (by walk_at "keep_end") ⟨rfl, _, by rw [l2 hb ha]⟩
  · rename (List.any _ _ = false) => ha
    rename (List.any [_, _, _] _ = false) => hb
    rename News _ _ _ _ => NN
    exact hret _ _ _ _ (by assumption) (fun p hp => NN p (by simp [hp])) (by walk_at "keep_end") ⟨rfl, _, by rw [l3 hb ha]⟩
def plainL : List Nat := [97, 98, 32, 99, 233]
def allPlain (x : Str) : Bool := x.cps.all fun c => plainL.contains c
theorem plain_filter (x : Str) : (((signs x).filter fun a => !!(Builtin.Str.occurrences (Str.ofString "ab cé") a 0 (Str.ofString "ab cé").length 1).isEmpty) = []) ↔ allPlain x = true := by
  have key : ∀ c : Nat, (!(Builtin.Str.occurrences (Str.ofString "ab cé") ⟨#[c]⟩ 0 (Str.ofString "ab cé").length 1).isEmpty) = plainL.contains c := by
    intro c
    rw [StrLaws.found_one]
    have e : (Str.ofString "ab cé").cps.toList = plainL := by decide
    rw [e, Bool.eq_iff_iff]
    simp
  rw [List.filter_eq_nil_iff]
  unfold signs allPlain
  simp only [List.mem_map, forall_exists_index, and_imp, forall_apply_eq_imp_iff₂, key]
  rw [← Array.all_toList, List.all_eq_true]
  simp
section
variable {w : World} {A : Around} {E : Value → Shared → Prop} {s : Shared} {h₀ : Heap} {L D D' : Addr} {m : Str → Option Value} {news news' : List (Addr × Obj)}
theorem eq_nil {vs : List Value} {n k : Nat} {b : Bool} {Q : Value → Shared → Prop} (N : News h₀ L s.heap news) (h1 : (D, W.listOf vs.toArray n) ∈ news) (h2 : (D', W.listOf #[] k) ∈ news) (hu : A.units < cLine) (hb : vs = [] ↔ b = true) (h : Q (.bool b) s) :
    wpAny (model PR w) A (compareOp .Eq (.ref D) (.ref D')) Q E s := by
  cases b with
  | true =>
    have := hb.mpr rfl
    subst this
    exact SeqAt.eq_listAt (e := fun _ => true) (N.isList h1) (N.isList h2) rfl hu (fun j hj => absurd hj (by simp)) (by simpa using h)
  | false =>
    have : vs ≠ [] := fun e => by cases hb.mp e
    refine SeqAt.eq_list_lengthsAt (N.isList h1) (N.isList h2) ?_ hu h
    simp [this]
end
section
local macro_rules | `(tactic| walk_at "compareOp Eq ref ref") => `(tactic| (k_here; (rename CarriedAll _ _ => hc9); k_dflt (refine' eq_nil ?N ?a ?b ?hu ?hb ?_; (case N => k_asm); (case a => k_mem); (case b => k_mem); (case hu => ktr_units); (case hb => exact (carried_nil hc9).trans (plain_filter _)))))
theorem carried_nil {ys : List Value} {l : List Str} (h : CarriedAll ys (l.map PyData.str)) : ys = [] ↔ l = [] := by
  have := h.length_eq
  constructor
  · intro e; subst e; simpa using this.symm
  · intro e; subst e; simpa using this
theorem plain_tell (w : World) (mg mb) (x : Str) (hx : OkT x) (t : Tok) (news) : Tell w mg mb 283 3 news [.str x t] (fun news' r => news' = news ∧ r = .bool (allPlain x)) := by
  walk_at "my_fill"
  unfold Tell
  intro dp un gd fr h₀ L m s Q E F X N T hd hu hret
  dsimp only [PR, KK] at *
  walk_at "my_enter"
  have hlen := hx.len
  k_steps
  rename News _ _ _ _ => NN
  rename CarriedAll _ _ => hc9
  refine eq_nil NN (.tail _ (.head _)) (.head _) ?hu ((carried_nil hc9).trans (plain_filter _)) ?_
  case hu => ktr_units
  k_steps
  rename News _ _ _ _ => NN
  exact hret _ _ _ _ (by assumption) (fun p hp => NN p (by simp [hp])) (by walk_at "keep_end") ⟨rfl, rfl⟩
end
end Mine
end
namespace Mine
section
local macro_rules | `(tactic| walk_at "mine_nothing") => `(tactic| skip)
theorem fresh_LD : True ∧ True := by
  w_top off
  first | (walk1; fail "on") | exact ⟨trivial, trivial⟩
end
end Mine
section
open PySem PySem.W PyProof.Rows PySem.Calls PySem.Spec PyProof.V
set_option Elab.async false
set_option maxRecDepth 100000
set_option maxHeartbeats 0
namespace Mine
local macro_rules | `(tactic| walk_at "my_enter") => `(tactic| (refine wpAny_call ?_; walk_at "my_code"))
local macro_rules | `(tactic| walk_at "my_code") => `(tactic| (k_dflt (refine' code_q ?k1 ?k2 ?k3 ?k4 ?k6 ?k7 ?k8 ?k9 ?kB ?_ ?c2 ?c3 ?c4 ?c5; (case k1 => k_asm); (case k2 => k_asm); (case k3 => k_asm); (case k4 => k_asm); (case k6 => k_is); (case k7 => k_is); (case k8 => ktr_room); (case k9 => first | exact BindsTo.of_eq rfl | exact binds_K (by k_in) rfl (by k_is) rfl rfl rfl); (case c5 => decide); (case kB => exact locs rfl); (case c2 => exact rfl); (case c3 => exact rfl); (case c4 => exact rfl); k_whole; intro g' L' h' FG' F' N' kp' X' T' lt'; (try dsimp only); (try k_fold))))
local macro_rules | `(tactic| ktr_room) => `(tactic| ((try simp only [depth_under_make, depth_under_kw, depth_in1, depth_deeper, depth_caller]); (try dsimp only [qTop]); omega))
local macro_rules | `(tactic| ktr_units) => `(tactic| ((try simp only [units_in1, units_deeper, Around.mark_units, units_caller]); (try dsimp only [qTop]); omega))
local macro_rules | `(tactic| walk_at "my_fill") => `(tactic| ((have hkk : PySem.Challenge.rw_ey0020_01 = PySem.Challenge.rw_ey0020_01 ∧ hd.heap_39 = hd.heap_39 := by (k_fill; exact ⟨rfl, rfl⟩)); clear hkk))
local macro_rules | `(tactic| walk_at "km_same") => `(tactic| (intro z; intros; rename_i hs; simp only [List.contains_cons, List.contains_nil, Bool.or_false, Bool.or_eq_false_iff, beq_eq_false_iff_ne, ne_eq] at hs; simp [kstB, *]))
local macro_rules | `(tactic| walk_at "km_same2") => `(tactic| (intro z hz hs; simp only [List.contains_cons, List.contains_nil, Bool.or_false, Bool.or_eq_false_iff, beq_eq_false_iff_ne, ne_eq] at hs; simp only [List.forall_mem_cons, List.not_mem_nil, false_imp_iff, implies_true, and_true, ne_eq] at hz; simp [kstB, hz, hs]))
local macro_rules | `(tactic| walk_at "km_same3") => `(tactic| (intro z hx hz hs; simp only [List.contains_cons, List.contains_nil, Bool.or_false, Bool.or_eq_false_iff, beq_eq_false_iff_ne, ne_eq] at hs; simp only [List.forall_mem_cons, List.not_mem_nil, false_imp_iff, implies_true, and_true, ne_eq] at hz; simp [kstB, hx, hz, hs]))
local macro_rules | `(tactic| walk_at "tell_args") => `(tactic| ((case k2 => k_asm); (case k3 => k_asm); (case k4 => k_asm); (case k5 => k_asm); (case kd => ktr_room); (case ku => ktr_units)))
local macro_rules | `(tactic| walk_at "keep_end") => `(tactic| exact KeepsBut.then (by assumption) (by assumption))
local macro_rules | `(tactic| walk_at "steps_while") => `(tactic| repeat' ((fail_if_success (with_reducible show wpAny _ _ (exec (Stmt.While _ _ _ _) _) _ _ _)); (first | (k_unfold; (try dsimp only)) | (k_end; wrow_close) | walk1 | (dsimp only; walk1) | (leave1; walk_say "STEP leave1"; try dsimp only) | fail "no step")))
section
local macro_rules | `(tactic| k_all) => `(tactic| assumption)
local macro_rules | `(tactic| walk_at "call builtin:len") => `(tactic| (k_here; k_dflt (refine' len_line ?N ?hm ?hl ?_; (case N => k_asm); (case hm => exact List.mem_cons_of_mem _ (by assumption)); (case hl => omega))))
local macro_rules | `(tactic| walk_at "subscriptTail Name Constant ref int") => `(tactic| (k_here; k_dflt (refine' at_line ?N ?hm ?h0 ?h1 ?hx ?_ ?hs; (case N => k_asm); (case hm => k_mem); (case h0 => decide); (case h1 => decide); (case hx => rfl); (case hs => with_unfolding_all rfl))))
local macro_rules | `(tactic| walk_at "subscriptTail Name Subscript ref int") => `(tactic| (k_here; k_dflt (refine' at_line ?N ?hm ?h0 ?h1 ?hx ?_ ?hs; (case N => k_asm); (case hm => exact List.mem_cons_of_mem _ (by assumption)); (case h0 => omega); (case h1 => omega); (case hx => assumption); (case hs => with_unfolding_all rfl))))
theorem draw_tell (w : World) (mg mb) (S SL : Addr) (i : Int) (ti : Tok) (n : Nat) (vs : List Value) (ns : List Int) (hns : IntsAre vs ns) (k : Nat) (h0 : 0 ≤ i) (hl : ns.length ≤ 63) (many : Int) (hm : 0 < many) (hm2 : many ≤ 1000) (tm : Tok) (rest) (hS : ∀ p ∈ rest, p.1 ≠ S) (hSL : (SL, W.listOf vs.toArray k) ∈ rest) :
    Tell w mg mb 247 3 ((S, W.listOf #[.ref SL, .int i ti] n) :: rest) [.ref S, .int many tm] (fun news' r => ∃ i' ti', news' = (S, W.listOf #[.ref SL, .int i' ti'] n) :: rest ∧ 0 ≤ i' ∧ ∃ v tv, r = .int v tv ∧ 0 ≤ v ∧ v < many) := by
  walk_at "my_fill"
  unfold Tell
  intro dp un gd fr h₀ L m s Q E F X N T hd hu hret
  dsimp only [PR, KK] at *
  walk_at "my_enter"
  have hvl : vs.length = ns.length := hns.length
  by_cases hlt : i < ns.length
  · obtain ⟨j, rfl⟩ := Int.eq_ofNat_of_zero_le h0
    have hj : j < ns.length := by omega
    obtain ⟨tv, hv⟩ := hns.get j (ns[j]) (List.getElem?_eq_getElem hj)
    have hv' : vs[((j : Nat) : Int).toNat]? = some (.int ns[j] tv) := by simpa using hv
    k_steps
    rename News _ _ _ _ => NN
    exact hret _ _ _ _ (by assumption) NN (by walk_at "keep_end") ⟨_, _, rfl, by omega, _, _, rfl, Int.fmod_nonneg_of_pos _ hm, Int.fmod_lt_of_pos _ hm⟩
  · k_steps
    rename News _ _ _ _ => NN
    exact hret _ _ _ _ (by assumption) NN (by walk_at "keep_end") ⟨_, _, rfl, h0, _, _, rfl, Int.le_refl _, hm⟩
end
section
variable {w : World} {dp un : Nat} {gd : Option (List Code)} {fr : Option (List Env)} {E : Value → Shared → Prop} {s : Shared} {h₀ : Heap} {L : Addr} {m mg mb : Str → Option Value} {news pre post : List (Addr × Obj)}
theorem news_mid {h : Heap} {p : Addr × Obj} (N : News h₀ L h (pre ++ p :: post)) : News h₀ L h (p :: (pre ++ post)) := fun q hq => N q (by
  simp only [List.mem_cons, List.mem_append] at hq ⊢
  rcases hq with h | h | h
  · exact .inr (.inl h)
  · exact .inl h
  · exact .inr (.inr h))
theorem mid_news {h : Heap} {p : Addr × Obj} (N : News h₀ L h (p :: (pre ++ post))) : News h₀ L h (pre ++ p :: post) := fun q hq => N q (by
  simp only [List.mem_cons, List.mem_append] at hq ⊢
  rcases hq with h | h | h
  · exact .inr (.inl h)
  · exact .inl h
  · exact .inr (.inr h))
theorem mid_keeps {h h' : Heap} {p : Addr × Obj} (K : KeepsBut (p :: (pre ++ post)) h h') : KeepsBut (pre ++ p :: post) h h' := fun b o hb e => K b o (fun q => hb (by
  simp only [List.map_cons, List.map_append, List.mem_cons, List.mem_append] at q ⊢
  rcases q with h | h | h
  · exact .inr (.inl h)
  · exact .inl h
  · exact .inr (.inr h))) e
theorem draw_at {S SL : Addr} {i : Int} {ti tm : Tok} {n k : Nat} {vs : List Value} {ns : List Int} {many : Int} {Q : Value → Shared → Prop} (F : Fr h₀ L s.heap m) (X : (hd.heap_39 w.params).In h₀) (N : News h₀ L s.heap (pre ++ (S, W.listOf #[.ref SL, .int i ti] n) :: post)) (T : TopRead hd.view_39 LO mg mb h₀)
    (hns : IntsAre vs ns) (hl : ns.length ≤ 63) (h0 : 0 ≤ i) (hm : 0 < many) (hm2 : many ≤ 1000) (hS : ∀ p ∈ pre ++ post, p.1 ≠ S) (hSL : (SL, W.listOf vs.toArray k) ∈ pre ++ post) (hd : dp + 3 < recursionLimit) (hu : un + 8 * 3 < cLine)
    (ret : ∀ i' ti' v tv h' tk', Fr h₀ L h' m → News h₀ L h' (pre ++ (S, W.listOf #[.ref SL, .int i' ti'] n) :: post) → KeepsBut (pre ++ (S, W.listOf #[.ref SL, .int i ti] n) :: post) s.heap h' → 0 ≤ i' → 0 ≤ v → v < many → Q (.int v tv) { s with heap := h', toks := tk' }) :
    wpAny (model Challenge.rw_ey0020_01.row.prog w) (qTop dp un gd fr) (call (.ref 247) [.ref S, .int many tm]) Q E s := by
  refine tell_use (draw_tell w mg mb S SL i ti n vs ns hns k h0 hl many hm hm2 tm (pre ++ post) hS hSL) F X (news_mid N) T hd hu fun r news' h' tk' F' N' K' P' => ?_
  obtain ⟨i', ti', rfl, hi, v, tv, rfl, hv0, hv1⟩ := P'
  exact ret i' ti' v tv h' tk' F' (mid_news N') (mid_keeps K') hi hv0 hv1
end
end Mine
end
namespace Mine
section
local macro_rules | `(tactic| walk_at "mine_nothing") => `(tactic| skip)
theorem fresh_LC : True ∧ True := by
  w_top off
  first | (walk1; fail "on") | exact ⟨trivial, trivial⟩
end
end Mine
section
open PySem PySem.W PyProof.Rows PySem.Calls PySem.Spec PyProof.V
set_option Elab.async false
set_option maxRecDepth 100000
set_option maxHeartbeats 0
namespace Mine
local macro_rules | `(tactic| walk_at "my_enter") => `(tactic| (refine wpAny_call ?_; walk_at "my_code"))
local macro_rules | `(tactic| walk_at "my_code") => `(tactic| (k_dflt (refine' code_q ?k1 ?k2 ?k3 ?k4 ?k6 ?k7 ?k8 ?k9 ?kB ?_ ?c2 ?c3 ?c4 ?c5; (case k1 => k_asm); (case k2 => k_asm); (case k3 => k_asm); (case k4 => k_asm); (case k6 => k_is); (case k7 => k_is); (case k8 => ktr_room); (case k9 => first | exact BindsTo.of_eq rfl | exact binds_K (by k_in) rfl (by k_is) rfl rfl rfl); (case c5 => decide); (case kB => exact locs rfl); (case c2 => exact rfl); (case c3 => exact rfl); (case c4 => exact rfl); k_whole; intro g' L' h' FG' F' N' kp' X' T' lt'; (try dsimp only); (try k_fold))))
local macro_rules | `(tactic| ktr_room) => `(tactic| ((try simp only [depth_under_make, depth_under_kw, depth_in1, depth_deeper, depth_caller]); (try dsimp only [qTop]); omega))
local macro_rules | `(tactic| ktr_units) => `(tactic| ((try simp only [units_in1, units_deeper, Around.mark_units, units_caller]); (try dsimp only [qTop]); omega))
local macro_rules | `(tactic| walk_at "my_fill") => `(tactic| ((have hkk : PySem.Challenge.rw_ey0020_01 = PySem.Challenge.rw_ey0020_01 ∧ hd.heap_39 = hd.heap_39 := by (k_fill; exact ⟨rfl, rfl⟩)); clear hkk))
local macro_rules | `(tactic| walk_at "km_same") => `(tactic| (intro z; intros; rename_i hs; simp only [List.contains_cons, List.contains_nil, Bool.or_false, Bool.or_eq_false_iff, beq_eq_false_iff_ne, ne_eq] at hs; simp [kstB, *]))
local macro_rules | `(tactic| walk_at "km_same2") => `(tactic| (intro z hz hs; simp only [List.contains_cons, List.contains_nil, Bool.or_false, Bool.or_eq_false_iff, beq_eq_false_iff_ne, ne_eq] at hs; simp only [List.forall_mem_cons, List.not_mem_nil, false_imp_iff, implies_true, and_true, ne_eq] at hz; simp [kstB, hz, hs]))
local macro_rules | `(tactic| walk_at "km_same3") => `(tactic| (intro z hx hz hs; simp only [List.contains_cons, List.contains_nil, Bool.or_false, Bool.or_eq_false_iff, beq_eq_false_iff_ne, ne_eq] at hs; simp only [List.forall_mem_cons, List.not_mem_nil, false_imp_iff, implies_true, and_true, ne_eq] at hz; simp [kstB, hx, hz, hs]))
local macro_rules | `(tactic| walk_at "tell_args") => `(tactic| ((case k2 => k_asm); (case k3 => k_asm); (case k4 => k_asm); (case k5 => k_asm); (case kd => ktr_room); (case ku => ktr_units)))
local macro_rules | `(tactic| walk_at "keep_end") => `(tactic| exact KeepsBut.then (by assumption) (by assumption))
local macro_rules | `(tactic| walk_at "steps_while") => `(tactic| repeat' ((fail_if_success (with_reducible show wpAny _ _ (exec (Stmt.While _ _ _ _) _) _ _ _)); (first | (k_unfold; (try dsimp only)) | (k_end; wrow_close) | walk1 | (dsimp only; walk1) | (leave1; walk_say "STEP leave1"; try dsimp only) | fail "no step")))
open PyProof.Rows.LCg in
section
variable {prog : Program} {w : World} {A : Around} {E : Value → Shared → Prop} {s : Shared} {h₀ : Heap} {L C : Addr} {m mg mb : Str → Option Value} {env : Env} {elt : Expr} {x : Str} {scope : Scope} {cl : List (Str × Addr)} {K : Frag} {p : Program} {loose : List Str} {pos : Pos} {v : Value} {Q : Value → Shared → Prop} {M : Model}
theorem compEnd_mono {s₁ : Shared} {I D : Addr} {oI oC oD : Obj} {S : List (Addr × Obj) → Prop} {r r' : Value → List (Addr × Obj) → Prop} {y : Value} {s₂ : Shared} (h : CompEnd h₀ L m s₁ I oI C oC D oD S r y s₂) (k : ∀ news, r y news → r' y news) : CompEnd h₀ L m s₁ I oI C oC D oD S r' y s₂ :=
  let ⟨h', tk, news', e, F, N, off, hS, hr⟩ := h
  ⟨h', tk, news', e, F, N, off, hS, k _ hr⟩
theorem comp_inv {S : List (Addr × Obj) → Prop} {P : Nat → Value → Prop} {Fin : List Value → List (Addr × Obj) → Prop} (J : Nat → List Value → List (Addr × Obj) → Prop) {n : Nat}
    (turn : ∀ i v ys news I oI C oC D m₂ h tk (E' : Value → Shared → Prop), i < n → J i ys news → P i v → NsObj oC m₂ → m₂ x = some v → Fr h₀ L h m → News h₀ L h ((I, oI) :: (C, oC) :: (D, lst ys) :: news) → Off3 I C D news → ((@Ne Nat I C) ∧ (@Ne Nat I D) ∧ (@Ne Nat C D)) →
      wpAny (model prog w) A (eval elt (compEnvC scope cl C env)) (CompEnd h₀ L m { s with heap := h, toks := tk } I oI C oC D (lst ys) S (fun y news' => J (i + 1) (ys ++ [y]) news')) E' { s with heap := h, toks := tk })
    (done : ∀ ys news, J n ys news → Fin ys news) : ∀ k i ys news, k + i = n → J i ys news → CompRest prog w A h₀ L m env elt x scope cl s S P Fin k i ys news
  | 0, i, ys, news, e, hj => by
    have : i = n := by omega
    subst this
    exact CompRest.zero (done ys news hj)
  | k + 1, i, ys, news, e, hj => CompRest.succ fun v I oI C oC D m₂ h tk E' hP hC hx F N off ne =>
      wpAny_mono (turn i v ys news I oI C oC D m₂ h tk E' (by omega) hj hP hC hx F N off ne) (fun y s₂ h₂ => compEnd_mono h₂ fun news' hj' => comp_inv J turn done k (i + 1) (ys ++ [y]) news' (by omega) hj') fun _ _ e => e
theorem ldT_global (F : Fr h₀ L s.heap m) (X : K.In h₀) (T : TopRead p loose mg mb h₀) (e : nsIn K mainGlobals x = some (some v)) (h : Q v s) (hg : env.globals = mainGlobals := by rfl)
    (hk : (compEnvC scope cl C env).scope.kind = .function := by rfl) (hx : (compEnvC scope cl C env).kindOf x = some .globalImplicit := by rfl) (hd : (x == ("__debug__" : Str)) = false := by decide) :
    wpAny M A (eval (.Name x pos) (compEnvC scope cl C env)) Q E s :=
  Name_function_global hk hx (loadGlobal_global (env := compEnvC scope cl C env) (show s.heap.Ns env.globals mg from hg ▸ (T.g.keeps F.keep)) (mg_of X T.g e) h) hd
theorem ldT_built (F : Fr h₀ L s.heap m) (X : K.In h₀) (T : TopRead p loose mg mb h₀) (e : nsIn K mainGlobals x = some none) (hv : bootBuiltins x = some v) (hn : x ≠ "__name__") (h : Q v s) (hg : env.globals = mainGlobals := by rfl) (hb : env.builtins = builtinsNs := by rfl)
    (hk : (compEnvC scope cl C env).scope.kind = .function := by rfl) (hx : (compEnvC scope cl C env).kindOf x = some .globalImplicit := by rfl) (hd : (x == ("__debug__" : Str)) = false := by decide) :
    wpAny M A (eval (.Name x pos) (compEnvC scope cl C env)) Q E s :=
  Name_function_global hk hx (loadGlobal_builtin (env := compEnvC scope cl C env) (show s.heap.Ns env.globals mg from hg ▸ (T.g.keeps F.keep)) (mg_none_of X T.g e) (show s.heap.Ns env.builtins mb from hb ▸ (T.b.keeps F.keep)) ((T.builtins x hn).trans hv) h) hd
end
section
local macro_rules | `(tactic| walk_at "eval Name") => `(tactic| (k_here; (with_reducible show wpAny _ _ (eval (Expr.Name _ _) (compEnvC _ _ _ _)) _ _ _); k_dflt (first
  | refine ldT_global (by k_asm) (by k_asm) (by k_asm) (by k_is) ?_
  | refine ldT_built (by k_asm) (by k_asm) (by k_asm) (by k_is) (by boot_by_name) (by decide) ?_)))
local macro_rules | `(tactic| walk_at "eval Name") => `(tactic| (k_here; (with_reducible show wpAny _ _ (eval (Expr.Name _ _) (compEnvC _ _ _ _)) _ _ _); k_dflt (refine LCgL.ld_own (by k_asm) (by k_mem) (by assumption) (by assumption) ?_)))
local macro_rules | `(tactic| walk_at "eval ListComp") => `(tactic| (k_here; k_dflt (refine LCg.ListComp_U (F₀ := by k_asm) (by rfl) (by decide) (by rfl) (by decide) (by rfl) ?_)))
theorem state_keep {h₀ h : Heap} {L : Addr} {a b c : Addr × Obj} {l : List (Addr × Obj)} (N : News h₀ L h (a :: b :: c :: l)) : News h₀ L h (a :: b :: l) := fun p hp => N p (by
  simp only [List.mem_cons] at hp ⊢
  rcases hp with h | h | h
  · exact .inl h
  · exact .inr (.inl h)
  · exact .inr (.inr (.inr h)))
theorem ints_at {vs : List Value} {ns : List Int} (h : IntsAre vs ns) {i : Nat} {v : Value} (hv : vs.toArray[i]? = some v) : ∃ z t, v = .int z t := by
  have hv' : vs[i]? = some v := by simpa using hv
  have hi : i < ns.length := by rw [← h.length]; exact (List.getElem?_eq_some_iff.mp hv').1
  obtain ⟨t, e⟩ := h.get i ns[i] (List.getElem?_eq_getElem hi)
  rw [hv'] at e
  exact ⟨_, _, Option.some.inj e⟩
theorem state_tell (w : World) (mg mb) (a : Addr) (vs : List Value) (ns : List Int) (hns : IntsAre vs ns) (hl : ns.length ≤ 63) (news) :
    ∀ (dp un : Nat) (gd : Option (List Code)) (fr : Option (List Env)) (h₀ : Heap) (L : Addr) (m : Str → Option Value) (s : Shared)
    (Q E : Value → Shared → Prop), h₀.IsList a vs.toArray → 
    Fr h₀ L s.heap m → (KK w).In h₀ → News h₀ L s.heap news → TopRead hd.view_39 LO mg mb h₀ → dp + 3 < recursionLimit → un + 8 * 3 < cLine →
    (∀ r news' h' tk', Fr h₀ L h' m → News h₀ L h' news' → KeepsBut news s.heap h' → (∃ S SL ti vs' ns', r = .ref S ∧ news' = (S, W.listOf #[.ref SL, .int 0 ti] 0) :: (SL, W.listOf (List.toArray vs') vs'.length) :: news ∧ IntsAre vs' ns' ∧ ns'.length ≤ 63 ∧ ∀ p ∈ (SL, W.listOf (List.toArray vs') vs'.length) :: news, p.1 ≠ S) → Q r { s with heap := h', toks := tk' }) →
    wpAny (model PR w) (qTop dp un gd fr) (call (.ref 252) [.ref a]) Q E s := by
  walk_at "my_fill"
  intro dp un gd fr h₀ L m s Q E hL F X N T hd hu hret
  dsimp only [PR, KK] at *
  walk_at "my_enter"
  have hL' := Fr.lst (by assumption) hL
  have hvl : vs.length = ns.length := hns.length
  k_steps
  rename News _ _ _ _ => NN
  rename Fr _ _ _ _ => FF
  rename IntsAre _ _ => hI
  rename (_ = min 40 ns.length) => hC
  rename (∀ p ∈ news, _) => hlt
  refine LCg.CompSrc.ledger (by rfl) FF NN (.head _) ?hsz fun g => comp_inv (fun i ys nw => nw = (_, _) :: news ∧ ∃ zs, IntsAre ys zs ∧ zs.length = i) ?turn ?done _ 0 [] _ rfl ⟨rfl, [], .nil, rfl⟩
  case hsz =>
    rw [List.size_toArray, hI.length, hC]
    exact Nat.le_trans (Nat.min_le_left _ _) (by decide)
  case turn =>
    rintro i v ys nw I oI C oC D m₂ h tk E' hi ⟨rfl, zs, hz, hzl⟩ hv hC hx F₁ N₁ off ne
    obtain ⟨z, tz, rfl⟩ : ∃ z tz, v = .int z tz := ints_at hI hv
    k_steps
    rename News _ _ _ _ => N9
    exact LCg.CompEnd.intro (by assumption) N9 _ (fun p hp => hp) off (Or.inr ⟨_, .head _, rfl, _, rfl⟩) ⟨rfl, _, hz.append (.cons _ _ .nil), by simp [hzl]⟩
  case done =>
    rintro ys nw ⟨rfl, zs, hz, hzl⟩
    k_steps
    rename (_ < _ ∧ _ < _ ∧ AllLt _ news) => l9
    rename News _ _ _ _ => N9
    refine hret _ _ _ _ (by assumption) (state_keep N9) (by walk_at "keep_end") ⟨_, _, _, _, zs, rfl, rfl, hz, ?_, ?_⟩
    · rw [hzl, List.size_toArray, hI.length, hC]
      exact Nat.le_trans (Nat.min_le_right _ _) hl
    · exact List.forall_mem_cons.mpr ⟨by k_ne, tbn_neAll l9.2.2⟩
end
end Mine
end
namespace Mine
section
local macro_rules | `(tactic| walk_at "mine_nothing") => `(tactic| skip)
theorem fresh_LT : True ∧ True := by
  w_top off
  first | (walk1; fail "on") | exact ⟨trivial, trivial⟩
end
end Mine
section
open PySem PySem.W PyProof.Rows PySem.Calls PySem.Spec PyProof.V
set_option Elab.async false
set_option maxRecDepth 100000
set_option maxHeartbeats 0
namespace Mine
local macro_rules | `(tactic| walk_at "my_enter") => `(tactic| (refine wpAny_call ?_; walk_at "my_code"))
local macro_rules | `(tactic| walk_at "my_code") => `(tactic| (k_dflt (refine' code_q ?k1 ?k2 ?k3 ?k4 ?k6 ?k7 ?k8 ?k9 ?kB ?_ ?c2 ?c3 ?c4 ?c5; (case k1 => k_asm); (case k2 => k_asm); (case k3 => k_asm); (case k4 => k_asm); (case k6 => k_is); (case k7 => k_is); (case k8 => ktr_room); (case k9 => first | exact BindsTo.of_eq rfl | exact binds_K (by k_in) rfl (by k_is) rfl rfl rfl); (case c5 => decide); (case kB => exact locs rfl); (case c2 => exact rfl); (case c3 => exact rfl); (case c4 => exact rfl); k_whole; intro g' L' h' FG' F' N' kp' X' T' lt'; (try dsimp only); (try k_fold))))
local macro_rules | `(tactic| ktr_room) => `(tactic| ((try simp only [depth_under_make, depth_under_kw, depth_in1, depth_deeper, depth_caller]); (try dsimp only [qTop]); omega))
local macro_rules | `(tactic| ktr_units) => `(tactic| ((try simp only [units_in1, units_deeper, Around.mark_units, units_caller]); (try dsimp only [qTop]); omega))
local macro_rules | `(tactic| walk_at "my_fill") => `(tactic| ((have hkk : PySem.Challenge.rw_ey0020_01 = PySem.Challenge.rw_ey0020_01 ∧ hd.heap_39 = hd.heap_39 := by (k_fill; exact ⟨rfl, rfl⟩)); clear hkk))
local macro_rules | `(tactic| walk_at "km_same") => `(tactic| (intro z; intros; rename_i hs; simp only [List.contains_cons, List.contains_nil, Bool.or_false, Bool.or_eq_false_iff, beq_eq_false_iff_ne, ne_eq] at hs; simp [kstB, *]))
local macro_rules | `(tactic| walk_at "km_same2") => `(tactic| (intro z hz hs; simp only [List.contains_cons, List.contains_nil, Bool.or_false, Bool.or_eq_false_iff, beq_eq_false_iff_ne, ne_eq] at hs; simp only [List.forall_mem_cons, List.not_mem_nil, false_imp_iff, implies_true, and_true, ne_eq] at hz; simp [kstB, hz, hs]))
local macro_rules | `(tactic| walk_at "km_same3") => `(tactic| (intro z hx hz hs; simp only [List.contains_cons, List.contains_nil, Bool.or_false, Bool.or_eq_false_iff, beq_eq_false_iff_ne, ne_eq] at hs; simp only [List.forall_mem_cons, List.not_mem_nil, false_imp_iff, implies_true, and_true, ne_eq] at hz; simp [kstB, hx, hz, hs]))
local macro_rules | `(tactic| walk_at "tell_args") => `(tactic| ((case k2 => k_asm); (case k3 => k_asm); (case k4 => k_asm); (case k5 => k_asm); (case kd => ktr_room); (case ku => ktr_units)))
local macro_rules | `(tactic| walk_at "keep_end") => `(tactic| exact KeepsBut.then (by assumption) (by assumption))
local macro_rules | `(tactic| walk_at "steps_while") => `(tactic| repeat' ((fail_if_success (with_reducible show wpAny _ _ (exec (Stmt.While _ _ _ _) _) _ _ _)); (first | (k_unfold; (try dsimp only)) | (k_end; wrow_close) | walk1 | (dsimp only; walk1) | (leave1; walk_say "STEP leave1"; try dsimp only) | fail "no step")))
local macro_rules | `(tactic| walk_at "my_enterC") => `(tactic| (refine wpAny_call ?_; walk_at "my_codeC"))
local macro_rules | `(tactic| walk_at "my_codeC") => `(tactic| (k_dflt (refine' code_qC ?k1 ?k2 ?k3 ?k4 ?k6 ?k7 ?k8 ?k9 ?kB ?kD ?_ ?c2 ?c3 ?c4; (case k1 => k_asm); (case k2 => k_asm); (case k3 => k_asm); (case k4 => k_asm); (case k6 => k_is); (case k7 => k_is); (case k8 => ktr_room); (case k9 => first | exact BindsTo.of_eq rfl | exact binds_K (by k_in) rfl (by k_is) rfl rfl rfl); (case kB => exact rfl); (case kD => decide +kernel); (case c2 => exact rfl); (case c3 => exact rfl); (case c4 => exact rfl); k_whole; intro g' L' h' tk' cells' FG' F' N' Y' kp' X' T' lt'; k_lt lt'; k_cells Y'; (try simp only [List.cons_append, List.nil_append] at N'); (try dsimp only); (try k_fold))))
theorem allLt_off {d e : Addr} {l : List (Addr × Obj)} (h : AllLt d l) (hd : @LE.le Nat _ d e) : ∀ p ∈ l, p.1 ≠ e := by
  induction l with
  | nil => exact fun _ hp => absurd hp List.not_mem_nil
  | cons a r ih => exact List.forall_mem_cons.mpr ⟨Nat.ne_of_lt (Nat.lt_of_lt_of_le h.1 hd), ih h.2⟩
theorem signs_push (z : Str) (c : Nat) : signs ⟨z.cps.push c⟩ = signs z ++ [⟨#[c]⟩] := by simp [signs]
theorem signs_sum (z : Str) : ((signs z).map (·.length)).sum = z.cps.size := by
  unfold signs
  rw [List.map_map]
  have : ∀ l : List Nat, (l.map ((fun x : Str => x.length) ∘ fun n => (⟨#[n]⟩ : Str))).sum = l.length := by
    intro l
    induction l with
    | nil => rfl
    | cons a r ih => rw [List.map_cons, List.sum_cons, ih, List.length_cons, Nat.add_comm]; rfl
  rw [this, Array.length_toList]
theorem drop4 {h₀ h : Heap} {L : Addr} {a b c d : Addr × Obj} {l : List (Addr × Obj)} (N : News h₀ L h (a :: b :: c :: d :: l)) : News h₀ L h l := fun p hp => N p (.tail _ (.tail _ (.tail _ (.tail _ hp))))
theorem nameNat {c : Nat} {l : List Nat} (_ : c ∈ l) : ∃ c', c' = c := ⟨c, rfl⟩
theorem k_pre6 {S : Addr} {a b c d e f : Addr × Obj} {l : List (Addr × Obj)} (h1 : a.1 ≠ S) (h2 : b.1 ≠ S) (h3 : c.1 ≠ S) (h4 : d.1 ≠ S) (h5 : e.1 ≠ S) (h6 : f.1 ≠ S) (h : ∀ p ∈ l, p.1 ≠ S) : ∀ p ∈ [a, b, c, d, e, f] ++ l, p.1 ≠ S :=
  List.forall_mem_cons.mpr ⟨h1, List.forall_mem_cons.mpr ⟨h2, List.forall_mem_cons.mpr ⟨h3, List.forall_mem_cons.mpr ⟨h4, List.forall_mem_cons.mpr ⟨h5, List.forall_mem_cons.mpr ⟨h6, h⟩⟩⟩⟩⟩⟩
theorem pre3 {h₀ h : Heap} {L : Addr} {a b c : Addr × Obj} {r : List (Addr × Obj)} (_ : News h₀ L h (a :: b :: c :: r)) : ∃ a' b' c', a' = a ∧ b' = b ∧ c' = c := ⟨_, _, _, rfl, rfl, rfl⟩
theorem sgn_line {w : World} {A : Around} {E : Value → Shared → Prop} {s : Shared} {h₀ : Heap} {L D : Addr} {news : List (Addr × Obj)} {value slice : Expr} {n : Nat} {k : Int} {u t0 t1 t2 t3 t4 t5 t6 t7 t8 t9 : Tok} {Q : Value → Shared → Prop} (N : News h₀ L s.heap news)
    (hm : (D, W.listOf #[.str (Str.ofString "a") t0, .str (Str.ofString "b") t1, .str (Str.ofString " ") t2, .str (Str.ofString "中") t3, .str (Str.ofString "한") t4, .str (Str.ofString "́") t5, .str (Str.ofString "é") t6, .str (Str.ofString "c") t7, .str (Str.ofString "Ａ") t8, .str (Str.ofString "​") t9] n) ∈ news)
    (h0 : 0 ≤ k) (h1 : k < 10) (h : ∀ c t, c ∈ signsL → Q (.str ⟨#[c]⟩ t) s)
    (hs : subscripted slice false (.ref D) (.int k u) = operate [.ref D, .int k u] (getItem (.ref D) (.int k u)) := by with_unfolding_all rfl) :
    wpAny (model PR w) A (subscriptTail value slice (.ref D) (.int k u)) Q E s := by
  obtain ⟨j, rfl⟩ := Int.eq_ofNat_of_zero_le h0
  have hj : j < 10 := by omega
  have go : ∀ (c : Nat) (x : Str) (t : Tok), x = ⟨#[c]⟩ → c ∈ signsL → [Value.str (Str.ofString "a") t0, .str (Str.ofString "b") t1, .str (Str.ofString " ") t2, .str (Str.ofString "中") t3, .str (Str.ofString "한") t4, .str (Str.ofString "́") t5, .str (Str.ofString "é") t6, .str (Str.ofString "c") t7, .str (Str.ofString "Ａ") t8, .str (Str.ofString "​") t9][((j : Nat) : Int).toNat]? = some (.str x t) → 
      wpAny (model PR w) A (subscriptTail value slice (.ref D) (.int (j : Int) u)) Q E s := fun c x t e hc hx => at_line N hm h0 (by omega) hx (e ▸ h c t hc) hs
  match j, hj with
  | 0, _ => exact go 97 _ _ (by decide) (by decide) rfl
  | 1, _ => exact go 98 _ _ (by decide) (by decide) rfl
  | 2, _ => exact go 32 _ _ (by decide) (by decide) rfl
  | 3, _ => exact go 20013 _ _ (by decide) (by decide) rfl
  | 4, _ => exact go 54620 _ _ (by decide) (by decide) rfl
  | 5, _ => exact go 769 _ _ (by decide) (by decide) rfl
  | 6, _ => exact go 233 _ _ (by decide) (by decide) rfl
  | 7, _ => exact go 99 _ _ (by decide) (by decide) rfl
  | 8, _ => exact go 65313 _ _ (by decide) (by decide) rfl
  | 9, _ => exact go 8203 _ _ (by decide) (by decide) rfl
theorem k_pre3 {S : Addr} {a b c : Addr × Obj} {l : List (Addr × Obj)} (h1 : a.1 ≠ S) (h2 : b.1 ≠ S) (h3 : c.1 ≠ S) (h : ∀ p ∈ l, p.1 ≠ S) : ∀ p ∈ [a, b, c] ++ l, p.1 ≠ S :=
  List.forall_mem_cons.mpr ⟨h1, List.forall_mem_cons.mpr ⟨h2, List.forall_mem_cons.mpr ⟨h3, h⟩⟩⟩
section
local macro_rules | `(tactic| k_all) => `(tactic| first | assumption | exact allLt_off (by assumption) (by omega))
local macro_rules | `(tactic| walk_at "call ref") => `(tactic| (k_here; (with_reducible show wpAny _ _ (call (Value.ref 247) [Value.ref _, Value.int _ _]) _ _ _); k_dflt (refine' draw_at (pre := [_, _, _]) ?F ?X ?N ?T ?hns ?hl ?h0 ?hm ?hm2 ?hS ?hSL ?hd ?hu ?_; (case F => k_asm); (case X => k_asm); (case N => k_asm); (case T => k_asm); (case hns => k_asm); (case hl => k_asm); (case h0 => k_asm); (case hm => omega); (case hm2 => omega); (case hSL => exact List.mem_append_right _ (by assumption)); (case hS => exact k_pre3 (by k_ne) (by k_ne) (by k_ne) (by assumption)); (case hd => ktr_room); (case hu => ktr_units)); intro i9 ti9 v9 tv9 h9 tk9 F9 N9 K9 hi9 hv9 hw9; (try dsimp only [List.cons_append, List.nil_append] at N9)))
local macro_rules | `(tactic| walk_at "eval ListComp") => `(tactic| (k_here; k_dflt (refine LCg.ListComp_U (F₀ := by k_asm) (by with_unfolding_all rfl) (by decide) (by rfl) (by decide) (by rfl) ?_)))
local macro_rules | `(tactic| walk_at "call ref") => `(tactic| (k_here; (with_reducible show wpAny _ _ (call (Value.ref 247) [Value.ref _, Value.int 10 _]) _ _ _); k_dflt (refine' draw_at (pre := [_, _, _, _, _, _]) ?F ?X ?N ?T ?hns ?hl ?h0 ?hm ?hm2 ?hS ?hSL ?hd ?hu ?_; (case F => k_asm); (case X => k_asm); (case N => k_asm); (case T => k_asm); (case hns => k_asm); (case hl => k_asm); (case h0 => k_asm); (case hm => omega); (case hm2 => omega); (case hSL => exact List.mem_append_right _ (by assumption)); (case hS => exact k_pre6 (by k_ne) (by k_ne) (by k_ne) (by k_ne) (by k_ne) (by k_ne) (by assumption)); (case hd => ktr_room); (case hu => ktr_units)); intro i9 ti9 v9 tv9 h9 tk9 F9 N9 K9 hi9 hv9 hw9; (try dsimp only [List.cons_append, List.nil_append] at N9)))
local macro_rules | `(tactic| walk_at "subscriptTail") => `(tactic| (k_here; (with_reducible show wpAny _ _ (subscriptTail _ _ (Value.ref _) (Value.int _ _)) _ _ _); k_dflt (refine' sgn_line ?N ?hm ?h0 ?h1 ?_ ?hs; (case N => k_asm); (case hm => k_mem); (case h0 => assumption); (case h1 => assumption); (case hs => with_unfolding_all rfl)); intro c9 t9 hc9))
local macro_rules | `(tactic| walk_at "steps_src") => `(tactic| repeat' ((fail_if_success (with_reducible show LCg.CompSrc _ _ _ _ _ _ _ _ _ _ _ _ _ _)); (first | (k_unfold; (try dsimp only)) | (k_end; wrow_close) | walk1 | (dsimp only; walk1) | (leave1; walk_say "STEP leave1"; try dsimp only) | fail "no step")))
theorem text_tell (w : World) (mg mb) (S SL : Addr) (i : Int) (ti : Tok) (n : Nat) (vs : List Value) (ns : List Int) (hns : IntsAre vs ns) (k : Nat) (h0 : 0 ≤ i) (hl : ns.length ≤ 63) (tm : Tok) (rest) (hS : ∀ p ∈ rest, p.1 ≠ S) (hSL : (SL, W.listOf vs.toArray k) ∈ rest) :
    Tell w mg mb 264 8 ((S, W.listOf #[.ref SL, .int i ti] n) :: rest) [.ref S, .int 12 tm] (fun news' r => ∃ i' ti' x tx, news' = (S, W.listOf #[.ref SL, .int i' ti'] n) :: rest ∧ 0 ≤ i' ∧ r = .str x tx ∧ OkT x ∧ x.cps.size ≤ 12) := by
  walk_at "my_fill"
  unfold Tell
  intro dp un gd fr h₀ L m s Q E F X N T hd hu hret
  dsimp only [PR, KK] at *
  walk_at "my_enterC"
  rename (_ < _ ∧ AllLt _ rest) => lt2
  obtain ⟨ltS, ltR⟩ := lt2
  walk_at "steps_src"
  rename IsRange _ _ _ _ _ _ _ _ => hr
  rename News _ _ _ _ => NN
  rename Fr _ _ _ _ => FF
  rename (_ < 12 + 1) => hw9
  rename (0 ≤ _) => hv9
  obtain ⟨pa, pb, pc, ea, eb, ec⟩ := pre3 NN
  refine LCg.CompSrc.range (by rfl) FF NN hr (small_one (by omega) (by omega) (by omega) (by omega)) (rangeSize_nat _ _) ?hsz fun g => comp_inv (fun i ys nw => ∃ i' ti', 0 ≤ i' ∧ nw = pa :: pb :: pc :: (S, W.listOf #[.ref SL, .int i' ti'] n) :: rest ∧ ∃ z : Str, StrsAre ys (signs z) ∧ (∀ c ∈ z.cps.toList, c ∈ signsL) ∧ z.cps.size = i) ?turn ?done _ 0 [] _ rfl ⟨_, _, ?h0, by rw [ea, eb, ec], ⟨#[]⟩, .nil, by simp, rfl⟩
  case hsz => exact Nat.le_trans (by omega : _ ≤ 13) (by decide)
  case h0 => assumption
  case turn =>
    rintro j v ys nw I oI C oC D m₂ h tk E' hi ⟨i', ti', hi', rfl, z, hz, hzm, hzl⟩ hv hC hx F₁ N₁ off ne
    subst ea eb ec
    have off0 := off
    simp only [LCg.Off3] at off
    k_steps
    rename News _ _ _ _ => N9
    rename (_ ∈ signsL) => hc9
    obtain ⟨cc, ecc⟩ := nameNat hc9
    subst ecc
    refine LCg.CompEnd.intro (by assumption) N9 _ (fun p hp => hp) off0 trivial ⟨_, _, ?_, rfl, ⟨z.cps.push cc⟩, ?_, ?_, ?_⟩
    · assumption
    · rw [signs_push]
      exact hz.append' (.cons _ _ .nil)
    · intro c hc
      simp only [Array.toList_push, List.mem_append, List.mem_singleton] at hc
      rcases hc with hc | rfl
      · exact hzm c hc
      · exact hc9
    · simp [hzl]
  case done =>
    rintro ys nw ⟨i', ti', hi', rfl, z, hz, hzm, hzl⟩
    subst ea eb ec
    have hz12 : z.cps.size ≤ 12 := by omega
    k_steps
    rename News _ _ _ _ => N9
    refine join_list (ys := signs z) (N9.isList (.head _)) (by simpa using hz) ?_ fun t' k => ?_
    · rw [signs_sum]
      have : (Str.ofString "").length = 0 := by decide
      rw [this]; omega
    have ej : Txt.join (Str.ofString "") (signs z) = z := (eq_of_beq (join_closes (sep' := ⟨#[]⟩) (by decide))).trans (join_nil_signs z)
    rw [ej]
    k_steps
    rename News _ _ _ _ => N9
    exact hret _ _ _ _ (by assumption) (drop4 N9) (by walk_at "keep_end") ⟨_, _, _, _, rfl, by assumption, rfl, ⟨hzm, Nat.le_trans hz12 (by decide)⟩, hz12⟩
end
end Mine
end
namespace Mine
section
local macro_rules | `(tactic| walk_at "mine_nothing") => `(tactic| skip)
theorem fresh_LP0 : True ∧ True := by
  w_top off
  first | (walk1; fail "on") | exact ⟨trivial, trivial⟩
end
end Mine
section
open PySem PySem.W PyProof.Rows PySem.Calls PySem.Spec PyProof.V
set_option Elab.async false
set_option maxRecDepth 100000
set_option maxHeartbeats 0
namespace Mine
local macro_rules | `(tactic| walk_at "my_enter") => `(tactic| (refine wpAny_call ?_; walk_at "my_code"))
local macro_rules | `(tactic| walk_at "my_code") => `(tactic| (k_dflt (refine' code_q ?k1 ?k2 ?k3 ?k4 ?k6 ?k7 ?k8 ?k9 ?kB ?_ ?c2 ?c3 ?c4 ?c5; (case k1 => k_asm); (case k2 => k_asm); (case k3 => k_asm); (case k4 => k_asm); (case k6 => k_is); (case k7 => k_is); (case k8 => ktr_room); (case k9 => first | exact BindsTo.of_eq rfl | exact binds_K (by k_in) rfl (by k_is) rfl rfl rfl); (case c5 => decide); (case kB => exact locs rfl); (case c2 => exact rfl); (case c3 => exact rfl); (case c4 => exact rfl); k_whole; intro g' L' h' FG' F' N' kp' X' T' lt'; (try dsimp only); (try k_fold))))
local macro_rules | `(tactic| ktr_room) => `(tactic| ((try simp only [depth_under_make, depth_under_kw, depth_in1, depth_deeper, depth_caller]); (try dsimp only [qTop]); omega))
local macro_rules | `(tactic| ktr_units) => `(tactic| ((try simp only [units_in1, units_deeper, Around.mark_units, units_caller]); (try dsimp only [qTop]); omega))
local macro_rules | `(tactic| walk_at "my_fill") => `(tactic| ((have hkk : PySem.Challenge.rw_ey0020_01 = PySem.Challenge.rw_ey0020_01 ∧ hd.heap_39 = hd.heap_39 := by (k_fill; exact ⟨rfl, rfl⟩)); clear hkk))
local macro_rules | `(tactic| walk_at "km_same") => `(tactic| (intro z; intros; rename_i hs; simp only [List.contains_cons, List.contains_nil, Bool.or_false, Bool.or_eq_false_iff, beq_eq_false_iff_ne, ne_eq] at hs; simp [kstB, *]))
local macro_rules | `(tactic| walk_at "km_same2") => `(tactic| (intro z hz hs; simp only [List.contains_cons, List.contains_nil, Bool.or_false, Bool.or_eq_false_iff, beq_eq_false_iff_ne, ne_eq] at hs; simp only [List.forall_mem_cons, List.not_mem_nil, false_imp_iff, implies_true, and_true, ne_eq] at hz; simp [kstB, hz, hs]))
local macro_rules | `(tactic| walk_at "km_same3") => `(tactic| (intro z hx hz hs; simp only [List.contains_cons, List.contains_nil, Bool.or_false, Bool.or_eq_false_iff, beq_eq_false_iff_ne, ne_eq] at hs; simp only [List.forall_mem_cons, List.not_mem_nil, false_imp_iff, implies_true, and_true, ne_eq] at hz; simp [kstB, hx, hz, hs]))
local macro_rules | `(tactic| walk_at "tell_args") => `(tactic| ((case k2 => k_asm); (case k3 => k_asm); (case k4 => k_asm); (case k5 => k_asm); (case kd => ktr_room); (case ku => ktr_units)))
local macro_rules | `(tactic| walk_at "keep_end") => `(tactic| exact KeepsBut.then (by assumption) (by assumption))
local macro_rules | `(tactic| walk_at "steps_while") => `(tactic| repeat' ((fail_if_success (with_reducible show wpAny _ _ (exec (Stmt.While _ _ _ _) _) _ _ _)); (first | (k_unfold; (try dsimp only)) | (k_end; wrow_close) | walk1 | (dsimp only; walk1) | (leave1; walk_say "STEP leave1"; try dsimp only) | fail "no step")))
abbrev Piece := Str × Int
def PcIn (led : List (Addr × Obj)) : List Value → List Piece → Prop
  | [], [] => True
  | v :: its, p :: sp => (∃ T a b, v = .ref T ∧ (T, tupO [.str p.1 a, .int p.2 b]) ∈ led) ∧ PcIn led its sp
  | _, _ => False
theorem PcIn.mono {led led' : List (Addr × Obj)} (h : ∀ p ∈ led, p ∈ led') : ∀ {its : List Value} {sp : List Piece}, PcIn led its sp → PcIn led' its sp
  | [], [], _ => trivial
  | _ :: _, _ :: _, ⟨⟨T, a, b, e, hm⟩, r⟩ => ⟨⟨T, a, b, e, h _ hm⟩, PcIn.mono h r⟩
theorem PcIn.nil {led : List (Addr × Obj)} : ∀ {sp : List Piece}, PcIn led [] sp → sp = []
  | [], _ => rfl
theorem PcIn.len {led : List (Addr × Obj)} : ∀ {its : List Value} {sp : List Piece}, PcIn led its sp → its.length = sp.length
  | [], [], _ => rfl
  | _ :: _, _ :: _, ⟨_, r⟩ => by simp [PcIn.len r]
theorem PcIn.snoc {led : List (Addr × Obj)} {T : Addr} {a b : Tok} {p : Piece} (hm : (T, tupO [.str p.1 a, .int p.2 b]) ∈ led) : ∀ {its : List Value} {sp : List Piece}, PcIn led its sp → PcIn led (its ++ [.ref T]) (sp ++ [p])
  | [], [], _ => ⟨⟨T, a, b, rfl, hm⟩, trivial⟩
  | _ :: _, _ :: _, ⟨e, r⟩ => ⟨e, PcIn.snoc hm r⟩
theorem PcIn.last {led : List (Addr × Obj)} {v : Value} : ∀ {its : List Value} {sp : List Piece}, PcIn led (its ++ [v]) sp → ∃ sp' p T a b, sp = sp' ++ [p] ∧ v = .ref T ∧ (T, tupO [.str p.1 a, .int p.2 b]) ∈ led ∧ PcIn led its sp'
  | [], [p], ⟨⟨T, a, b, e, hm⟩, _⟩ => ⟨[], p, T, a, b, rfl, e, hm, trivial⟩
  | [], _ :: _ :: _, ⟨_, h⟩ => by simp [PcIn] at h
  | x :: its, q :: sp, ⟨e, r⟩ =>
    let ⟨sp', p, T, a, b, e1, e2, hm, r'⟩ := PcIn.last (its := its) (sp := sp) r
    ⟨q :: sp', p, T, a, b, by rw [e1]; rfl, e2, hm, ⟨e, r'⟩⟩
theorem PcIn.at {led : List (Addr × Obj)} : ∀ {its : List Value} {sp : List Piece} {k : Nat} {p : Piece}, PcIn led its sp → sp[k]? = some p → ∃ T a b, its[k]? = some (.ref T) ∧ (T, tupO [.str p.1 a, .int p.2 b]) ∈ led
  | _ :: _, _ :: _, 0, p, ⟨⟨T, a, b, e, hm⟩, _⟩, h => by cases h; exact ⟨T, a, b, by rw [e]; rfl, hm⟩
  | _ :: _, _ :: _, k + 1, p, ⟨_, r⟩, h => PcIn.at (k := k) r h
  | [], [], _, _, _, h => by simp at h
  | [], _ :: _, _, _, h, _ => h.elim
  | _ :: _, [], _, _, h, _ => h.elim
def pstep (ps : List Piece) (c : Nat) : List Piece := match ps.getLast? with
  | some p => if cellSize c = 0 then ps.dropLast ++ [(p.1 ++ ⟨#[c]⟩, p.2)] else ps ++ [(⟨#[c]⟩, cellSize c)]
  | none => [(⟨#[c]⟩, cellSize c)]
theorem ps_nil {c : Nat} : pstep [] c = [(⟨#[c]⟩, cellSize c)] := rfl
theorem ps_app {ps : List Piece} {p : Piece} {c : Nat} (h : ¬ cellSize c = 0) : pstep (ps ++ [p]) c = (ps ++ [p]) ++ [(⟨#[c]⟩, cellSize c)] := by
  unfold pstep
  simp [h]
theorem ps_last {ps : List Piece} {p : Piece} {c : Nat} (h : cellSize c = 0) : pstep (ps ++ [p]) c = ps ++ [(p.1 ++ ⟨#[c]⟩, p.2)] := by
  unfold pstep
  simp [h]
def piecesTo (x : Str) : Nat → List Piece
  | 0 => []
  | i + 1 => pstep (piecesTo x i) (x.cps.getD i 0)
theorem piecesTo_at {x : Str} {i n : Nat} (hn : x.cps[i]? = some n) : piecesTo x (i + 1) = pstep (piecesTo x i) n := by
  show pstep _ (x.cps.getD i 0) = _
  rw [Array.getD_eq_getD_getElem?, hn]; rfl
theorem pstep_len {ps : List Piece} {c : Nat} : (pstep ps c).length ≤ ps.length + 1 := by
  unfold pstep
  split
  · split <;> simp
  · simp
theorem piecesTo_len (x : Str) : ∀ i, (piecesTo x i).length ≤ i
  | 0 => Nat.le_refl _
  | i + 1 => Nat.le_trans pstep_len (Nat.succ_le_succ (piecesTo_len x i))
/-- every piece's text is short -/
theorem pstep_short {ps : List Piece} {c : Nat} {k : Nat} (h : ∀ p ∈ ps, p.1.length ≤ k) : ∀ p ∈ pstep ps c, p.1.length ≤ k + 1 := by
  intro p hp
  unfold pstep at hp
  split at hp
  · rename_i q e
    split at hp
    · rcases List.mem_append.mp hp with hp | hp
      · exact Nat.le_succ_of_le (h p (List.dropLast_subset _ hp))
      · rw [List.mem_singleton.mp hp]
        have := h q (List.mem_of_getLast? e)
        show (q.1 ++ (⟨#[c]⟩ : Str)).length ≤ k + 1
        rw [show (q.1 ++ (⟨#[c]⟩ : Str)).length = q.1.length + 1 by simp [Str.length, Str.cps_append]]
        exact Nat.succ_le_succ this
    · rcases List.mem_append.mp hp with hp | hp
      · exact Nat.le_succ_of_le (h p hp)
      · rw [List.mem_singleton.mp hp]; simp [Str.length]
  · rw [List.mem_singleton.mp hp]; simp [Str.length]
theorem pieces_short (x : Str) : ∀ i, ∀ p ∈ piecesTo x i, p.1.length ≤ i
  | 0 => fun _ hp => absurd hp List.not_mem_nil
  | i + 1 => pstep_short (pieces_short x i)
end Mine
end
namespace Mine
section
local macro_rules | `(tactic| walk_at "mine_nothing") => `(tactic| skip)
theorem fresh_LP : True ∧ True := by
  w_top off
  first | (walk1; fail "on") | exact ⟨trivial, trivial⟩
end
end Mine
section
open PySem PySem.W PyProof.Rows PySem.Calls PySem.Spec PyProof.V
set_option Elab.async false
set_option maxRecDepth 100000
set_option maxHeartbeats 0
namespace Mine
local macro_rules | `(tactic| walk_at "my_enter") => `(tactic| (refine wpAny_call ?_; walk_at "my_code"))
local macro_rules | `(tactic| walk_at "my_code") => `(tactic| (k_dflt (refine' code_q ?k1 ?k2 ?k3 ?k4 ?k6 ?k7 ?k8 ?k9 ?kB ?_ ?c2 ?c3 ?c4 ?c5; (case k1 => k_asm); (case k2 => k_asm); (case k3 => k_asm); (case k4 => k_asm); (case k6 => k_is); (case k7 => k_is); (case k8 => ktr_room); (case k9 => first | exact BindsTo.of_eq rfl | exact binds_K (by k_in) rfl (by k_is) rfl rfl rfl); (case c5 => decide); (case kB => exact locs rfl); (case c2 => exact rfl); (case c3 => exact rfl); (case c4 => exact rfl); k_whole; intro g' L' h' FG' F' N' kp' X' T' lt'; (try dsimp only); (try k_fold))))
local macro_rules | `(tactic| ktr_room) => `(tactic| ((try simp only [depth_under_make, depth_under_kw, depth_in1, depth_deeper, depth_caller]); (try dsimp only [qTop]); omega))
local macro_rules | `(tactic| ktr_units) => `(tactic| ((try simp only [units_in1, units_deeper, Around.mark_units, units_caller]); (try dsimp only [qTop]); omega))
local macro_rules | `(tactic| walk_at "my_fill") => `(tactic| ((have hkk : PySem.Challenge.rw_ey0020_01 = PySem.Challenge.rw_ey0020_01 ∧ hd.heap_39 = hd.heap_39 := by (k_fill; exact ⟨rfl, rfl⟩)); clear hkk))
local macro_rules | `(tactic| walk_at "km_same") => `(tactic| (intro z; intros; rename_i hs; simp only [List.contains_cons, List.contains_nil, Bool.or_false, Bool.or_eq_false_iff, beq_eq_false_iff_ne, ne_eq] at hs; simp [kstB, *]))
local macro_rules | `(tactic| walk_at "km_same2") => `(tactic| (intro z hz hs; simp only [List.contains_cons, List.contains_nil, Bool.or_false, Bool.or_eq_false_iff, beq_eq_false_iff_ne, ne_eq] at hs; simp only [List.forall_mem_cons, List.not_mem_nil, false_imp_iff, implies_true, and_true, ne_eq] at hz; simp [kstB, hz, hs]))
local macro_rules | `(tactic| walk_at "km_same3") => `(tactic| (intro z hx hz hs; simp only [List.contains_cons, List.contains_nil, Bool.or_false, Bool.or_eq_false_iff, beq_eq_false_iff_ne, ne_eq] at hs; simp only [List.forall_mem_cons, List.not_mem_nil, false_imp_iff, implies_true, and_true, ne_eq] at hz; simp [kstB, hx, hz, hs]))
local macro_rules | `(tactic| walk_at "tell_args") => `(tactic| ((case k2 => k_asm); (case k3 => k_asm); (case k4 => k_asm); (case k5 => k_asm); (case kd => ktr_room); (case ku => ktr_units)))
local macro_rules | `(tactic| walk_at "keep_end") => `(tactic| exact KeepsBut.then (by assumption) (by assumption))
local macro_rules | `(tactic| walk_at "steps_while") => `(tactic| repeat' ((fail_if_success (with_reducible show wpAny _ _ (exec (Stmt.While _ _ _ _) _) _ _ _)); (first | (k_unfold; (try dsimp only)) | (k_end; wrow_close) | walk1 | (dsimp only; walk1) | (leave1; walk_say "STEP leave1"; try dsimp only) | fail "no step")))
structure PS where
  its : List Value
  n : Nat
  led : List (Addr × Obj)
theorem names1 {h₀ h : Heap} {L : Addr} {a : Addr} {oa : Obj} {r : List (Addr × Obj)} (_ : News h₀ L h ((a, oa) :: r)) : ∃ a', a' = a := ⟨_, rfl⟩
theorem lp_sub {a d : Addr × Obj} {led news own : List (Addr × Obj)} : ∀ p ∈ d :: ((a :: led) ++ news), p ∈ a :: d :: (led ++ news ++ own) := by
  intro p hp
  simp only [List.cons_append, List.mem_cons, List.mem_append] at hp ⊢
  rcases hp with h | h | h | h
  · exact .inr (.inl h)
  · exact .inl h
  · exact .inr (.inr (.inl (.inl h)))
  · exact .inr (.inr (.inl (.inr h)))
theorem lp_sub2 {a b d : Addr × Obj} {led news own : List (Addr × Obj)} : ∀ p ∈ d :: ((a :: led) ++ news), p ∈ a :: d :: b :: (led ++ news ++ own) := by
  intro p hp
  simp only [List.cons_append, List.mem_cons, List.mem_append] at hp ⊢
  rcases hp with h | h | h | h
  · exact .inr (.inl h)
  · exact .inl h
  · exact .inr (.inr (.inr (.inl (.inl h))))
  · exact .inr (.inr (.inr (.inl (.inr h))))
theorem lp_own {a d : Addr × Obj} {l own : List (Addr × Obj)} : ∀ p ∈ own, p ∈ a :: d :: (l ++ own) := fun p hp => .tail _ (.tail _ (List.mem_append_right _ hp))
theorem lp_own2 {a b d : Addr × Obj} {l own : List (Addr × Obj)} : ∀ p ∈ own, p ∈ a :: d :: b :: (l ++ own) := fun p hp => .tail _ (.tail _ (.tail _ (List.mem_append_right _ hp)))
theorem lp_dup {h₀ h : Heap} {L : Addr} {d p : Addr × Obj} {led news own : List (Addr × Obj)} (N : News h₀ L h (d :: (led ++ news) ++ own)) (hm : p ∈ led) : News h₀ L h (d :: p :: (led ++ news ++ own)) := fun q hq => by
  rcases List.mem_cons.mp hq with rfl | hq
  · exact N _ (.head _)
  · rcases List.mem_cons.mp hq with rfl | hq
    · exact N _ (.tail _ (List.mem_append_left _ (List.mem_append_left _ hm)))
    · exact N _ (.tail _ hq)
theorem allLt_app {d : Addr} {a b : List (Addr × Obj)} (h : AllLt d (a ++ b)) : AllLt d b := by
  induction a with
  | nil => exact h
  | cons x r ih => exact ih h.2
theorem lp_off {T : Addr} {D : Addr} {o o' o2 : Obj} {led news own : List (Addr × Obj)} (h : OwnOff own (((D, o) :: (led ++ news)).map (·.1))) (hl : AllLt T (led ++ news ++ own)) : OwnOff own (((D, o') :: (((T, o2) :: led) ++ news)).map (·.1)) := by
  intro p hp b hb
  have h2 := h p hp b
  have h3 : p.1 ≠ T := tbn_neAll (allLt_app hl) p hp
  simp only [List.map_cons, List.map_append, List.cons_append, List.mem_cons, List.mem_append] at hb h2
  rcases hb with rfl | rfl | hb | hb
  · exact h2 (.inl rfl)
  · exact h3
  · exact h2 (.inr (.inl hb))
  · exact h2 (.inr (.inr hb))
section
local macro_rules | `(tactic| k_all) => `(tactic| assumption)
local macro_rules | `(tactic| walk_at "call ref") => `(tactic| (k_here; (with_reducible show wpAny _ _ (call (Value.ref 259) [Value.str _ _]) _ _ _); k_dflt (refine' tell_use (size_tell _ _ _ _ ?hn _ _) ?k2 ?k3 ?k4 ?k5 ?kd ?ku ?_; (case hn => assumption); walk_at "tell_args"); intro r9 news9 h9 tk9 F9 N9 K9 P9; obtain ⟨e9, t9, e8⟩ := P9; subst e9; subst e8))
local macro_rules | `(tactic| walk_at "subscriptTail Name UnaryOp ref int") => `(tactic| (k_here; k_dflt (refine' last_item ?N ?hm ?_ ?hs; (case N => k_asm); (case hm => k_mem); (case hs => with_unfolding_all rfl))))
local macro_rules | `(tactic| walk_at "setItem ref int") => `(tactic| (k_here; k_dflt (refine' last_set ?F ?N ?U ?_; (case F => k_asm); (case N => k_asm); (case U => k_upd)); intro h' F' N'))
local macro_rules | `(tactic| walk_at "call builtin:list.append") => `(tactic| (k_here; k_dflt (refine' app_line ?F ?N ?U ?hl ?_; (case F => k_asm); (case N => k_asm); (case U => k_upd); (case hl => assumption)); intro h' F' N'))
local macro_rules | `(tactic| walk_at "truthy ref") => `(tactic| (k_here; k_dflt (refine' true_line ?N ?hm ?hl ?_; (case N => k_asm); (case hm => k_mem); (case hl => assumption))))
local macro_rules | `(tactic| walk_at "subscriptTail Subscript Constant ref int") => `(tactic| (k_here; k_dflt (refine' tup_line ?N ?hm ?a ?b ?hj ?hx ?_ ?hs; (case N => k_asm); (case hm => k_mem); (case a => decide); (case b => decide); (case hj => rfl); (case hx => rfl); (case hs => with_unfolding_all rfl))))
local macro_rules | `(tactic| walk_at "exec For Name Name cons nil") => `(tactic| (k_here; (rename Fr _ _ _ _ => lF'); (with_unfolding_all refine' For_invVF lF' ?k1 ?k2 ?_; (case k1 => exact rfl); (case k2 => exact rfl); k_whole)))
local macro_rules | `(tactic| walk_at "steps_iter") => `(tactic| repeat' ((fail_if_success (with_reducible show wpAny _ _ (pyIter (Value.str _ _)) _ _ _)); (first | (k_unfold; (try dsimp only)) | (k_end; wrow_close) | walk1 | (dsimp only; walk1) | (leave1; walk_say "STEP leave1"; try dsimp only) | fail "no step")))
theorem pieces_tell (w : World) (mg mb) (x : Str) (t : Tok) (hx : OkT x) (news : List (Addr × Obj)) :
    Tell w mg mb 271 8 news [.str x t] (fun news' r => ∃ D its n led, r = .ref D ∧ news' = (D, W.listOf (List.toArray its) n) :: (led ++ news) ∧ PcIn led its (piecesTo x x.cps.size) ∧ (∀ p ∈ led ++ news, p.1 ≠ D) ∧ ∀ p ∈ led, p.2.cls = .type "tuple") := by
  walk_at "my_fill"
  unfold Tell
  intro dp un gd fr h₀ L m s Q E F X N T hd hu hret
  dsimp only [PR, KK] at *
  walk_at "my_enter"
  have hlen := hx.len
  have hlen3 : x.cps.size ≤ 200 := hlen
  walk_at "steps_iter"
  rename News _ _ _ _ => N0
  rename Fr _ _ _ _ => F0
  obtain ⟨D, e1⟩ := names1 N0
  subst e1
  refine text_loop (σ := PS) (news := (D, W.listOf #[] 0) :: news) (fun _ => []) [Str.ofString "sign"] (fun i nx c => nx = (D, W.listOf c.its.toArray c.n) :: (c.led ++ news) ∧ PcIn c.led c.its (piecesTo x i) ∧ (∀ p ∈ c.led ++ news, p.1 ≠ D) ∧ ∀ p ∈ c.led, p.2.cls = .type "tuple") ⟨[], 0, []⟩ rfl (by assumption) (by assumption) (by simp) ⟨rfl, trivial, ?h0, fun _ hp => absurd hp List.not_mem_nil⟩ ?turn ?done
  case h0 =>
    rename (∀ p ∈ news, _) => l9
    exact fun p hp => Nat.ne_of_lt (l9 p hp)
  case turn =>
    rintro i n ⟨its, k, led⟩ u t nx h tk own hn hoff ⟨rfl, hpc, hD, hcl⟩ F₁ N₁
    dsimp only at hoff hpc hD hcl F₁ N₁
    have hc := hx.at hn
    have hp' := piecesTo_at hn
    have hlt : i < x.cps.size := (Array.getElem?_eq_some_iff.mp hn).1
    rcases List.eq_nil_or_concat its with rfl | ⟨fr', v, rfl⟩
    · have hp0 := hpc.nil
      simp only [List.cons_append] at N₁
      have hD' : ∀ q ∈ led ++ news ++ own, q.1 ≠ D := fun q hq => (List.mem_append.mp hq).elim (hD q) fun hq => hoff.ne (.head _) q hq
      k_steps
      rename News _ _ _ _ => NN
      (try simp only [List.push_toArray, List.nil_append] at NN)
      rename (_ ∧ AllLt _ _) => l9
      refine KL_end ⟨[_], _, (_, _) :: led⟩ _ (by assumption) NN lp_sub lp_own (lp_off hoff l9.2) (by simp) ?hr ⟨rfl, ?hp, ?hd, List.forall_mem_cons.mpr ⟨rfl, hcl⟩⟩
      case hr => walk_at "km_same"
      case hp =>
        rw [hp', hp0, ps_nil]
        exact PcIn.snoc (its := []) (sp := []) (p := (_, _)) (.head _) trivial
      case hd => exact List.forall_mem_cons.mpr ⟨by k_ne, hD⟩
    · rw [List.concat_eq_append] at *
      obtain ⟨sp', p, T, ta, tb', hsp0, rfl, hm, hfr⟩ := hpc.last
      replace N₁ := lp_dup N₁ hm
      have hle : (fr' ++ [Value.ref T]).length ≤ 200 := by rw [hpc.len]; exact Nat.le_trans (piecesTo_len x i) (by omega)
      have hps : p.1.length ≤ 200 := Nat.le_trans (pieces_short x i p (by rw [hsp0]; simp)) (by omega)
      have hD' : ∀ q ∈ _ :: (led ++ news ++ own), q.1 ≠ D := List.forall_mem_cons.mpr ⟨hD _ (List.mem_append_left _ hm), fun q hq => (List.mem_append.mp hq).elim (hD q) fun hq => hoff.ne (.head _) q hq⟩
      k_steps
      · rename (cellSize n = 0) => hz
        rename News _ _ _ _ => NN
        rename (_ ∧ _ ∧ AllLt _ _) => l9
        refine KL_end ⟨fr' ++ [_], _, (_, _) :: led⟩ _ (by assumption) NN lp_sub2 lp_own2 (lp_off hoff l9.2.2) (by simp) ?hr ⟨rfl, ?hp, ?hd, List.forall_mem_cons.mpr ⟨rfl, hcl⟩⟩
        case hr => walk_at "km_same"
        case hp =>
          rw [hp', hsp0, ps_last hz]
          exact PcIn.snoc (p := (_, _)) (.head _) (hfr.mono fun p hp => .tail _ hp)
        case hd => exact List.forall_mem_cons.mpr ⟨by k_ne, hD⟩
      · rename (¬ cellSize n = 0) => hz
        rename News _ _ _ _ => NN
        rename (_ ∧ _ ∧ AllLt _ _) => l9
        refine KL_end ⟨(fr' ++ [.ref T]) ++ [_], _, (_, _) :: led⟩ _ (by assumption) NN lp_sub2 lp_own2 (lp_off hoff l9.2.2) (by simp) ?hr ⟨rfl, ?hp, ?hd, List.forall_mem_cons.mpr ⟨rfl, hcl⟩⟩
        case hr => walk_at "km_same"
        case hp =>
          rw [hp', hsp0, ps_app hz, ← hsp0]
          exact PcIn.snoc (p := (_, _)) (.head _) (hpc.mono fun p hp => .tail _ hp)
        case hd => exact List.forall_mem_cons.mpr ⟨by k_ne, hD⟩
  case done =>
    rintro ⟨its, k, led⟩ u nx h tk ⟨rfl, hpc, hD, hcl⟩ F₁ N₁
    k_steps
    exact hret _ _ _ _ (by assumption) (by assumption) (by walk_at "keep_end") ⟨_, _, _, led, rfl, rfl, hpc, hD, hcl⟩
end
end Mine
end
namespace Mine
section
local macro_rules | `(tactic| walk_at "mine_nothing") => `(tactic| skip)
theorem fresh_LS0 : True ∧ True := by
  w_top off
  first | (walk1; fail "on") | exact ⟨trivial, trivial⟩
end
end Mine
section
open PySem PySem.W PyProof.Rows PySem.Calls PySem.Spec PyProof.V
set_option Elab.async false
set_option maxRecDepth 100000
set_option maxHeartbeats 0
namespace Mine
local macro_rules | `(tactic| walk_at "my_enter") => `(tactic| (refine wpAny_call ?_; walk_at "my_code"))
local macro_rules | `(tactic| walk_at "my_code") => `(tactic| (k_dflt (refine' code_q ?k1 ?k2 ?k3 ?k4 ?k6 ?k7 ?k8 ?k9 ?kB ?_ ?c2 ?c3 ?c4 ?c5; (case k1 => k_asm); (case k2 => k_asm); (case k3 => k_asm); (case k4 => k_asm); (case k6 => k_is); (case k7 => k_is); (case k8 => ktr_room); (case k9 => first | exact BindsTo.of_eq rfl | exact binds_K (by k_in) rfl (by k_is) rfl rfl rfl); (case c5 => decide); (case kB => exact locs rfl); (case c2 => exact rfl); (case c3 => exact rfl); (case c4 => exact rfl); k_whole; intro g' L' h' FG' F' N' kp' X' T' lt'; (try dsimp only); (try k_fold))))
local macro_rules | `(tactic| ktr_room) => `(tactic| ((try simp only [depth_under_make, depth_under_kw, depth_in1, depth_deeper, depth_caller]); (try dsimp only [qTop]); omega))
local macro_rules | `(tactic| ktr_units) => `(tactic| ((try simp only [units_in1, units_deeper, Around.mark_units, units_caller]); (try dsimp only [qTop]); omega))
local macro_rules | `(tactic| walk_at "my_fill") => `(tactic| ((have hkk : PySem.Challenge.rw_ey0020_01 = PySem.Challenge.rw_ey0020_01 ∧ hd.heap_39 = hd.heap_39 := by (k_fill; exact ⟨rfl, rfl⟩)); clear hkk))
local macro_rules | `(tactic| walk_at "km_same") => `(tactic| (intro z; intros; rename_i hs; simp only [List.contains_cons, List.contains_nil, Bool.or_false, Bool.or_eq_false_iff, beq_eq_false_iff_ne, ne_eq] at hs; simp [kstB, *]))
local macro_rules | `(tactic| walk_at "km_same2") => `(tactic| (intro z hz hs; simp only [List.contains_cons, List.contains_nil, Bool.or_false, Bool.or_eq_false_iff, beq_eq_false_iff_ne, ne_eq] at hs; simp only [List.forall_mem_cons, List.not_mem_nil, false_imp_iff, implies_true, and_true, ne_eq] at hz; simp [kstB, hz, hs]))
local macro_rules | `(tactic| walk_at "km_same3") => `(tactic| (intro z hx hz hs; simp only [List.contains_cons, List.contains_nil, Bool.or_false, Bool.or_eq_false_iff, beq_eq_false_iff_ne, ne_eq] at hs; simp only [List.forall_mem_cons, List.not_mem_nil, false_imp_iff, implies_true, and_true, ne_eq] at hz; simp [kstB, hx, hz, hs]))
local macro_rules | `(tactic| walk_at "tell_args") => `(tactic| ((case k2 => k_asm); (case k3 => k_asm); (case k4 => k_asm); (case k5 => k_asm); (case kd => ktr_room); (case ku => ktr_units)))
local macro_rules | `(tactic| walk_at "keep_end") => `(tactic| exact KeepsBut.then (by assumption) (by assumption))
local macro_rules | `(tactic| walk_at "steps_while") => `(tactic| repeat' ((fail_if_success (with_reducible show wpAny _ _ (exec (Stmt.While _ _ _ _) _) _ _ _)); (first | (k_unfold; (try dsimp only)) | (k_end; wrow_close) | walk1 | (dsimp only; walk1) | (leave1; walk_say "STEP leave1"; try dsimp only) | fail "no step")))
def catP : List Piece → Str
  | [] => ⟨#[]⟩
  | p :: r => p.1 ++ catP r
theorem catP_append : ∀ (a b : List Piece), catP (a ++ b) = catP a ++ catP b
  | [], b => (PyProof.Rows.FinIter.str_nil_append _).symm
  | p :: r, b => by show p.1 ++ catP (r ++ b) = p.1 ++ catP r ++ catP b; rw [catP_append r b, PySem.Str.append_assoc]
theorem catP_one (p : Piece) : catP [p] = p.1 := PyProof.Rows.FinIter.str_append_nil _
theorem catP_pstep (ps : List Piece) (c : Nat) : catP (pstep ps c) = catP ps ++ ⟨#[c]⟩ := by
  unfold pstep
  split
  · rename_i p e
    split
    · have e2 : ps = ps.dropLast ++ [p] := by
        have hne : ps ≠ [] := fun q => by rw [q] at e; cases e
        have := List.dropLast_concat_getLast hne
        rw [List.getLast?_eq_some_getLast hne] at e
        rw [Option.some.inj e] at this
        exact this.symm
      conv => rhs; rw [e2]
      rw [catP_append, catP_append, catP_one, catP_one, PySem.Str.append_assoc]
    · rw [catP_append, catP_one]
  · rename_i e
    rw [List.getLast?_eq_none_iff.mp e, catP_one]
    exact (PyProof.Rows.FinIter.str_nil_append _).symm
theorem catP_to (x : Str) : ∀ i, i ≤ x.cps.size → (catP (piecesTo x i)).cps = x.cps.extract 0 i
  | 0, _ => by simp [piecesTo, catP]
  | i + 1, h => by
    have hi : i < x.cps.size := h
    show (catP (pstep (piecesTo x i) (x.cps.getD i 0))).cps = _
    rw [catP_pstep, Str.cps_append, catP_to x i (Nat.le_of_lt hi), Array.getD_eq_getD_getElem?, Array.getElem?_eq_getElem hi]
    simp
def pcs (x : Str) : List Piece := piecesTo x x.cps.size
def pW (x : Str) (k : Nat) : Int := (((pcs x).take k).map (·.2)).sum
def pleft (x : Str) (k : Nat) : Str := catP ((pcs x).take k)
theorem pW_succ {x : Str} {k : Nat} {p : Piece} (h : (pcs x)[k]? = some p) : pW x (k + 1) = pW x k + p.2 := by
  unfold pW
  rw [List.take_add_one, h, List.map_append, List.sum_append]
  simp
theorem pleft_succ {x : Str} {k : Nat} {p : Piece} (h : (pcs x)[k]? = some p) : pleft x (k + 1) = pleft x k ++ p.1 := by
  unfold pleft
  rw [List.take_add_one, h, catP_append, Option.toList_some, catP_one]
theorem catP_all (x : Str) : catP (pcs x) = x := PySem.Str.ext' (by rw [pcs, catP_to x _ (Nat.le_refl _)]; simp)
theorem pleft_drop (x : Str) (k : Nat) : pleft x k ++ catP ((pcs x).drop k) = x := by
  unfold pleft
  rw [← catP_append, List.take_append_drop, catP_all]
theorem pleft_len (x : Str) (k : Nat) : (pleft x k).length ≤ x.length := by
  have := congrArg Str.length (pleft_drop x k)
  rw [PySem.Str.length_append] at this
  omega
def NotYet (x : Str) (pos : Int) (k : Nat) : Prop := ∀ j, j < k → pW x j ≠ pos ∧ pW x (j + 1) ≤ pos
def LawOut (x : Str) (pos : Int) (a b : Str) : Prop :=
  (pos ≤ 0 ∧ a = Str.ofString "" ∧ b = x) ∨
  (0 < pos ∧ NotYet x pos (pcs x).length ∧ a = x ∧ b = Str.ofString "") ∨
  (0 < pos ∧ ∃ (k : Nat) (p : Piece), (pcs x)[k]? = some p ∧ NotYet x pos k ∧ pW x k = pos ∧ a = pleft x k ∧ b = Txt.slice x (some ((pleft x k).length : Int)) none) ∨
  (0 < pos ∧ ∃ (k : Nat) (p : Piece), (pcs x)[k]? = some p ∧ NotYet x pos k ∧ pW x k ≠ pos ∧ pos < pW x k + p.2 ∧ a = pleft x k ++ Str.ofString " " ∧ b = Str.ofString " " ++ Txt.slice x (some ((pleft x k).length + p.1.length : Int)) none)
end Mine
end
namespace Mine
section
local macro_rules | `(tactic| walk_at "mine_nothing") => `(tactic| skip)
theorem fresh_LG : True ∧ True := by
  w_top off
  first | (walk1; fail "on") | exact ⟨trivial, trivial⟩
end
end Mine
section
open PySem PySem.W PyProof.Rows PySem.Calls PySem.Spec PyProof.V
set_option Elab.async false
set_option maxRecDepth 100000
set_option maxHeartbeats 0
namespace Mine
section
variable {prog : Program} {w : World} {A : Around} {E : Value → Shared → Prop} {s : Shared} {env : Env} {h₀ : Heap} {x : PySem.Str} {body : List Stmt} {Q : Flow → Shared → Prop}
/-- a loop over a range from 0 -/
theorem range_loop {σ : Type} {r : Addr} {b₀ : Int} {t₀ u₀ v₀ : Tok} {n : Nat} {m₀ : PySem.Str → Option Value} {news : List (Addr × Obj)} (ps : σ → List (PySem.Str × Value)) (stored : List PySem.Str) (P : Nat → List (Addr × Obj) → σ → Prop) (c₀ : σ)
    (hh : A.handled = none) (hr : IsRange s.heap r 0 b₀ 1 t₀ u₀ v₀) (hsmall : Builtin.Range.small 0 b₀ 1 = true) (hn : Builtin.Range.rangeSize 0 b₀ 1 = (n : Int)) (F : Fr h₀ env.locals s.heap m₀) (N : News h₀ env.locals s.heap news) (hk : ∀ p ∈ ps c₀, m₀ p.1 = some p.2) (hp : P 0 news c₀)
    (turn : ∀ i (c : σ) (u : PySem.Str → Option Value) t nx h tk own, i < n → OwnOff own (nx.map (·.1)) → P i nx c →
      Fr h₀ env.locals h (fun y => if y = x then some (.int (i : Int) t) else kstB (fun z => if stored.contains z then u z else m₀ z) (ps c) y) → News h₀ env.locals h (nx ++ own) →
      wpAny (model prog w) A (execs body env) (InvPostG h₀ env.locals (KL ps x stored m₀ (P (i + 1))) own { s with heap := h, toks := tk } Q) E { s with heap := h, toks := tk })
    (done : ∀ (c : σ) (u : PySem.Str → Option Value) nx h tk, P n nx c → Fr h₀ env.locals h (fun y => if y = x then u y else kstB (fun z => if stored.contains z then u z else m₀ z) (ps c) y) → News h₀ env.locals h nx → Q .next { s with heap := h, toks := tk }) :
    wpAny (model prog w) A (pyIter (.ref r)) (fun it s₂ => LoopAtV prog w A h₀ env x body Q E it s₂) E s := by
  refine wpAny_pyIter_range hr hsmall ?_
  have W : Walks prog w A s.heap.objs.size [s.heap.objs.size] [s.heap.objs.size] n (fun i v => i < n ∧ ∃ t, v = .int (0 + i * 1) t)
      (fun i h => IsRangeIter h s.heap.objs.size (0 + (i : Nat) * 1) ((n : Int) - (i : Nat)) 1) := (Walks.range hh _ 0 1 n).bound
  refine kdr_loop (fun i m nx => KL ps x stored m₀ (P i) m nx) W (fun _ h => h) (fun _ h => h) ?_ ?_ ?_ ?_ (by show IsRangeIter _ _ _ _ _; rw [hn]; simpa using Heap.get?_push_size _ rfl) (F.push _) (fun p hp => ⟨Heap.get?_push_of_some _ (N p hp).1, (N p hp).2⟩) ⟨c₀, hk, fun _ _ _ _ => rfl, hp⟩ ?_ ?_
  · intro i h hi b hb
    rw [List.mem_singleton.mp hb]
    exact ⟨_, hi⟩
  · intro hm
    exact absurd F.ns.lt ((List.mem_singleton.mp hm) ▸ Nat.lt_irrefl _)
  · intro b hb
    rw [List.mem_singleton.mp hb]
    exact next_is_new F
  · intro p hp hI
    exact absurd (Heap.lt_size (N p hp).1) ((List.mem_singleton.mp hI) ▸ Nat.lt_irrefl _)
  · rintro i v m₁ nx h tk own hi ⟨_, t, rfl⟩ hoff ⟨c, h1, h2, hp'⟩ F₁ N₁
    have e1 : (0 : Int) + (i : Int) * 1 = (i : Int) := by omega
    rw [e1] at F₁
    exact turn i c m₁ t nx h tk own hi hoff hp' (kst_fr h1 h2 F₁) N₁
  · rintro m₁ nx h tk ⟨c, h1, h2, hp'⟩ F₁ N₁
    exact done c m₁ nx h tk hp' (kst_frOut h1 h2 F₁) N₁
/-- a turn's end where generators may be left behind -/
def GEnd (h₀ : Heap) (L : Addr) (J : (PySem.Str → Option Value) → List (Addr × Obj) → Prop) (own : List (Addr × Obj)) (s₁ s₃ : Shared) : Prop :=
  ∃ h' tk gs m' news' nx, s₃ = { s₁ with heap := h', toks := tk, gens := gs } ∧ AllBare gs ∧ Fr h₀ L h' m' ∧ News h₀ L h' news' ∧ (∀ p ∈ nx, p ∈ news') ∧ (∀ p ∈ own, p ∈ news') ∧ OwnOff own (nx.map (·.1)) ∧ J m' nx
def GPost (h₀ : Heap) (L : Addr) (J : (PySem.Str → Option Value) → List (Addr × Obj) → Prop) (own : List (Addr × Obj)) (s₁ : Shared) (Q : Flow → Shared → Prop) (f : Flow) (s₃ : Shared) : Prop :=
  match f with
  | .ret v => Q (.ret v) s₃
  | .brk => Q .next s₃
  | _ => GEnd h₀ L J own s₁ s₃
theorem for_range_g {px pos : Pos} {iter : Expr} {b₀ : Int} {n : Nat} {m₀ : PySem.Str → Option Value} {news : List (Addr × Obj)} (J : Nat → (PySem.Str → Option Value) → List (Addr × Obj) → Prop)
    (hh : A.handled = none) (G : AllBare s.gens) (hj : J 0 m₀ news) (hx : env.kindOf x = some .local)
    (hp : (env.scope.kind == .class || (env.scope.kind == .module && env.locals != env.globals)) = false)
    (hsmall : Builtin.Range.small 0 b₀ 1 = true) (hn : Builtin.Range.rangeSize 0 b₀ 1 = (n : Int))
    (hev : wpAny (model prog w) A (eval iter env) (fun v s₁ => ∃ r t₀ u₀ v₀ h' tk, v = .ref r ∧ s₁ = { s with heap := h', toks := tk } ∧ IsRange h' r 0 b₀ 1 t₀ u₀ v₀ ∧ Fr h₀ env.locals h' m₀ ∧ News h₀ env.locals h' news) E s)
    (turn : ∀ i t m₁ nx h tk gs own, i < n → OwnOff own (nx.map (·.1)) → AllBare gs → J i m₁ nx → Fr h₀ env.locals h (fun y => if y = x then some (.int (i : Int) t) else m₁ y) → News h₀ env.locals h (nx ++ own) →
      wpAny (model prog w) A (execs body env) (GPost h₀ env.locals (J (i + 1)) own { s with heap := h, toks := tk, gens := gs } Q) E { s with heap := h, toks := tk, gens := gs })
    (done : ∀ m₁ nx h tk gs, AllBare gs → J n m₁ nx → Fr h₀ env.locals h m₁ → News h₀ env.locals h nx → Q .next { s with heap := h, toks := tk, gens := gs })
    (hs : ∀ x, foldedSetIterable iter env x = pure x := by intro _; rfl)
    (hE : PassesOwn (model prog w) A env E := by passes_own) :
    wpAny (model prog w) A (exec (.For (.Name x px) iter body [] pos) env) Q E s := by
  refine wpAny_For (wpAny_mono hev (fun v s₁ h₁ => ?_) fun _ _ e => e) hs
  obtain ⟨r, t₀, u₀, v₀, h', tk', rfl, rfl, hr, F, N⟩ := h₁
  refine wpAny_pyIter_range hr hsmall ?_
  have W : Walks prog w A h'.objs.size [h'.objs.size] [h'.objs.size] n (fun i v => i < n ∧ ∃ t, v = .int (0 + i * 1) t)
      (fun i h => IsRangeIter h h'.objs.size (0 + (i : Nat) * 1) ((n : Int) - (i : Nat)) 1) := (Walks.range hh _ 0 1 n).bound
  have hLI : env.locals ≠ h'.objs.size := Nat.ne_of_lt F.ns.lt
  have hI0 : h₀.get? h'.objs.size = none := next_is_new F
  have old : ∀ b o, h₀.get? b = some o → b ∉ [h'.objs.size] := fun b o e hb => by rw [List.mem_singleton.mp hb, hI0] at e; cases e
  refine codeAny_forLoop
    (fun k s' => ∃ h' tk gs m' nx i, s' = { s with heap := h', toks := tk, gens := gs } ∧ AllBare gs ∧ IsRangeIter h' _ (0 + (i : Nat) * 1) ((n : Int) - (i : Nat)) 1 ∧ Fr h₀ env.locals h' m' ∧ News h₀ env.locals h' nx ∧ (∀ p ∈ nx, p.1 ∉ [_]) ∧ J i m' nx ∧ i ≤ n ∧ k = n + 1 - i) ?_ (n + 1)
    ⟨_, _, _, m₀, news, 0, rfl, G, by show IsRangeIter _ _ _ _ _; rw [hn]; simpa using Heap.get?_push_size _ rfl, F.push _, fun p hp => ⟨Heap.get?_push_of_some _ (N p hp).1, (N p hp).2⟩, fun p hp hI => absurd (Heap.lt_size (N p hp).1) ((List.mem_singleton.mp hI) ▸ Nat.lt_irrefl _), hj, Nat.zero_le _, rfl⟩
  rintro k s' ⟨h₂, tk₂, gs, m₂, nx, i, rfl, Gs, hst, F₂, N₂, hnw, hJ, hi, rfl⟩
  have next : ∀ h₁ : Heap, (∀ b o, b ∉ [h'.objs.size] → h₂.get? b = some o → h₁.get? b = some o) → Fr h₀ env.locals h₁ m₂ ∧ News h₀ env.locals h₁ nx := fun h₁ hk₁ =>
    ⟨⟨F₂.ns.at' fun o e => hk₁ _ o (fun q => hLI (List.mem_singleton.mp q)) e, fun b o e => hk₁ b o (old b o e) (F₂.keep b o e), F₂.above⟩, fun p hp => ⟨hk₁ _ _ (hnw p hp) (N₂ p hp).1, (N₂ p hp).2⟩⟩
  by_cases hlt : i < n
  · refine W.item i _ _ _ hlt hst fun v h₃ tk₃ hP hst₃ hk₃ => ?_
    obtain ⟨_, t, rfl⟩ := hP
    have e1 : (0 : Int) + (i : Int) * 1 = (i : Int) := by omega
    rw [e1]
    obtain ⟨F₃, N₃⟩ := next h₃ hk₃
    refine wpAny_assign_Name (wpAny_storeName_local hx F₃.ns (fun h₅ hn₅ hs₅ => ?_) hp)
    have F₅ := F₃.set hn₅ hs₅
    have N₅ := N₃.set hs₅
    have Nown : News h₀ env.locals h₅ (PyProof.Rows.ownOf h₀ [h'.objs.size] h₅) := news_ownOf (fun q => hLI (List.mem_singleton.mp q))
    have hst₅ : IsRangeIter h₅ h'.objs.size (0 + ((i + 1 : Nat) : Int) * 1) ((n : Int) - ((i + 1 : Nat) : Int)) 1 := W.frame _ _ _ hst₃ fun b hb o e => (hs₅.2 b fun q => hLI (q ▸ List.mem_singleton.mp hb)).trans e
    have hoff : OwnOff (PyProof.Rows.ownOf h₀ [h'.objs.size] h₅) (nx.map (·.1)) := by
      intro p hp b hb e
      obtain ⟨q, hq, rfl⟩ := List.mem_map.mp hb
      exact hnw q hq (e ▸ ownOf_sub p hp)
    have fin : ∀ s₃, GEnd h₀ env.locals (J (i + 1)) (PyProof.Rows.ownOf h₀ [h'.objs.size] h₅) { s with heap := h₅, toks := tk₃ + 1, gens := gs } s₃ →
        ∃ m, m < n + 1 - i ∧ ∃ h'' tk gs m' nx i, s₃ = { s with heap := h'', toks := tk, gens := gs } ∧ AllBare gs ∧ IsRangeIter h'' h'.objs.size (0 + (i : Nat) * 1) ((n : Int) - (i : Nat)) 1 ∧ Fr h₀ env.locals h'' m' ∧ News h₀ env.locals h'' nx ∧ (∀ p ∈ nx, p.1 ∉ [h'.objs.size]) ∧ J i m' nx ∧ i ≤ n ∧ m = n + 1 - i := by
      rintro s₃ ⟨h₄, tk₄, gs₄, m₄, n₄, nx₄, rfl, G₄, F₄, N₄, hn₄, ho₄, ha₄, hJ₄⟩
      refine ⟨n + 1 - (i + 1), by omega, h₄, tk₄, gs₄, m₄, nx₄, i + 1, rfl, G₄, ?_, F₄, fun p hp => N₄ p (hn₄ p hp), ?_, hJ₄, hlt, rfl⟩
      · refine W.frame _ _ _ hst₅ fun b hb o e => ?_
        cases hn : h₀.get? b with
        | some o₀ =>
          have : o₀ = o := by have q := F₅.keep b o₀ hn; rw [e] at q; exact (Option.some.inj q).symm
          exact this ▸ F₄.keep b o₀ hn
        | none => exact (N₄ _ (ho₄ _ (mem_ownOf hb hn e))).1
      · intro p hp hb
        obtain ⟨ob, hob⟩ : ∃ o, h₅.get? p.1 = some o := by rw [List.mem_singleton.mp hb]; exact ⟨_, hst₅⟩
        exact ha₄ _ (mem_ownOf hb (by rw [List.mem_singleton.mp hb]; exact hI0) hob) p.1 (List.mem_map.mpr ⟨p, hp, rfl⟩) rfl
    refine wpAny_passesOwn hE (wpAny_mono (turn i t m₂ nx h₅ (tk₃ + 1) gs _ hlt hoff Gs hJ F₅ (fun p hp => (List.mem_append.mp hp).elim (N₅ p) (Nown p))) (fun f s₃ h₃ => ?_) fun _ _ e => e)
    cases f with
    | ret v => exact h₃
    | brk => exact h₃
    | next => exact fin _ h₃
    | cont => exact fin _ h₃
  · have hin : i = n := by omega
    subst hin
    refine W.done _ _ _ hst fun h₁ tk₁ hk₁ => ?_
    obtain ⟨F₁, N₁⟩ := next h₁ hk₁
    exact wpAny_execs_nil (done m₂ nx h₁ tk₁ gs Gs hJ F₁ N₁)
end
end Mine
end
namespace Mine
section
local macro_rules | `(tactic| walk_at "mine_nothing") => `(tactic| skip)
theorem fresh_LS : True ∧ True := by
  w_top off
  first | (walk1; fail "on") | exact ⟨trivial, trivial⟩
end
end Mine
section
open PySem PySem.W PyProof.Rows PySem.Calls PySem.Spec PyProof.V
set_option Elab.async false
set_option maxRecDepth 100000
set_option maxHeartbeats 0
namespace Mine
local macro_rules | `(tactic| walk_at "my_enter") => `(tactic| (refine wpAny_call ?_; walk_at "my_code"))
local macro_rules | `(tactic| walk_at "my_code") => `(tactic| (k_dflt (refine' code_q ?k1 ?k2 ?k3 ?k4 ?k6 ?k7 ?k8 ?k9 ?kB ?_ ?c2 ?c3 ?c4 ?c5; (case k1 => k_asm); (case k2 => k_asm); (case k3 => k_asm); (case k4 => k_asm); (case k6 => k_is); (case k7 => k_is); (case k8 => ktr_room); (case k9 => first | exact BindsTo.of_eq rfl | exact binds_K (by k_in) rfl (by k_is) rfl rfl rfl); (case c5 => decide); (case kB => exact locs rfl); (case c2 => exact rfl); (case c3 => exact rfl); (case c4 => exact rfl); k_whole; intro g' L' h' FG' F' N' kp' X' T' lt'; (try dsimp only); (try k_fold))))
local macro_rules | `(tactic| ktr_room) => `(tactic| ((try simp only [depth_under_make, depth_under_kw, depth_in1, depth_deeper, depth_caller]); (try dsimp only [qTop]); omega))
local macro_rules | `(tactic| ktr_units) => `(tactic| ((try simp only [units_in1, units_deeper, Around.mark_units, units_caller]); (try dsimp only [qTop]); omega))
local macro_rules | `(tactic| walk_at "my_fill") => `(tactic| ((have hkk : PySem.Challenge.rw_ey0020_01 = PySem.Challenge.rw_ey0020_01 ∧ hd.heap_39 = hd.heap_39 := by (k_fill; exact ⟨rfl, rfl⟩)); clear hkk))
local macro_rules | `(tactic| walk_at "km_same") => `(tactic| (intro z; intros; rename_i hs; simp only [List.contains_cons, List.contains_nil, Bool.or_false, Bool.or_eq_false_iff, beq_eq_false_iff_ne, ne_eq] at hs; simp [kstB, *]))
local macro_rules | `(tactic| walk_at "km_same2") => `(tactic| (intro z hz hs; simp only [List.contains_cons, List.contains_nil, Bool.or_false, Bool.or_eq_false_iff, beq_eq_false_iff_ne, ne_eq] at hs; simp only [List.forall_mem_cons, List.not_mem_nil, false_imp_iff, implies_true, and_true, ne_eq] at hz; simp [kstB, hz, hs]))
local macro_rules | `(tactic| walk_at "km_same3") => `(tactic| (intro z hx hz hs; simp only [List.contains_cons, List.contains_nil, Bool.or_false, Bool.or_eq_false_iff, beq_eq_false_iff_ne, ne_eq] at hs; simp only [List.forall_mem_cons, List.not_mem_nil, false_imp_iff, implies_true, and_true, ne_eq] at hz; simp [kstB, hx, hz, hs]))
local macro_rules | `(tactic| walk_at "tell_args") => `(tactic| ((case k2 => k_asm); (case k3 => k_asm); (case k4 => k_asm); (case k5 => k_asm); (case kd => ktr_room); (case ku => ktr_units)))
local macro_rules | `(tactic| walk_at "keep_end") => `(tactic| exact KeepsBut.then (by assumption) (by assumption))
local macro_rules | `(tactic| walk_at "steps_while") => `(tactic| repeat' ((fail_if_success (with_reducible show wpAny _ _ (exec (Stmt.While _ _ _ _) _) _ _ _)); (first | (k_unfold; (try dsimp only)) | (k_end; wrow_close) | walk1 | (dsimp only; walk1) | (leave1; walk_say "STEP leave1"; try dsimp only) | fail "no step")))
structure SS where
  i : Nat
  ts : Tok
  tl : Tok
theorem namesP {h₀ h : Heap} {L D : Addr} {its : List Value} {led r : List (Addr × Obj)} {ps : List Piece} {n : Nat} (_ : PcIn led its ps) (_ : News h₀ L h ((D, W.listOf its.toArray n) :: r)) : ∃ D' its' led' n', D' = D ∧ its' = its ∧ led' = led ∧ n' = n := ⟨_, _, _, _, rfl, rfl, rfl, rfl⟩
theorem ls_keep {h₀ h : Heap} {L : Addr} {a b d : Addr × Obj} {led news own : List (Addr × Obj)} (N : News h₀ L h (a :: d :: b :: (led ++ news ++ own))) : News h₀ L h (a :: news) := fun p hp => N p (by
  simp only [List.mem_cons, List.mem_append] at hp ⊢
  rcases hp with h | h
  · exact .inl h
  · exact .inr (.inr (.inr (.inl (.inr h)))))
theorem ls_keep2 {h₀ h : Heap} {L : Addr} {a d : Addr × Obj} {led news : List (Addr × Obj)} (N : News h₀ L h (a :: d :: (led ++ news))) : News h₀ L h (a :: news) := fun p hp => N p (by
  simp only [List.mem_cons, List.mem_append] at hp ⊢
  rcases hp with h | h
  · exact .inl h
  · exact .inr (.inr (.inr h)))
theorem ls_sub {a b d : Addr × Obj} {led news own : List (Addr × Obj)} : ∀ p ∈ d :: (led ++ news), p ∈ a :: d :: b :: (led ++ news ++ own) := by
  intro p hp
  simp only [List.mem_cons, List.mem_append] at hp ⊢
  rcases hp with h | h | h
  · exact .inr (.inl h)
  · exact .inr (.inr (.inr (.inl (.inl h))))
  · exact .inr (.inr (.inr (.inl (.inr h))))
theorem ls_own {a b d : Addr × Obj} {l own : List (Addr × Obj)} : ∀ p ∈ own, p ∈ a :: d :: b :: (l ++ own) := fun p hp => .tail _ (.tail _ (.tail _ (List.mem_append_right _ hp)))
section
local macro_rules | `(tactic| k_all) => `(tactic| assumption)
local macro_rules | `(tactic| walk_at "call ref") => `(tactic| (k_here; (with_reducible show wpAny _ _ (call (Value.ref 271) [Value.str _ _]) _ _ _); k_dflt (refine' tell_use (pieces_tell _ _ _ _ _ ?hx _) ?k2 ?k3 ?k4 ?k5 ?kd ?ku ?_; (case hx => k_asm); walk_at "tell_args"); intro r9 news9 h9 tk9 F9 N9 K9 P9; obtain ⟨D9, its9, n9, led9, e9, e8, pc9, of9, cl9⟩ := P9; subst e9; subst e8))
local macro_rules | `(tactic| walk_at "call builtin:len") => `(tactic| (k_here; k_dflt (refine' len_line ?N ?hm ?hl ?_; (case N => k_asm); (case hm => k_mem); (case hl => (rw [PcIn.len (by assumption)]; exact Nat.le_trans (piecesTo_len _ _) (by assumption))))))
local macro_rules | `(tactic| walk_at "subscriptTail Name Name ref int") => `(tactic| (k_here; k_dflt (refine' at_line ?N ?hm ?h0 ?h1 ?hx ?_ ?hs; (case N => k_asm); (case hm => k_mem); (case h0 => omega); (case h1 => omega); (case hx => assumption); (case hs => with_unfolding_all rfl))))
local macro_rules | `(tactic| walk_at "exec For Name Call cons nil") => `(tactic| (k_here; (rename Fr _ _ _ _ => lF'); (with_unfolding_all refine' For_invVF lF' ?k1 ?k2 ?_; (case k1 => exact rfl); (case k2 => exact rfl); k_whole)))
local macro_rules | `(tactic| walk_at "steps_iter") => `(tactic| repeat' ((fail_if_success (with_reducible show wpAny _ _ (pyIter (Value.ref _)) _ _ _)); (first | (k_unfold; (try dsimp only)) | (k_end; wrow_close) | walk1 | (dsimp only; walk1) | (leave1; walk_say "STEP leave1"; try dsimp only) | fail "no step")))
theorem split2_tell (w : World) (mg mb) (x : Str) (t : Tok) (pos : Int) (tp : Tok) (hx : OkT x) (news : List (Addr × Obj)) :
    Tell w mg mb 278 12 news [.str x t, .int pos tp] (fun news' r => ∃ (T : Addr) (a b : Str) (ta tb : Tok), r = .ref T ∧ news' = (T, tupO [.str a ta, .str b tb]) :: news ∧ LawOut x pos a b) := by
  walk_at "my_fill"
  unfold Tell
  intro dp un gd fr h₀ L m s Q E F X N T hd hu hret
  dsimp only [PR, KK] at *
  walk_at "my_enter"
  have hlen := hx.len
  have hlen2 : x.length = x.cps.size := rfl
  have hlen3 : x.cps.size ≤ 200 := hlen
  walk_at "steps_iter"
  · rename News _ _ _ _ => NN
    exact hret _ _ _ _ (by assumption) NN (by walk_at "keep_end") ⟨_, _, _, _, _, rfl, rfl, .inl ⟨by assumption, rfl, rfl⟩⟩
  rename PcIn _ _ _ => pc9
  rename News _ _ _ _ => N1
  rename Fr _ _ _ _ => F1
  rename IsRange _ _ _ _ _ _ _ _ => R1
  replace N1 := kti_tail N1
  obtain ⟨D, its, led, n, e1, e2, e3, e4⟩ := namesP pc9 N1
  subst e1 e2 e3 e4
  have hpl : its.length = (pcs x).length := pc9.len
  have hits : its.length ≤ 200 := by rw [hpl]; exact Nat.le_trans (piecesTo_len _ _) hlen3
  have hposi : 0 < pos := by omega
  refine' range_loop (σ := SS) (n := (pcs x).length) (fun c => [(Str.ofString "size", .int (pW x c.i) c.ts), (Str.ofString "left", .str (pleft x c.i) c.tl)]) [Str.ofString "piece", Str.ofString "own"] (fun i nx c => c.i = i ∧ nx = (D, W.listOf its.toArray n) :: (led ++ news) ∧ NotYet x pos i) ⟨0, _, _⟩ rfl R1 (small_one (by omega) (by omega) (by omega) (by omega)) ?hsz F1 N1 ?hk ⟨rfl, rfl, fun j hj => absurd hj (Nat.not_lt_zero _)⟩ ?turn ?done
  case hsz => rw [rangeSize_nat]; omega
  case hk => (refine List.forall_mem_cons.mpr ⟨?_, List.forall_mem_cons.mpr ⟨?_, List.forall_mem_nil _⟩⟩ <;> with_unfolding_all exact rfl)
  case turn =>
    rintro i ⟨i', ts, tl⟩ u t₁ nx h tk own hi hoff ⟨rfl, rfl, hny⟩ F₁ N₁
    dsimp only at hi hny hoff F₁ N₁
    have ep : (pcs x)[i']? = some (pcs x)[i'] := List.getElem?_eq_getElem hi
    generalize (pcs x)[i'] = p at ep
    obtain ⟨T, ta, tb', eT, hTm⟩ := pc9.at ep
    have eT' : its[((i' : Nat) : Int).toNat]? = some (.ref T) := by simpa using eT
    have hw := pW_succ ep
    have hl := pleft_succ ep
    have hll := pleft_len x i'
    have hll2 := pleft_len x (i' + 1)
    rw [hl, PySem.Str.length_append] at hll2
    have hpl2 : p.1.length ≤ 200 := by omega
    have hpl3 : (pleft x i').length ≤ 200 := by omega
    replace N₁ := lp_dup N₁ hTm
    k_steps
    · rename News _ _ _ _ => NN
      exact hret _ _ _ _ (by assumption) (ls_keep NN) (by walk_at "keep_end") ⟨_, _, _, _, _, rfl, rfl, .inr (.inr (.inl ⟨hposi, i', p, ep, hny, by omega, rfl, rfl⟩))⟩
    · rename News _ _ _ _ => NN
      exact hret _ _ _ _ (by assumption) (ls_keep NN) (by walk_at "keep_end") ⟨_, _, _, _, _, rfl, rfl, .inr (.inr (.inr ⟨hposi, i', p, ep, hny, by omega, by omega, rfl, rfl⟩))⟩
    · rename News _ _ _ _ => NN
      rename Fr _ _ _ _ => FF
      rw [← hw, ← hl] at FF
      refine' KL_end ⟨i' + 1, _, _⟩ _ FF NN ls_sub ls_own hoff ?kk ?kr ⟨rfl, rfl, ?kp⟩
      case kk => (refine List.forall_mem_cons.mpr ⟨?_, List.forall_mem_cons.mpr ⟨?_, List.forall_mem_nil _⟩⟩ <;> with_unfolding_all exact rfl)
      case kr => walk_at "km_same3"
      case kp =>
        intro j hj
        by_cases e : j = i'
        · subst e
          exact ⟨by omega, by omega⟩
        · exact hny j (by omega)
  case done =>
    rintro ⟨i', ts, tl⟩ u nx h tk ⟨rfl, rfl, hny⟩ F₁ N₁
    dsimp only at hny F₁ N₁
    k_steps
    rename News _ _ _ _ => NN
    exact hret _ _ _ _ (by assumption) (ls_keep2 NN) (by walk_at "keep_end") ⟨_, _, _, _, _, rfl, rfl, .inr (.inl ⟨hposi, hny, rfl, rfl⟩)⟩
end
end Mine
end
namespace Mine
section
local macro_rules | `(tactic| walk_at "mine_nothing") => `(tactic| skip)
theorem fresh_LH : True ∧ True := by
  w_top off
  first | (walk1; fail "on") | exact ⟨trivial, trivial⟩
end
end Mine
section
open PySem PySem.W PyProof.Rows PySem.Calls PySem.Spec PyProof.V
set_option Elab.async false
set_option maxRecDepth 100000
set_option maxHeartbeats 0
namespace Mine
open PyProof.Rows.LCg in
section
variable {prog : Program} {w : World} {A : Around} {E : Value → Shared → Prop} {s : Shared} {h₀ : Heap} {L C : Addr} {m mg mb : PySem.Str → Option Value} {env : Env}
/-- a comprehension over a text's signs -/
def StrSrc (prog : Program) (w : World) (A : Around) (h₀ : Heap) (L : Addr) (m : PySem.Str → Option Value) (env : Env) (elt : PySem.Expr) (x : PySem.Str) (scope : Scope) (cl : List (PySem.Str × Addr)) (Fin : Shared → List Value → List (Addr × Obj) → Prop) (xv : Value) (s₁ : Shared) : Prop :=
  ∃ y t news, xv = .str y t ∧ A.handled = none ∧ Fr h₀ L s₁.heap m ∧ News h₀ L s₁.heap news ∧ y.cps.size ≤ sizeLine ∧
    ∀ s₂ : Shared, (∃ h, s₂ = { s₁ with heap := h }) → CompRest prog w A h₀ L m env elt x scope cl s₂ (fun _ => True) (SignAt y) (Fin s₂) y.cps.size 0 [] news
theorem StrSrc.intro {elt : PySem.Expr} {x : PySem.Str} {scope : Scope} {cl : List (PySem.Str × Addr)} {Fin : Shared → List Value → List (Addr × Obj) → Prop} {y : PySem.Str} {t : Tok} {news : List (Addr × Obj)} {s₁ : Shared}
    (hh : A.handled = none) (F : Fr h₀ L s₁.heap m) (N : News h₀ L s₁.heap news) (hsz : y.cps.size ≤ sizeLine)
    (h : ∀ g, CompRest prog w A h₀ L m env elt x scope cl { s₁ with heap := g } (fun _ => True) (SignAt y) (Fin { s₁ with heap := g }) y.cps.size 0 [] news) :
    StrSrc prog w A h₀ L m env elt x scope cl Fin (.str y t) s₁ := ⟨y, t, news, rfl, hh, F, N, hsz, fun _ ⟨g, e⟩ => e ▸ h g⟩
theorem ListComp_str {elt iter : PySem.Expr} {x : PySem.Str} {px : Pos} {scope : Scope} {cl : List (PySem.Str × Addr)} {pos : Pos} {Q : Value → Shared → Prop} (_F₀ : Fr h₀ L s.heap m)
    (hclos : closureFor scope env = pure cl) (hcell : ∀ y ∈ scope.names, y.2 ≠ .cell) (hkind : scope.kind = .function)
    (hnames : ∀ y ∈ scope.names, y.2 = .local → scope.names.lookup y.1 = some .local) (hx : scope.names.lookup x = some .local)
    (h : wpAny (model prog w) A (eval iter env) (StrSrc prog w A h₀ L m env elt x scope cl (fun s₂ => FinE h₀ L m s₂ Q)) E s)
    (hs : ∀ x, foldedSetIterable iter env x = pure x := by intro _; rfl) :
    wpAny (model prog w) A (eval (.ListComp elt [⟨.Name x px, iter, [], 0⟩] scope pos) env) Q E s := by
  rw [eval_ListComp]
  refine wpAny_comprehension_free (use := none) rfl hs hclos hkind hnames (wpAny_mono h (fun xv s₁ h₁ => ?_) fun _ _ e => e)
  obtain ⟨y, t, news, rfl, hh, F, N, hsz, R⟩ := h₁
  have up : ∀ (o : Obj) (b : Addr) (o' : Obj), s₁.heap.get? b = some o' → (s₁.heap.push o).get? b = some o' := fun _ _ _ e => Heap.get?_push_of_some _ e
  have sit : ∀ (cls : String) (o : Obj), Walks prog w A s₁.heap.objs.size [s₁.heap.objs.size] [s₁.heap.objs.size] y.cps.size (SignAt y) (fun i h => h.IsStrIter s₁.heap.objs.size cls y t i) → (s₁.heap.push o).IsStrIter s₁.heap.objs.size cls y t 0 → _ :=
    fun cls o W hst => block_U (E := E) (pos := pos) (iter := iter) (px := px) (RR := compPost (model prog w) A E none Q) W hsz (fun _ _ st => ⟨st.choose, st.choose_spec.1⟩)
      (fun i h h' o _ st e e' _ _ _ => by
        obtain ⟨q, hq, r⟩ := st
        rw [e] at hq
        exact ⟨o, e', Option.some.inj hq ▸ r⟩)
      hcell hkind hx hst
      (fun b hb => by
        rw [List.mem_singleton.mp hb]
        exact Nat.lt_of_lt_of_eq (Nat.lt_succ_self _) (Heap.size_push _ _).symm)
      (F.keeps (up o)) (N.grown (up o)) (Nat.ne_of_lt F.ns.lt) (next_is_new F) (fun p hp => Nat.ne_of_lt (Heap.lt_size (N p hp).1)) trivial (R { s₁ with heap := s₁.heap.push o } ⟨_, rfl⟩)
      fun D C h tk m' ys made F' N' o1 hn hC₀ _ hCL _ hCD offC fin => ⟨m', hn, fun h'' hs'' => fin D h'' tk (F'.change hs'' hCL hC₀)
        (List.forall_mem_cons.mpr ⟨⟨hs''.extBut _ _ (Ne.symm hCD) (N' _ (.head _)).1, (N' _ (.head _)).2⟩, fun p hp => ⟨hs''.extBut _ _ (offC p hp) (N' p (.tail _ hp)).1, (N' p (.tail _ hp)).2⟩⟩) o1⟩
  by_cases ha : y.cps.all (· < 128) = true
  · exact wpAny_pyIter_ascii ha (sit _ _ (Walks.strAscii hh _ y t) ⟨_, Heap.get?_push_size _ rfl, rfl, rfl⟩)
  · exact wpAny_pyIter_wide (Bool.eq_false_iff.mpr ha) (sit _ _ (Walks.strWide hh _ y t) ⟨_, Heap.get?_push_size _ rfl, rfl, rfl⟩)
end
end Mine
end
namespace Mine
section
local macro_rules | `(tactic| walk_at "mine_nothing") => `(tactic| skip)
theorem fresh_LI : True ∧ True := by
  w_top off
  first | (walk1; fail "on") | exact ⟨trivial, trivial⟩
end
end Mine
section
open PySem PySem.W PyProof.Rows PySem.Calls PySem.Spec PyProof.V
set_option Elab.async false
set_option maxRecDepth 100000
set_option maxHeartbeats 0
namespace Mine
section
variable {w : World} {A : Around} {E : Value → Shared → Prop} {s : Shared} {h₀ : Heap} {L : Addr} {m : PySem.Str → Option Value} {news : List (Addr × Obj)}
theorem ne_tup {T T' : Addr} {a b a' b' : PySem.Str} {ta tb ta' tb' : Tok} {Q : Value → Shared → Prop} (N : News h₀ L s.heap news) (h1 : (T, tupO [.str a ta, .str b tb]) ∈ news) (h2 : (T', tupO [.str a' ta', .str b' tb']) ∈ news) (hu : A.units < cLine) (ha : a = a') (hb : b = b') (h : Q (.bool false) s) :
    wpAny (model PR w) A (compareOp .NotEq (.ref T) (.ref T')) Q E s := by
  subst ha hb
  refine SeqAt.RcNeAt.tuples (e := fun _ => true) (N.isTup h1) (N.isTup h2) hu (fun j j1 j2 => ?_) _ _ _ _ (show Q (.bool false) s from h)
  have hj : j < 2 := j1
  match j, hj with
  | 0, _ => simpa using SeqAt.EqAt.str_str a ta a ta'
  | 1, _ => simpa using SeqAt.EqAt.str_str b tb b tb'
end
section
variable {prog : Program} {w : World} {A : Around} {E : Value → Shared → Prop} {s : Shared} {env : Env} {h₀ : Heap} {x : PySem.Str} {body : List Stmt} {Q : Flow → Shared → Prop}
/-- a range made, nothing else turned -/
def RgAt (h₀ : Heap) (L : Addr) (m₀ : PySem.Str → Option Value) (news : List (Addr × Obj)) (b₀ : Int) (s : Shared) (v : Value) (s₁ : Shared) : Prop :=
  ∃ r t₀ u₀ v₀ h' tk, v = .ref r ∧ s₁ = { s with heap := h', toks := tk } ∧ IsRange h' r 0 b₀ 1 t₀ u₀ v₀ ∧ Fr h₀ L h' m₀ ∧ News h₀ L h' news
theorem range_loop_g {σ : Type} {px pos : Pos} {iter : PySem.Expr} {b₀ : Int} {n : Nat} {m₀ : PySem.Str → Option Value} {news : List (Addr × Obj)} (ps : σ → List (PySem.Str × Value)) (stored : List PySem.Str) (P : Nat → List (Addr × Obj) → σ → Prop) (c₀ : σ) (_F : Fr h₀ env.locals s.heap m₀)
    (hh : A.handled = none) (G : AllBare s.gens) (hx : env.kindOf x = some .local)
    (hp : (env.scope.kind == .class || (env.scope.kind == .module && env.locals != env.globals)) = false)
    (hsmall : Builtin.Range.small 0 b₀ 1 = true) (hn : Builtin.Range.rangeSize 0 b₀ 1 = (n : Int)) (hk : ∀ p ∈ ps c₀, m₀ p.1 = some p.2) (hp0 : P 0 news c₀)
    (hev : wpAny (model prog w) A (eval iter env) (RgAt h₀ env.locals m₀ news b₀ s) E s)
    (turn : ∀ i (c : σ) (u : PySem.Str → Option Value) t nx h tk gs own, i < n → OwnOff own (nx.map (·.1)) → AllBare gs → P i nx c → Fr h₀ env.locals h (fun y => if y = x then some (.int (i : Int) t) else kstB (fun z => if stored.contains z then u z else m₀ z) (ps c) y) → News h₀ env.locals h (nx ++ own) →
      wpAny (model prog w) A (execs body env) (GPost h₀ env.locals (KL ps x stored m₀ (P (i + 1))) own { s with heap := h, toks := tk, gens := gs } Q) E { s with heap := h, toks := tk, gens := gs })
    (done : ∀ (c : σ) (u : PySem.Str → Option Value) nx h tk gs, AllBare gs → P n nx c → Fr h₀ env.locals h (fun y => if y = x then u y else kstB (fun z => if stored.contains z then u z else m₀ z) (ps c) y) → News h₀ env.locals h nx → Q .next { s with heap := h, toks := tk, gens := gs })
    (hs : ∀ x, foldedSetIterable iter env x = pure x := by intro _; rfl)
    (hE : PassesOwn (model prog w) A env E := by passes_own) :
    wpAny (model prog w) A (exec (.For (.Name x px) iter body [] pos) env) Q E s := by
  refine for_range_g (fun i m nx => KL ps x stored m₀ (P i) m nx) hh G ⟨c₀, hk, fun _ _ _ _ => rfl, hp0⟩ hx hp hsmall hn hev ?_ ?_ hs hE
  · rintro i t m₁ nx h tk gs own hi hoff Gs ⟨c, h1, h2, hp'⟩ F₁ N₁
    exact turn i c m₁ t nx h tk gs own hi hoff Gs hp' (kst_fr h1 h2 F₁) N₁
  · rintro m₁ nx h tk gs Gs ⟨c, h1, h2, hp'⟩ F₁ N₁
    exact done c m₁ nx h tk gs Gs hp' (kst_frOut h1 h2 F₁) N₁
theorem GL_end {σ : Type} {ps : σ → List (PySem.Str × Value)} {stored : List PySem.Str} {m₀ m' : PySem.Str → Option Value} {P : List (Addr × Obj) → σ → Prop} {L : Addr} {own news' : List (Addr × Obj)} {s₁ : Shared} {h' : Heap} {tk : Nat} {gs : Array GenState}
    (c : σ) (nx : List (Addr × Obj)) (G : AllBare gs) (F : Fr h₀ L h' m') (N : News h₀ L h' news') (hn : ∀ p ∈ nx, p ∈ news') (ho : ∀ p ∈ own, p ∈ news') (hoff : OwnOff own (nx.map (·.1)))
    (hk : ∀ p ∈ ps c, m' p.1 = some p.2) (hr : ∀ z, z ≠ x → (∀ p ∈ ps c, z ≠ p.1) → stored.contains z = false → m' z = m₀ z) (hp : P nx c) :
    GEnd h₀ L (KL ps x stored m₀ P) own s₁ { s₁ with heap := h', toks := tk, gens := gs } := ⟨h', tk, gs, m', news', nx, rfl, G, F, N, hn, ho, hoff, c, hk, hr, hp⟩
end
end Mine
end
namespace Mine
section
local macro_rules | `(tactic| walk_at "mine_nothing") => `(tactic| skip)
theorem fresh_MB : True ∧ True := by
  w_top off
  first | (walk1; fail "on") | exact ⟨trivial, trivial⟩
end
end Mine
section
open PySem PySem.W PyProof.Rows PySem.Calls PySem.Spec PyProof.V
set_option Elab.async false
set_option maxRecDepth 100000
set_option maxHeartbeats 0
namespace Mine
/-- only the laid tables have grown -/
theorem old_ghost {tabs : List (Addr × Addr)} {h h' : Heap} (hT : TabsAt tabs h) (hk : ∀ b o, (ghostOf h tabs).get? b = some o → h'.get? b = some o) (hg : GrownAll tabs h') : OldK h h' := by
  have two : ∀ b o, h.get? b = some o → h'.get? b = some o ∨ (isCodeTable h b ∧ o = tabObj #[] ∧ ∃ ps, h'.get? b = some (tabObj ps)) := by
    intro b o e
    by_cases hb : ∃ q ∈ tabs, q.2 = b
    · obtain ⟨q, hq, rfl⟩ := hb
      obtain ⟨hd, ht⟩ := hT q hq
      exact .inr ⟨(hd.tab ht).isCodeTable, Option.some.inj (e.symm.trans ht), hg.get q hq⟩
    · exact .inl (hk b o (ghost_ne e fun m => hb (by simpa using m)))
  constructor
  · intro b o e
    rcases two b o e with h1 | ⟨h1, rfl, ps, h2⟩
    · exact .inl h1
    · exact .inr (.inl ⟨h1, rfl, #[], ps, rfl, by simpa using h2⟩)
  · intro b o e
    rcases two b o e with h1 | ⟨_, _, ps, h2⟩
    · exact ⟨_, h1⟩
    · exact ⟨_, h2⟩
/-- the law's end: True, the tables grown, generators left -/
theorem my_post {M : Model} {A : Around} {cd : Code} {s s₁ : Shared} {cw : ClaimW} {cl : PySem.Str → Option Addr} {mean : ExcName → Option Value} {args : List WData} {tabs : List (Addr × Addr)} (hT : TabsAt tabs s₁.heap)
    (hr : ∀ x, cw.raises args x = false) (hp : cw.post args (.bool true) args = true)
    (h : codeAny M A cd (fun r s' => r = .ok (.ret (.bool true)) ∧ (∀ b o, (ghostOf s₁.heap tabs).get? b = some o → s'.heap.get? b = some o) ∧ s'.os = s₁.os ∧ AllBare s'.gens ∧ GrownAll tabs s'.heap) s) : codeAny M A cd (GoodWG cw cl mean args s₁) s := by
  refine codeAny_mono h ?_
  rintro r s' ⟨rfl, hk, hos, hb, hg⟩
  exact ⟨.inl ⟨_, _, [], rfl, hr, .bool true, hp, fun _ => ⟨List.nodup_nil, nofun⟩⟩, old_ghost hT hk hg, hos, hb⟩
theorem kt_in {K : Params → Frag} {P : Params} {h : Heap} (X : (KT K P).In h) (h1 : (K P).lookup 203 = none) (h2 : (K P).lookup 219 = none) : (K P).In h := fun a o e => by
  refine X a o ?_
  show List.lookup a ((203, tabObj0) :: (219, tabObj0) :: K P) = some o
  rw [List.lookup_cons, List.lookup_cons]
  by_cases h3 : a = 203
  · subst h3; rw [h1] at e; cases e
  · by_cases h4 : a = 219
    · subst h4; rw [h2] at e; cases e
    · rw [beq_false_of_ne h3, beq_false_of_ne h4]; exact e
theorem ghost_topR {tabs : List (Addr × Addr)} {h₁ : Heap} {p : Program} {loose : List PySem.Str} {mg mb : PySem.Str → Option Value} (hT : TabsAt tabs h₁) (T : TopRead p loose mg mb h₁) : TopRead p loose mg mb (ghostOf h₁ tabs) :=
  ⟨ghost_ns hT T.g, ghost_ns hT T.b, let ⟨mc, a, r⟩ := T.nolimit; ⟨mc, ghost_ns hT a, r⟩, T.builtins, T.free⟩
theorem ghost_bmod {tabs : List (Addr × Addr)} {h₁ : Heap} {mg : PySem.Str → Option Value} {bm : Addr} {ob : Obj} (hT : TabsAt tabs h₁) (M : BMod h₁ mainGlobals mg bm ob) : BMod (ghostOf h₁ tabs) mainGlobals mg bm ob where
  ns := ghost_ns hT M.ns
  name := M.name
  ne := M.ne
  obj := ghost_get hT M.obj (fun q => by have := M.cls; rw [q] at this; cases this)
  cls := M.cls
  dict := M.dict
  data := M.data
end Mine
end
namespace Mine
section
local macro_rules | `(tactic| walk_at "mine_nothing") => `(tactic| skip)
theorem fresh_PL : True ∧ True := by
  w_top off
  first | (walk1; fail "on") | exact ⟨trivial, trivial⟩
end
end Mine
section
open PySem PySem.W PyProof.Rows PySem.Calls PySem.Spec PyProof.V PyProof
set_option Elab.async false
set_option maxRecDepth 100000
set_option maxHeartbeats 0
namespace Mine
/-! the plain law: what the code computes, and what the law asks -/
theorem sl_to {x : PySem.Str} {k : Nat} (h : k ≤ x.cps.size) : (Txt.slice x none (some (k : Int))).cps.toList = x.cps.toList.take k := by
  have e := eq_of_beq (slice_closes_to (x := x) (j := (k : Int)) ⟨by omega, by rw [Array.length_toList]; omega⟩)
  rw [e]
  simp
theorem sl_from {x : PySem.Str} {k : Nat} (h : k ≤ x.cps.size) : (Txt.slice x (some (k : Int)) none).cps.toList = x.cps.toList.drop k := by
  rw [slice_from_eq (b := (x.cps.size : Int)) (by omega) (by show (k : Int) ≤ (x.cps.size : Int); omega) rfl]
  have e : ((x.cps.size : Int) - (k : Int)).toNat = x.cps.size - k := by omega
  simp only [Int.toNat_natCast, e]
  rw [List.take_of_length_le (by rw [List.length_drop, Array.length_toList]; exact Nat.le_refl _)]
theorem mul_list (n : Int) : (Txt.mul (Str.ofString " ") n).cps.toList = List.replicate n.toNat 32 := by
  have e : Str.ofString " " = ⟨#[32]⟩ := by decide
  rw [e]; exact mul_one_list 32 n
/-- the size of a row of codes -/
def sz (l : List Nat) : Int := (l.map cellSize).sum
theorem sz_app (a b : List Nat) : sz (a ++ b) = sz a + sz b := by unfold sz; rw [List.map_append, List.sum_append]
theorem cellsTo_sz (x : PySem.Str) : ∀ i, i ≤ x.cps.size → cellsTo x i = sz (x.cps.toList.take i)
  | 0, _ => by simp [sz, cellsTo]
  | i + 1, h => by
    have hi : i < x.cps.toList.length := by rw [Array.length_toList]; exact h
    rw [cellsTo_succ, cellsTo_sz x i (Nat.le_of_lt h), List.take_succ_eq_append_getElem hi, sz_app]
    congr 1
    rw [Array.getD_eq_getD_getElem?, Array.getElem?_eq_getElem h]
    simp [sz]
theorem cellLen_sz (x : PySem.Str) : cellLen x = sz x.cps.toList := by
  have := cellsTo_sz x x.cps.size (Nat.le_refl _)
  rw [show x.cps.size = x.cps.toList.length from Array.length_toList.symm, List.take_length] at this
  rw [Array.length_toList] at this
  exact this
/-- the spans of pieces that stand one behind the other -/
def toSpans : List Piece → Nat → List Span
  | [], _ => []
  | p :: r, n => ((n : Int), ((n + p.1.length : Nat) : Int), p.2) :: toSpans r (n + p.1.length)
theorem toSpans_app : ∀ (a b : List Piece) (n : Nat), toSpans (a ++ b) n = toSpans a n ++ toSpans b (n + (catP a).length)
  | [], b, n => by simp [toSpans, catP, Str.length]
  | p :: r, b, n => by
    show _ :: toSpans (r ++ b) _ = _ :: (toSpans r _ ++ _)
    rw [toSpans_app r b, show (catP (p :: r)).length = p.1.length + (catP r).length from PySem.Str.length_append _ _, Nat.add_assoc]
theorem toSpans_w : ∀ (a : List Piece) (n : Nat), (toSpans a n).map (·.2.2) = a.map (·.2)
  | [], _ => rfl
  | p :: r, n => by show p.2 :: _ = _; rw [toSpans_w r]; rfl
theorem toSpans_take : ∀ (a : List Piece) (n k : Nat), (toSpans a n).take k = toSpans (a.take k) n
  | [], n, k => by simp [toSpans]
  | p :: r, n, 0 => rfl
  | p :: r, n, k + 1 => by show _ :: _ = _ :: _; rw [toSpans_take r _ k]
theorem toSpans_get : ∀ (a : List Piece) (n k : Nat), (toSpans a n)[k]? = (a[k]?).map fun q => (((n + (catP (a.take k)).length : Nat) : Int), ((n + (catP (a.take k)).length + q.1.length : Nat) : Int), q.2)
  | [], n, k => by simp [toSpans]
  | p :: r, n, 0 => by simp [toSpans, catP, Str.length]
  | p :: r, n, k + 1 => by
    show (toSpans r _)[k]? = _
    rw [toSpans_get r _ k]
    simp only [List.getElem?_cons_succ, List.take_succ_cons]
    rw [show (catP (p :: r.take k)).length = p.1.length + (catP (r.take k)).length from PySem.Str.length_append _ _, Nat.add_assoc]
theorem toSpans_len (a : List Piece) (n : Nat) : (toSpans a n).length = a.length := by
  have := congrArg List.length (toSpans_w a n)
  simpa using this
theorem catP_len (x : PySem.Str) (i : Nat) (h : i ≤ x.cps.size) : (catP (piecesTo x i)).length = i := by
  show (catP (piecesTo x i)).cps.size = i
  rw [catP_to x i h, Array.size_extract]
  omega
theorem step_rel {ps : List Piece} {c i : Nat} (hi : (catP ps).length = i) : gstep (toSpans ps 0) i (cellSize c) = toSpans (pstep ps c) 0 := by
  by_cases hz : cellSize c = 0
  · rw [hz]
    rcases List.eq_nil_or_concat ps with rfl | ⟨ps', p, rfl⟩
    · have h0 : i = 0 := by rw [← hi]; rfl
      subst h0
      rw [show toSpans [] 0 = [] from rfl, gs_nil, ps_nil, hz]
      rfl
    · rw [List.concat_eq_append, ps_last hz, toSpans_app, toSpans_app]
      rw [List.concat_eq_append, catP_append, catP_one, PySem.Str.length_append] at hi
      show gstep (_ ++ [_]) i 0 = _
      rw [gs_last]
      congr 1
      show [_] = [_]
      rw [PySem.Str.length_append]
      have e : (i : Int) + 1 = ((0 + (catP ps').length + (p.1.length + ({ cps := #[c] } : PySem.Str).length) : Nat) : Int) := by
        have h1 : ({ cps := #[c] } : PySem.Str).length = 1 := rfl
        rw [h1]; omega
      show [(_, (i : Int) + 1, _)] = _
      rw [e]
  · rw [gs_app hz]
    have key : toSpans (ps ++ [((⟨#[c]⟩ : PySem.Str), cellSize c)]) 0 = toSpans ps 0 ++ [((i : Int), (i : Int) + 1, cellSize c)] := by
      rw [toSpans_app, hi]
      congr 1
      show [(((0 + i : Nat) : Int), ((0 + i + ({ cps := #[c] } : PySem.Str).length : Nat) : Int), cellSize c)] = _
      have h1 : ({ cps := #[c] } : PySem.Str).length = 1 := rfl
      rw [h1]
      congr 2
      · omega
      · congr 1; omega
    rcases List.eq_nil_or_concat ps with rfl | ⟨ps', p, rfl⟩
    · rw [ps_nil, ← key]; rfl
    · rw [← key, List.concat_eq_append, ps_app hz]
theorem spans_rel (x : PySem.Str) : ∀ i, i ≤ x.cps.size → spansTo x i = toSpans (piecesTo x i) 0
  | 0, _ => rfl
  | i + 1, h => by
    show gstep (spansTo x i) i _ = toSpans (pstep (piecesTo x i) _) 0
    rw [spans_rel x i (Nat.le_of_lt h)]
    exact step_rel (catP_len x i (Nat.le_of_lt h))
theorem spn_rel (x : PySem.Str) : spn x = toSpans (pcs x) 0 := spans_rel x _ (Nat.le_refl _)
theorem preW_rel (x : PySem.Str) (k : Nat) : preW (spn x) k = pW x k := by
  unfold preW pW
  rw [spn_rel, toSpans_take, toSpans_w]
theorem spn_len (x : PySem.Str) : (spn x).length = (pcs x).length := by rw [spn_rel, toSpans_len]
theorem spn_get {x : PySem.Str} {k : Nat} {p : Span} (h : (spn x)[k]? = some p) : ∃ q, (pcs x)[k]? = some q ∧ p = (((pleft x k).length : Int), (((pleft x k).length + q.1.length : Nat) : Int), q.2) := by
  rw [spn_rel, toSpans_get] at h
  obtain ⟨q, hq, rfl⟩ := Option.map_eq_some_iff.mp h
  exact ⟨q, hq, by unfold pleft; rw [Nat.zero_add]⟩
theorem pW_all (x : PySem.Str) : pW x (pcs x).length = cellLen x := by
  rw [← preW_rel, ← spn_len]; exact preW_all x
/-- a piece's size is its text's; all but the first take room -/
def PcOk (ps : List Piece) : Prop := (∀ p ∈ ps, sz p.1.cps.toList = p.2 ∧ 0 ≤ p.2 ∧ p.2 ≤ 2) ∧ ∀ p ∈ ps.tail, 0 < p.2
theorem sz_one (c : Nat) : sz ((⟨#[c]⟩ : PySem.Str).cps.toList) = cellSize c := by simp [sz]
theorem pcok_step {ps : List Piece} {c : Nat} (h : PcOk ps) : PcOk (pstep ps c) := by
  have hb := cellSize_bd c
  rcases List.eq_nil_or_concat ps with rfl | ⟨ps', p, rfl⟩
  · rw [ps_nil]
    exact ⟨fun p hp => by rw [List.mem_singleton.mp hp]; exact ⟨sz_one c, hb⟩, fun p hp => absurd hp List.not_mem_nil⟩
  · rw [List.concat_eq_append] at *
    by_cases hz : cellSize c = 0
    · rw [ps_last hz]
      refine ⟨fun q hq => ?_, fun q hq => ?_⟩
      · rcases List.mem_append.mp hq with hq | hq
        · exact h.1 q (List.mem_append_left _ hq)
        · rw [List.mem_singleton.mp hq]
          have := h.1 p (by simp)
          refine ⟨?_, this.2⟩
          show sz (p.1 ++ (⟨#[c]⟩ : PySem.Str)).cps.toList = p.2
          rw [PyProof.Rows.cps_toList_append, sz_app, sz_one, hz, this.1, Int.add_zero]
      · cases ps' with
        | nil => exact absurd hq List.not_mem_nil
        | cons a r =>
          rw [List.cons_append, List.tail_cons] at hq
          have ht := h.2
          rw [List.cons_append, List.tail_cons] at ht
          rcases List.mem_append.mp hq with hq | hq
          · exact ht q (List.mem_append_left _ hq)
          · rw [List.mem_singleton.mp hq]
            exact ht p (by simp)
    · rw [ps_app hz]
      have hpos : 0 < cellSize c := by omega
      refine ⟨fun q hq => ?_, fun q hq => ?_⟩
      · rcases List.mem_append.mp hq with hq | hq
        · exact h.1 q hq
        · rw [List.mem_singleton.mp hq]; exact ⟨sz_one c, hb⟩
      · have : ∀ q ∈ (ps' ++ [p] ++ [((⟨#[c]⟩ : PySem.Str), cellSize c)]).tail, q ∈ (ps' ++ [p]).tail ∨ q = ((⟨#[c]⟩ : PySem.Str), cellSize c) := by
          intro q hq
          cases ps' with
          | nil => right; simpa using hq
          | cons a r => simpa [or_assoc] using hq
        rcases this q hq with h1 | h1
        · exact h.2 q h1
        · rw [h1]; exact hpos
theorem pcok_to (x : PySem.Str) : ∀ i, PcOk (piecesTo x i)
  | 0 => ⟨fun p hp => absurd hp List.not_mem_nil, fun p hp => absurd hp List.not_mem_nil⟩
  | i + 1 => pcok_step (pcok_to x i)
theorem pcs_at {x : PySem.Str} {k : Nat} {q : Piece} (h : (pcs x)[k]? = some q) : sz q.1.cps.toList = q.2 ∧ 0 ≤ q.2 ∧ q.2 ≤ 2 ∧ (0 < k → 0 < q.2) := by
  have h1 := (pcok_to x x.cps.size).1 q (List.mem_of_getElem? h)
  refine ⟨h1.1, h1.2.1, h1.2.2, fun hk => ?_⟩
  obtain ⟨j, rfl⟩ := Nat.exists_eq_succ_of_ne_zero (Nat.ne_of_gt hk)
  refine (pcok_to x x.cps.size).2 q ?_
  refine List.mem_of_getElem? (i := j) ?_
  rw [List.getElem?_tail]
  exact h
theorem pW_step (x : PySem.Str) (k : Nat) : pW x k ≤ pW x (k + 1) := by
  cases h : (pcs x)[k]? with
  | some q => have := (pcs_at h).2.1; rw [pW_succ h]; omega
  | none =>
    have hl := List.getElem?_eq_none_iff.mp h
    unfold pW
    rw [List.take_of_length_le hl, List.take_of_length_le (Nat.le_succ_of_le hl)]
    exact Int.le_refl _
theorem pW_mono (x : PySem.Str) {i j : Nat} (h : i ≤ j) : pW x i ≤ pW x j := by
  induction h with
  | refl => exact Int.le_refl _
  | step _ ih => exact Int.le_trans ih (pW_step x _)
theorem pW_zero (x : PySem.Str) : pW x 0 = 0 := rfl
theorem pleft_pre (x : PySem.Str) (k : Nat) : Txt.slice x none (some ((pleft x k).length : Int)) = pleft x k := by
  apply PyProof.Rows.ext_toList
  rw [sl_to (pleft_len x k)]
  have h : (pleft x k ++ catP ((pcs x).drop k)).cps.toList = x.cps.toList := by rw [pleft_drop]
  rw [PyProof.Rows.cps_toList_append] at h
  rw [← h]
  have e : (pleft x k).length = (pleft x k).cps.toList.length := Array.length_toList.symm
  rw [e, List.take_left]
theorem sz_catP : ∀ (ps : List Piece), (∀ p ∈ ps, sz p.1.cps.toList = p.2) → sz (catP ps).cps.toList = (ps.map (·.2)).sum
  | [], _ => rfl
  | p :: r, h => by
    show sz (p.1 ++ catP r).cps.toList = _
    rw [PyProof.Rows.cps_toList_append, sz_app, h p (.head _), sz_catP r fun q hq => h q (.tail _ hq)]
    simp
theorem sz_pleft (x : PySem.Str) (k : Nat) : sz (pleft x k).cps.toList = pW x k := sz_catP _ fun p hp => ((pcok_to x x.cps.size).1 p (List.take_subset _ _ hp)).1
theorem pleft_mem {x : PySem.Str} {k c : Nat} (h : c ∈ (pleft x k).cps.toList) : c ∈ x.cps.toList := by
  have e : (pleft x k ++ catP ((pcs x).drop k)).cps.toList = x.cps.toList := by rw [pleft_drop]
  rw [PyProof.Rows.cps_toList_append] at e
  rw [← e]
  exact List.mem_append_left _ h
/-- the code's split is the law's -/
theorem out_eq {x a b a' b' : PySem.Str} {pos : Int} (h : LawOut x pos a b) (h' : SplitOut x pos a' b') : a' = a ∧ b' = b := by
  unfold SplitOut at h'
  simp only [preW_rel, spn_len] at h'
  rcases h' with ⟨hp, ea, eb⟩ | ⟨hp, hw, ea, eb⟩ | ⟨hp, k', p, hk', hw, rfl, rfl⟩ | ⟨hp, k', p, hk', hw1, hw2, rfl, rfl⟩
  · rcases h with ⟨_, ea', eb'⟩ | ⟨h1, _⟩ | ⟨h1, _⟩ | ⟨h1, _⟩
    · exact ⟨ea.trans ea'.symm, eb.trans eb'.symm⟩
    all_goals omega
  · rcases h with ⟨h1, _⟩ | ⟨_, _, ea', eb'⟩ | ⟨_, k, q, hk, hn, hq, _⟩ | ⟨_, k, q, hk, hn, hq, hq2, _⟩
    · omega
    · exact ⟨ea.trans ea'.symm, eb.trans eb'.symm⟩
    · exfalso
      have hk0 : 0 < k := Nat.pos_of_ne_zero fun e => by subst e; rw [pW_zero] at hq; omega
      have h1 := (pcs_at hk).2.2.2 hk0
      have h2 := pW_succ hk
      have h3 := pW_mono x (show k + 1 ≤ (pcs x).length from (List.getElem?_eq_some_iff.mp hk).1)
      omega
    · exfalso
      have h2 := pW_succ hk
      have h3 := pW_mono x (show k + 1 ≤ (pcs x).length from (List.getElem?_eq_some_iff.mp hk).1)
      omega
  · obtain ⟨q', hq', rfl⟩ := spn_get hk'
    have hl' : k' < (pcs x).length := (List.getElem?_eq_some_iff.mp hq').1
    rcases h with ⟨h1, _⟩ | ⟨_, hn, _⟩ | ⟨_, k, q, hk, hn, hq, rfl, rfl⟩ | ⟨_, k, q, hk, hn, hq, hq2, _⟩
    · omega
    · exact absurd hw (hn k' hl').1
    · have hle : k ≤ k' := Nat.le_of_not_lt fun hlt => (hn k' hlt).1 hw
      have hge : k' ≤ k := Nat.le_of_not_lt fun hlt => by
        have hk0 : 0 < k := Nat.pos_of_ne_zero fun e => by subst e; rw [pW_zero] at hq; omega
        have h1 := (pcs_at hk).2.2.2 hk0
        have h2 := pW_succ hk
        have h3 := pW_mono x (show k + 1 ≤ k' from hlt)
        omega
      have e : k' = k := Nat.le_antisymm hge hle
      subst e
      exact ⟨pleft_pre x _, rfl⟩
    · exfalso
      have hle : k ≤ k' := Nat.le_of_not_lt fun hlt => (hn k' hlt).1 hw
      rcases Nat.eq_or_lt_of_le hle with e | hlt
      · subst e; exact hq hw
      · have h2 := pW_succ hk
        have h3 := pW_mono x (show k + 1 ≤ k' from hlt)
        omega
  · obtain ⟨q', hq', rfl⟩ := spn_get hk'
    dsimp only at hw2
    have hl' : k' < (pcs x).length := (List.getElem?_eq_some_iff.mp hq').1
    have hs' := pW_succ hq'
    rcases h with ⟨h1, _⟩ | ⟨_, hn, _⟩ | ⟨_, k, q, hk, hn, hq, rfl, rfl⟩ | ⟨_, k, q, hk, hn, hq, hq2, rfl, rfl⟩
    · omega
    · have := (hn k' hl').2
      omega
    · exfalso
      rcases Nat.lt_or_ge k' k with hlt | hge
      · have := pW_mono x (show k' + 1 ≤ k from hlt)
        omega
      · have := pW_mono x hge
        omega
    · have hle : k ≤ k' := Nat.le_of_not_lt fun hlt => by have := (hn k' hlt).2; omega
      have hge : k' ≤ k := Nat.le_of_not_lt fun hlt => by
        have h2 := pW_succ hk
        have h3 := pW_mono x (show k + 1 ≤ k' from hlt)
        omega
      have e : k' = k := Nat.le_antisymm hge hle
      subst e
      rw [hq'] at hk
      cases hk
      refine ⟨by rw [pleft_pre], by rw [Int.natCast_add]⟩
end Mine
end
namespace Mine
section
local macro_rules | `(tactic| walk_at "mine_nothing") => `(tactic| skip)
theorem fresh_PM : True ∧ True := by
  w_top off
  first | (walk1; fail "on") | exact ⟨trivial, trivial⟩
end
end Mine
section
open PySem PySem.W PyProof.Rows PySem.Calls PySem.Spec PyProof.V PyProof
set_option Elab.async false
set_option maxRecDepth 100000
set_option maxHeartbeats 0
namespace Mine
theorem sign_single : ∀ c ∈ signsL, single c = plainL.contains c := by decide
theorem sign_one : ∀ c ∈ signsL, single c = true → cellSize c = 1 := by decide +kernel
theorem single_plain {x : PySem.Str} (hx : OkT x) : allSingle x = allPlain x := by
  unfold allSingle allPlain
  rw [← Array.all_toList, ← Array.all_toList]
  have : ∀ l : List Nat, (∀ c ∈ l, c ∈ signsL) → l.all single = l.all fun c => plainL.contains c := by
    intro l
    induction l with
    | nil => intro _; rfl
    | cons a r ih => intro h; rw [List.all_cons, List.all_cons, sign_single a (h a (.head _)), ih fun c hc => h c (.tail _ hc)]
  exact this _ hx.mem
theorem sz_single : ∀ {l : List Nat}, (∀ c ∈ l, c ∈ signsL) → l.all single = true → sz l = l.length
  | [], _, _ => rfl
  | a :: r, h, hs => by
    rw [List.all_cons, Bool.and_eq_true] at hs
    have h1 := sign_one a (h a (.head _)) hs.1
    have h2 := sz_single (fun c hc => h c (.tail _ hc)) hs.2
    show cellSize a + sz r = _
    rw [h1, h2, List.length_cons]
    omega
theorem single_list {x : PySem.Str} (hs : allSingle x = true) : x.cps.toList.all single = true := by rw [Array.all_toList]; exact hs
theorem cell_single {x : PySem.Str} (hx : OkT x) (hs : allSingle x = true) : cellLen x = x.length := by
  rw [cellLen_sz, sz_single hx.mem (single_list hs), Array.length_toList]; rfl
theorem sz_blank (n : Nat) : sz (List.replicate n 32) = n := by
  rw [sz_single (fun c hc => by rw [List.eq_of_mem_replicate hc]; decide) (by rw [List.all_replicate]; simp; right; decide), List.length_replicate]
theorem mul_zero {n : Int} (h : n ≤ 0) (x : PySem.Str) : x ++ Txt.mul (Str.ofString " ") n = x := by
  apply PyProof.Rows.ext_toList
  rw [PyProof.Rows.cps_toList_append, mul_list, show n.toNat = 0 by omega]
  simp
theorem cell_nonneg (x : PySem.Str) : 0 ≤ cellLen x := (cellsTo_bd x x.cps.size).1
theorem slice_all {x : PySem.Str} {tot : Int} (h : tot = x.length) : Txt.slice x none (some tot) = x := by
  subst h
  apply PyProof.Rows.ext_toList
  rw [show (x.length : Int) = ((x.cps.size : Nat) : Int) from rfl, sl_to (Nat.le_refl _), List.take_of_length_le (by rw [Array.length_toList]; exact Nat.le_refl _)]
theorem made0 {x z : PySem.Str} (_hx : OkT x) (h : SetOut x 0 z) : z = Str.ofString "" := by
  rcases h with ⟨hs, ⟨h1, rfl⟩ | ⟨h1, rfl⟩⟩ | ⟨hs, ⟨h1, rfl⟩ | ⟨h1, _⟩⟩
  · omega
  · apply PyProof.Rows.ext_toList
    have := sl_to (x := x) (k := 0) (Nat.zero_le _)
    rw [show ((0 : Nat) : Int) = 0 from rfl] at this
    rw [this]; rfl
  · rfl
  · omega
theorem made1 {x z : PySem.Str} {tot : Int} (hx : OkT x) (h0 : 0 < tot) (ht : cellLen x ≤ tot) (h : SetOut x tot z) : z = x ++ Txt.mul (Str.ofString " ") (tot - cellLen x) := by
  rcases h with ⟨hs, ⟨h1, e⟩ | ⟨h1, e⟩⟩ | ⟨hs, ⟨h1, e⟩ | ⟨_, ⟨h1, e⟩ | ⟨h1, e⟩ | ⟨h1, _⟩⟩⟩
  · rw [e, cell_single hx hs]
  · rw [cell_single hx hs] at ht
    rw [e, cell_single hx hs, mul_zero (by omega), slice_all (by omega)]
  · omega
  · rw [e, mul_zero (by omega)]
  · exact e
  · omega
theorem made2 {x z : PySem.Str} {tot : Int} (hx : OkT x) (hp : allPlain x = true) (ht : tot < cellLen x) (h : SetOut x tot z) : z = Txt.slice x none (some tot) := by
  rw [← single_plain hx] at hp
  rcases h with ⟨hs, ⟨h1, e⟩ | ⟨h1, e⟩⟩ | ⟨hs, _⟩
  · rw [cell_single hx hs] at ht; omega
  · exact e
  · rw [hp] at hs; cases hs
theorem made3 {x z a b : PySem.Str} {tot : Int} (hx : OkT x) (hp : allPlain x = false) (h0 : 0 < tot) (ht : tot < cellLen x) (hl : LawOut x tot a b) (h : SetOut x tot z) : z = a := by
  rw [← single_plain hx] at hp
  rcases h with ⟨hs, _⟩ | ⟨hs, ⟨h1, e⟩ | ⟨_, ⟨h1, e⟩ | ⟨h1, e⟩ | ⟨h1, b', e⟩⟩⟩
  · rw [hp] at hs; cases hs
  · omega
  · omega
  · omega
  · exact (out_eq hl e).1
theorem cell_app (a b : PySem.Str) : cellLen (a ++ b) = cellLen a + cellLen b := by rw [cellLen_sz, cellLen_sz, cellLen_sz, PyProof.Rows.cps_toList_append, sz_app]
theorem cell_mul (n : Int) : cellLen (Txt.mul (Str.ofString " ") n) = (n.toNat : Int) := by rw [cellLen_sz, mul_list, sz_blank]
theorem cell_blank : cellLen (Str.ofString " ") = 1 := by decide +kernel
theorem cell_empty : cellLen (Str.ofString "") = 0 := by decide +kernel
theorem cell_pleft (x : PySem.Str) (k : Nat) : cellLen (pleft x k) = pW x k := by rw [cellLen_sz, sz_pleft]
theorem split_cell {x a b : PySem.Str} {tot : Int} (h0 : 0 ≤ tot) (ht : tot ≤ cellLen x) (h : SplitOut x tot a b) : cellLen a = tot := by
  unfold SplitOut at h
  simp only [preW_rel, spn_len] at h
  rcases h with ⟨h1, e, _⟩ | ⟨_, h1, e, _⟩ | ⟨_, k, p, hk, hw, e, _⟩ | ⟨_, k, p, hk, h1, h2, e, _⟩
  · rw [e, cell_empty]; omega
  · rw [e, ← h1, pW_all]
  · obtain ⟨q, hq, rfl⟩ := spn_get hk
    rw [e]
    dsimp only
    rw [pleft_pre, cell_pleft, hw]
  · obtain ⟨q, hq, rfl⟩ := spn_get hk
    rw [e]
    dsimp only at h2 ⊢
    rw [pleft_pre, cell_app, cell_pleft, cell_blank]
    have := (pcs_at hq).2.2.1
    omega
theorem cell_take {x : PySem.Str} (hx : OkT x) (hs : allSingle x = true) {tot : Int} (h0 : 0 ≤ tot) (h1 : tot ≤ x.length) : cellLen (Txt.slice x none (some tot)) = tot := by
  obtain ⟨k, rfl⟩ := Int.eq_ofNat_of_zero_le h0
  have hk : k ≤ x.cps.size := by have : (k : Int) ≤ (x.cps.size : Int) := h1; omega
  rw [cellLen_sz, sl_to hk, sz_single (fun c hc => hx.mem c (List.take_subset _ _ hc)), List.length_take, Array.length_toList, Nat.min_eq_left hk]
  rw [List.all_eq_true]
  intro c hc
  exact List.all_eq_true.mp (single_list hs) c (List.take_subset _ _ hc)
theorem set_len {x z : PySem.Str} {tot : Int} (hx : OkT x) (h0 : 0 ≤ tot) (h : SetOut x tot z) : cellLen z = tot := by
  rcases h with ⟨hs, ⟨h1, e⟩ | ⟨h1, e⟩⟩ | ⟨hs, ⟨h1, e⟩ | ⟨_, ⟨h1, e⟩ | ⟨h1, e⟩ | ⟨h1, b, e⟩⟩⟩
  · rw [e, cell_app, cell_mul, cell_single hx hs]; omega
  · rw [e]; exact cell_take hx hs h0 h1
  · rw [e, cell_empty]; omega
  · rw [e]; exact h1
  · rw [e, cell_app, cell_mul]; omega
  · exact split_cell h0 (by omega) e
theorem ok_sub {x z : PySem.Str} (hx : OkT x) (h : ∀ c ∈ z.cps.toList, c ∈ x.cps.toList ∨ c = 32) (hl : z.length ≤ 200) : OkT z :=
  ⟨fun c hc => (h c hc).elim (hx.mem c) fun e => by rw [e]; decide, hl⟩
theorem set_ok {x z : PySem.Str} {tot : Int} (hx : OkT x) (hs : x.cps.size ≤ 12) (h0 : 0 ≤ tot) (h1 : tot ≤ 100) (h : SetOut x tot z) : OkT z := by
  have hl : x.length = x.cps.size := rfl
  have ml : ∀ n : Int, n ≤ 100 → (Txt.mul (Str.ofString " ") n).length ≤ 100 := fun n hn => by
    show (Txt.mul (Str.ofString " ") n).cps.size ≤ 100
    rw [← Array.length_toList, mul_list, List.length_replicate]; omega
  have pad : ∀ n : Int, n ≤ 100 → OkT (x ++ Txt.mul (Str.ofString " ") n) := fun n hn => by
    refine ok_sub hx (fun c hc => ?_) ?_
    · rw [PyProof.Rows.cps_toList_append, mul_list] at hc
      rcases List.mem_append.mp hc with hc | hc
      · exact .inl hc
      · exact .inr (List.eq_of_mem_replicate hc)
    · rw [PySem.Str.length_append]; have := ml n hn; omega
  have cut : ∀ k : Nat, k ≤ x.cps.size → OkT (Txt.slice x none (some (k : Int))) := fun k hk => by
    refine ok_sub hx (fun c hc => ?_) (Nat.le_trans (Txt.slice_le _ _ _) (by omega))
    rw [sl_to hk] at hc
    exact .inl (List.take_subset _ _ hc)
  have empty : OkT (Str.ofString "") := ⟨by decide, by decide⟩
  have hc0 := cell_nonneg x
  rcases h with ⟨_, ⟨h2, e⟩ | ⟨h2, e⟩⟩ | ⟨_, ⟨h2, e⟩ | ⟨_, ⟨h2, e⟩ | ⟨h2, e⟩ | ⟨h2, b, e⟩⟩⟩
  · rw [e]; exact pad _ (by omega)
  · obtain ⟨k, rfl⟩ := Int.eq_ofNat_of_zero_le h0
    rw [e]; exact cut k (by omega)
  · rw [e]; exact empty
  · rw [e]; exact hx
  · rw [e]; exact pad _ (by omega)
  · unfold SplitOut at e
    rcases e with ⟨_, e, _⟩ | ⟨_, _, e, _⟩ | ⟨_, k, p, hk, _, e, _⟩ | ⟨_, k, p, hk, _, _, e, _⟩
    · rw [e]; exact empty
    · rw [e]; exact hx
    · obtain ⟨q, hq, rfl⟩ := spn_get hk
      rw [e]
      exact cut _ (pleft_len x k)
    · obtain ⟨q, hq, rfl⟩ := spn_get hk
      rw [e]
      dsimp only
      rw [pleft_pre]
      refine ok_sub hx (fun c hc => ?_) ?_
      · rw [PyProof.Rows.cps_toList_append] at hc
        rcases List.mem_append.mp hc with hc | hc
        · exact .inl (pleft_mem hc)
        · rw [show (Str.ofString " ").cps.toList = [32] by decide] at hc
          exact .inr (List.mem_singleton.mp hc)
      · rw [PySem.Str.length_append]
        have := pleft_len x k
        have h2 : (Str.ofString " ").length = 1 := by decide
        omega
/-- the law's own words -/
theorem ny1 {x : PySem.Str} {pos : Int} (h : pW x 0 ≠ pos ∧ pW x 1 ≤ pos) : NotYet x pos 1 := fun j hj => by
  have e : j = 0 := by omega
  subst e
  exact h
theorem lo1 : LawOut (Str.ofString "a中b") 2 (Str.ofString "a ") (Str.ofString " b") :=
  .inr (.inr (.inr ⟨by decide, 1, (⟨#[20013]⟩, 2), by decide +kernel, ny1 (by decide +kernel), by decide +kernel, by decide +kernel, by decide +kernel, by decide +kernel⟩))
theorem lo2 : LawOut (Str.ofString "a中b") 1 (Str.ofString "a") (Str.ofString "中b") :=
  .inr (.inr (.inl ⟨by decide, 1, (⟨#[20013]⟩, 2), by decide +kernel, ny1 (by decide +kernel), by decide +kernel, by decide +kernel, by decide +kernel⟩))
theorem lo3 : LawOut (Str.ofString "中") 0 (Str.ofString "") (Str.ofString "中") := .inl ⟨by decide, rfl, rfl⟩
theorem told1 {a b : PySem.Str} (h : SplitAll (Str.ofString "a中b") 2 a b) : a = Str.ofString "a " ∧ b = Str.ofString " b" := by
  rcases h with ⟨h1, _⟩ | ⟨_, h1⟩
  · exact absurd h1 (by decide +kernel)
  · exact out_eq lo1 h1
theorem told2 {a b : PySem.Str} (h : SplitAll (Str.ofString "a中b") 1 a b) : a = Str.ofString "a" ∧ b = Str.ofString "中b" := by
  rcases h with ⟨h1, _⟩ | ⟨_, h1⟩
  · exact absurd h1 (by decide +kernel)
  · exact out_eq lo2 h1
theorem told3 {a b : PySem.Str} (h : SplitAll (Str.ofString "中") 0 a b) : a = Str.ofString "" ∧ b = Str.ofString "中" := by
  rcases h with ⟨h1, _⟩ | ⟨_, h1⟩
  · exact absurd h1 (by decide +kernel)
  · exact out_eq lo3 h1
theorem ok_ab : OkT (Str.ofString "a中b") := ⟨by decide, by decide⟩
theorem ok_b : OkT (Str.ofString "中") := ⟨by decide, by decide⟩
theorem cl_ab : cellLen (Str.ofString "a中b") = 4 := by decide +kernel
theorem cl_b : cellLen (Str.ofString "中") = 2 := by decide +kernel
theorem told4 {z : PySem.Str} (h : SetOut (Str.ofString "a中b") 2 z) : z = Str.ofString "a " :=
  made3 ok_ab (by decide +kernel) (by decide) (by rw [cl_ab]; decide) lo1 h
end Mine
end
namespace Mine
section
local macro_rules | `(tactic| walk_at "mine_nothing") => `(tactic| skip)
theorem fresh_MA : True ∧ True := by
  w_top off
  first | (walk1; fail "on") | exact ⟨trivial, trivial⟩
end
end Mine
section
open PySem PySem.W PyProof.Rows PySem.Calls PySem.Spec PyProof.V
set_option Elab.async false
set_option maxRecDepth 100000
set_option maxHeartbeats 0
namespace Mine
section
variable {w : World} {dp un : Nat} {gd : Option (List Code)} {fr : Option (List Env)} {E : Value → Shared → Prop} {s : Shared} {h₀ : Heap} {L : Addr} {m mg mb : PySem.Str → Option Value} {pre R : List (Addr × Obj)}
  {S SL : Addr} {i : Int} {ti : Tok} {n k : Nat} {vs : List Value} {ns : List Int} {ps qs : Array Value}
theorem ne_str {A : Around} {a b : PySem.Str} {ta tb : Tok} {Q : Value → Shared → Prop} (e : a = b) (h : Q (.bool false) s) : wpAny (model Challenge.rw_ey0020_01.row.prog w) A (compareOp .NotEq (.str a ta) (.str b tb)) Q E s := by
  subst e
  exact SeqAt.RcNeAt.str_str a ta a tb _ _ _ _ (by simpa using h)
theorem ne_int {A : Around} {a b : Int} {ta tb : Tok} {Q : Value → Shared → Prop} (e : a = b) (h : Q (.bool false) s) : wpAny (model Challenge.rw_ey0020_01.row.prog w) A (compareOp .NotEq (.int a ta) (.int b tb)) Q E s := by
  subst e
  exact SeqAt.RcNeAt.int_int a ta a tb _ _ _ _ (by simpa using h)
theorem split_plain {x a b : PySem.Str} {pos : Int} (hx : OkT x) (hp : allPlain x = true) (h : SplitAll x pos a b) : a = Txt.slice x none (some pos) ∧ b = Txt.slice x (some pos) none := by
  rcases h with ⟨_, h1, h2⟩ | ⟨h1, _⟩
  · exact ⟨h1, h2⟩
  · rw [single_plain hx, hp] at h1; cases h1
theorem split_wide {x a b a' b' : PySem.Str} {pos : Int} (hx : OkT x) (hp : allPlain x = false) (hl : LawOut x pos a' b') (h : SplitAll x pos a b) : a = a' ∧ b = b' := by
  rcases h with ⟨h1, _⟩ | ⟨_, h1⟩
  · rw [single_plain hx, hp] at h1; cases h1
  · exact out_eq hl h1
theorem made0' {x z : PySem.Str} {tot : Int} (hx : OkT x) (h0 : tot = 0) (h : SetOut x tot z) : z = Str.ofString "" := by subst h0; exact made0 hx h
theorem made1' {x z : PySem.Str} {tot t : Int} (hx : OkT x) (e : t = cellLen x) (h0 : 0 < tot) (ht : t ≤ tot) (h : SetOut x tot z) : z = x ++ Txt.mul (Str.ofString " ") (tot - t) := by subst e; exact made1 hx h0 ht h
theorem made3' {x z a b : PySem.Str} {tot : Int} (hl : LawOut x tot a b) (h : SetOut x tot z) (hx : OkT x) (hp : allPlain x = false) (h0 : 0 < tot) (ht : tot < cellLen x) : z = a := made3 hx hp h0 ht hl h
theorem made0'' {x z : PySem.Str} {tot : Int} (h : SetOut x tot z) (hx : OkT x) (h0 : tot = 0) : z = Str.ofString "" := made0' hx h0 h
theorem text_at {a b : Addr × Obj} {tm : Tok} {Q : Value → Shared → Prop} (F : Fr h₀ L s.heap m) (X : (hd.heap_39 w.params).In h₀) (N : News h₀ L s.heap ((S, W.listOf #[.ref SL, .int i ti] n) :: a :: b :: (SL, W.listOf vs.toArray k) :: R)) (T : TopRead hd.view_39 LO mg mb h₀)
    (hns : IntsAre vs ns) (hl : ns.length ≤ 63) (h0 : 0 ≤ i) (h1 : a.1 ≠ S) (h2 : b.1 ≠ S) (hS : ∀ p ∈ (SL, W.listOf vs.toArray k) :: R, p.1 ≠ S) (hd : dp + 8 < recursionLimit) (hu : un + 8 * 8 < cLine)
    (ret : ∀ i' ti' x tx h' tk', Fr h₀ L h' m → News h₀ L h' ((S, W.listOf #[.ref SL, .int i' ti'] n) :: a :: b :: (SL, W.listOf vs.toArray k) :: R) → 0 ≤ i' → OkT x → x.cps.size ≤ 12 → Q (.str x tx) { s with heap := h', toks := tk' }) :
    wpAny (model Challenge.rw_ey0020_01.row.prog w) (qTop dp un gd fr) (call (.ref 264) [.ref S, .int 12 tm]) Q E s := by
  refine tell_use (text_tell w mg mb S SL i ti n vs ns hns k h0 hl tm (a :: b :: (SL, W.listOf vs.toArray k) :: R) (List.forall_mem_cons.mpr ⟨h1, List.forall_mem_cons.mpr ⟨h2, hS⟩⟩) (.tail _ (.tail _ (.head _)))) F X N T hd hu fun r news' h' tk' F' N' K' P' => ?_
  obtain ⟨i', ti', x, tx, rfl, hi, rfl, hx, hs⟩ := P'
  exact ret i' ti' x tx h' tk' F' N' hi hx hs
theorem drawS_at {a b : Addr × Obj} {many : Int} {tm : Tok} {Q : Value → Shared → Prop} (F : Fr h₀ L s.heap m) (X : (hd.heap_39 w.params).In h₀) (N : News h₀ L s.heap ((S, W.listOf #[.ref SL, .int i ti] n) :: a :: b :: (SL, W.listOf vs.toArray k) :: R)) (T : TopRead hd.view_39 LO mg mb h₀)
    (hns : IntsAre vs ns) (hl : ns.length ≤ 63) (h0 : 0 ≤ i) (hm : 0 < many) (hm2 : many ≤ 1000) (h1 : a.1 ≠ S) (h2 : b.1 ≠ S) (hS : ∀ p ∈ (SL, W.listOf vs.toArray k) :: R, p.1 ≠ S) (hd : dp + 3 < recursionLimit) (hu : un + 8 * 3 < cLine)
    (ret : ∀ i' ti' v tv h' tk', Fr h₀ L h' m → News h₀ L h' ((S, W.listOf #[.ref SL, .int i' ti'] n) :: a :: b :: (SL, W.listOf vs.toArray k) :: R) → 0 ≤ i' → 0 ≤ v → v < many → Q (.int v tv) { s with heap := h', toks := tk' }) :
    wpAny (model Challenge.rw_ey0020_01.row.prog w) (qTop dp un gd fr) (call (.ref 247) [.ref S, .int many tm]) Q E s := by
  refine tell_use (draw_tell w mg mb S SL i ti n vs ns hns k h0 hl many hm hm2 tm (a :: b :: (SL, W.listOf vs.toArray k) :: R) (List.forall_mem_cons.mpr ⟨h1, List.forall_mem_cons.mpr ⟨h2, hS⟩⟩) (.tail _ (.tail _ (.head _)))) F X N T hd hu fun r news' h' tk' F' N' K' P' => ?_
  obtain ⟨i', ti', rfl, hi, v, tv, rfl, hv0, hv1⟩ := P'
  exact ret i' ti' v tv h' tk' F' N' hi hv0 hv1
theorem offs {h : Heap} {l : Array Value} {P : Addr} {tb : Array Value} {rest : List (Addr × Obj)} (N : News h₀ L h rest) (hP : (P, tabOf tb) ∈ rest) (hsub : ∀ p ∈ pre, p ∈ rest) (hpre : ∀ p ∈ pre, p.2.cls ≠ .none) : ∀ p ∈ pre, p.1 ≠ P := fun p hp => off_cls N hP (hsub p hp) (hpre p hp)
theorem split_at {l : Array Value} {x : PySem.Str} {t tp : Tok} {pos : Int} {Q : Value → Shared → Prop} (G : AllBare s.gens) (B : ∃ bm ob, BMod h₀ mainGlobals mg bm ob) (F : Fr h₀ L s.heap m) (X : (hd.heap_39 w.params).In h₀)
    (N : News h₀ L s.heap (pre ++ (S, W.listOf l n) :: (219, tabOf ps) :: (203, tabOf qs) :: R)) (T : TopRead hd.view_39 LO mg mb h₀)
    (hx : OkT x) (hpos : pos ≤ cellLen x) (htr : TriplesOk ps.toList) (hpre : ∀ p ∈ pre, p.2.cls ≠ .none) (hR : ∀ p ∈ R, p.1 ≠ 219) (hd : dp + 24 < recursionLimit) (hu : un + 8 * 24 < cLine)
    (ret : ∀ D a b ta tb ps' h' tk' gs', AllBare gs' → Fr h₀ L h' m → TriplesOk (Array.toList ps') → News h₀ L h' ((D, tupO [.str a ta, .str b tb]) :: (pre ++ (S, W.listOf l n) :: (219, tabOf ps') :: (203, tabOf qs) :: R)) → SplitAll x pos a b → Q (.ref D) { s with heap := h', toks := tk', gens := gs' }) :
    wpAny (model Challenge.rw_ey0020_01.row.prog w) (qTop dp un gd fr) (call (.ref 232) [.str x t, .int pos tp]) Q E s := by
  have hoff : ∀ p ∈ pre ++ (S, W.listOf l n) :: (203, tabOf qs) :: R, p.1 ≠ 219 := by
    intro p hp
    rcases List.mem_append.mp hp with hp | hp
    · exact off_cls N (P := 219) (ps := ps) (by simp) (List.mem_append_left _ hp) (hpre p hp)
    · rcases List.mem_cons.mp hp with rfl | hp
      · exact off_cls N (P := 219) (ps := ps) (by simp) (p := (S, _)) (by simp) (by simp)
      · rcases List.mem_cons.mp hp with rfl | hp
        · show ¬ ((203 : Addr) = 219)
          decide
        · exact hR p hp
  refine tellG_use (split_tell w mg mb x t pos tp hx hpos ps htr (pre ++ (S, W.listOf l n) :: (203, tabOf qs) :: R) hoff) G B F X (fun p hp => N p ?_) T hd hu fun r news' h' tk' gs' G' F' N' K' P' => ?_
  · simp only [List.mem_append, List.mem_cons] at hp ⊢
    rcases hp with h | h | h | h | h <;> simp [h]
  · obtain ⟨D, a, b, ta, tb, ps', rfl, htr', rfl, so⟩ := P'
    refine ret D a b ta tb ps' h' tk' gs' G' F' htr' (fun p hp => N' p ?_) so
    simp only [List.mem_append, List.mem_cons] at hp ⊢
    rcases hp with h | h | h | h | h | h <;> simp [h]
theorem set_at {l : Array Value} {x : PySem.Str} {t tp : Tok} {tot : Int} {Q : Value → Shared → Prop} (G : AllBare s.gens) (B : ∃ bm ob, BMod h₀ mainGlobals mg bm ob) (F : Fr h₀ L s.heap m) (X : (hd.heap_39 w.params).In h₀)
    (N : News h₀ L s.heap (pre ++ (S, W.listOf l n) :: (219, tabOf ps) :: (203, tabOf qs) :: R)) (T : TopRead hd.view_39 LO mg mb h₀)
    (hx : OkT x) (htot : 0 ≤ tot ∧ tot ≤ 1000) (htr : TriplesOk ps.toList) (htq : TriplesOk qs.toList) (hpre : ∀ p ∈ pre, p.2.cls ≠ .none) (hR : ∀ p ∈ R, p.1 ≠ 219) (hR3 : ∀ p ∈ R, p.1 ≠ 203) (hd : dp + 24 < recursionLimit) (hu : un + 8 * 24 < cLine)
    (ret : ∀ z tz ps' qs' h' tk' gs', AllBare gs' → Fr h₀ L h' m → TriplesOk (Array.toList ps') → TriplesOk (Array.toList qs') → News h₀ L h' (pre ++ (S, W.listOf l n) :: (219, tabOf ps') :: (203, tabOf qs') :: R) → SetOut x tot z → Q (.str z tz) { s with heap := h', toks := tk', gens := gs' }) :
    wpAny (model Challenge.rw_ey0020_01.row.prog w) (qTop dp un gd fr) (call (.ref 240) [.str x t, .int tot tp]) Q E s := by
  have hoff : ∀ p ∈ pre ++ (S, W.listOf l n) :: R, p.1 ≠ 219 := by
    intro p hp
    rcases List.mem_append.mp hp with hp | hp
    · exact off_cls N (P := 219) (ps := ps) (by simp) (List.mem_append_left _ hp) (hpre p hp)
    · rcases List.mem_cons.mp hp with rfl | hp
      · exact off_cls N (P := 219) (ps := ps) (by simp) (p := (S, _)) (by simp) (by simp)
      · exact hR p hp
  have hoff3 : ∀ p ∈ pre ++ (S, W.listOf l n) :: R, p.1 ≠ 203 := by
    intro p hp
    rcases List.mem_append.mp hp with hp | hp
    · exact off_cls N (P := 203) (ps := qs) (by simp) (List.mem_append_left _ hp) (hpre p hp)
    · rcases List.mem_cons.mp hp with rfl | hp
      · exact off_cls N (P := 203) (ps := qs) (by simp) (p := (S, _)) (by simp) (by simp)
      · exact hR3 p hp
  refine tellG_use (set_tell w mg mb x t tot tp hx htot ps qs htr htq (pre ++ (S, W.listOf l n) :: R) hoff hoff3) G B F X (fun p hp => N p ?_) T hd hu fun r news' h' tk' gs' G' F' N' K' P' => ?_
  · simp only [List.mem_append, List.mem_cons] at hp ⊢
    rcases hp with h | h | h | h | h <;> simp [h]
  · obtain ⟨z, tz, ps', qs', rfl, htr', htq', rfl, so⟩ := P'
    refine ret z tz ps' qs' h' tk' gs' G' F' htr' htq' (fun p hp => N' p ?_) so
    simp only [List.mem_append, List.mem_cons] at hp ⊢
    rcases hp with h | h | h | h | h <;> simp [h]
theorem cell_at {l : Array Value} {x : PySem.Str} {t : Tok} {Q : Value → Shared → Prop} (G : AllBare s.gens) (B : ∃ bm ob, BMod h₀ mainGlobals mg bm ob) (F : Fr h₀ L s.heap m) (X : (hd.heap_39 w.params).In h₀)
    (N : News h₀ L s.heap (pre ++ (S, W.listOf l n) :: (219, tabOf ps) :: (203, tabOf qs) :: R)) (T : TopRead hd.view_39 LO mg mb h₀)
    (hx : OkT x) (htq : TriplesOk qs.toList) (hpre : ∀ p ∈ pre, p.2.cls ≠ .none) (hR3 : ∀ p ∈ R, p.1 ≠ 203) (hd : dp + 16 < recursionLimit) (hu : un + 8 * 16 < cLine)
    (ret : ∀ t' qs' h' tk' gs', AllBare gs' → Fr h₀ L h' m → TriplesOk (Array.toList qs') → News h₀ L h' (pre ++ (S, W.listOf l n) :: (219, tabOf ps) :: (203, tabOf qs') :: R) → Q (.int (cellLen x) t') { s with heap := h', toks := tk', gens := gs' }) :
    wpAny (model Challenge.rw_ey0020_01.row.prog w) (qTop dp un gd fr) (call (.ref 201) [.str x t]) Q E s := by
  have hoff3 : ∀ p ∈ pre ++ (S, W.listOf l n) :: (219, tabOf ps) :: R, p.1 ≠ 203 := by
    intro p hp
    rcases List.mem_append.mp hp with hp | hp
    · exact off_cls N (P := 203) (ps := qs) (by simp) (List.mem_append_left _ hp) (hpre p hp)
    · rcases List.mem_cons.mp hp with rfl | hp
      · exact off_cls N (P := 203) (ps := qs) (by simp) (p := (S, _)) (by simp) (by simp)
      · rcases List.mem_cons.mp hp with rfl | hp
        · show ¬ ((219 : Addr) = 203)
          decide
        · exact hR3 p hp
  refine tellG_use (celllen_tell w mg mb x t hx qs htq (pre ++ (S, W.listOf l n) :: (219, tabOf ps) :: R) hoff3) G B F X (fun p hp => N p ?_) T hd hu fun r news' h' tk' gs' G' F' N' K' P' => ?_
  · simp only [List.mem_append, List.mem_cons] at hp ⊢
    rcases hp with h | h | h | h | h <;> simp [h]
  · obtain ⟨qs', htq', rfl, t', rfl⟩ := P'
    refine ret t' qs' h' tk' gs' G' F' htq' (fun p hp => N' p ?_)
    simp only [List.mem_append, List.mem_cons] at hp ⊢
    rcases hp with h | h | h | h | h <;> simp [h]
end
end Mine
end
namespace Mine
section
local macro_rules | `(tactic| walk_at "mine_nothing") => `(tactic| skip)
theorem fresh_MW : True ∧ True := by
  w_top off
  first | (walk1; fail "on") | exact ⟨trivial, trivial⟩
end
end Mine
section
open PySem PySem.W PyProof.Rows PySem.Calls PySem.Spec PyProof.V
set_option Elab.async false
set_option maxRecDepth 100000
set_option maxHeartbeats 0
namespace Mine
theorem mw_perm {h₀ h : Heap} {L : Addr} {a b S K1 K2 : Addr × Obj} {own : List (Addr × Obj)} (N : News h₀ L h ([K1, K2, S, a] ++ own)) : News h₀ L h (S :: K1 :: K2 :: a :: own) := fun p hp => N p (by
  simp only [List.mem_cons, List.cons_append, List.nil_append] at hp ⊢
  rcases hp with h | h | h | h | h
  · exact .inr (.inr (.inl h))
  · exact .inl h
  · exact .inr (.inl h)
  · exact .inr (.inr (.inr (.inl h)))
  · exact .inr (.inr (.inr (.inr h))))
local macro_rules | `(tactic| walk_at "my_enter") => `(tactic| (refine wpAny_call ?_; walk_at "my_code"))
local macro_rules | `(tactic| walk_at "my_code") => `(tactic| (k_dflt (refine' code_q ?k1 ?k2 ?k3 ?k4 ?k6 ?k7 ?k8 ?k9 ?kB ?_ ?c2 ?c3 ?c4 ?c5; (case k1 => k_asm); (case k2 => k_asm); (case k3 => k_asm); (case k4 => k_asm); (case k6 => k_is); (case k7 => k_is); (case k8 => ktr_room); (case k9 => first | exact BindsTo.of_eq rfl | exact binds_K (by k_in) rfl (by k_is) rfl rfl rfl); (case c5 => decide); (case kB => exact locs rfl); (case c2 => exact rfl); (case c3 => exact rfl); (case c4 => exact rfl); k_whole; intro g' L' h' FG' F' N' kp' X' T' lt'; (try dsimp only); (try k_fold))))
local macro_rules | `(tactic| ktr_room) => `(tactic| ((try simp only [depth_under_make, depth_under_kw, depth_in1, depth_deeper, depth_caller]); (try dsimp only [qTop]); omega))
local macro_rules | `(tactic| ktr_units) => `(tactic| ((try simp only [units_in1, units_deeper, Around.mark_units, units_caller]); (try dsimp only [qTop]); omega))
local macro_rules | `(tactic| walk_at "my_fill") => `(tactic| ((have hkk : PySem.Challenge.rw_ey0020_01 = PySem.Challenge.rw_ey0020_01 ∧ hd.heap_39 = hd.heap_39 := by (k_fill; exact ⟨rfl, rfl⟩)); clear hkk))
local macro_rules | `(tactic| walk_at "km_same") => `(tactic| (intro z; intros; rename_i hs; simp only [List.contains_cons, List.contains_nil, Bool.or_false, Bool.or_eq_false_iff, beq_eq_false_iff_ne, ne_eq] at hs; simp [kstB, *]))
local macro_rules | `(tactic| walk_at "km_same2") => `(tactic| (intro z hz hs; simp only [List.contains_cons, List.contains_nil, Bool.or_false, Bool.or_eq_false_iff, beq_eq_false_iff_ne, ne_eq] at hs; simp only [List.forall_mem_cons, List.not_mem_nil, false_imp_iff, implies_true, and_true, ne_eq] at hz; simp [kstB, hz, hs]))
local macro_rules | `(tactic| walk_at "km_same3") => `(tactic| (intro z hx hz hs; simp only [List.contains_cons, List.contains_nil, Bool.or_false, Bool.or_eq_false_iff, beq_eq_false_iff_ne, ne_eq] at hs; simp only [List.forall_mem_cons, List.not_mem_nil, false_imp_iff, implies_true, and_true, ne_eq] at hz; simp [kstB, hx, hz, hs]))
local macro_rules | `(tactic| walk_at "tell_args") => `(tactic| ((case k2 => k_asm); (case k3 => k_asm); (case k4 => k_asm); (case k5 => k_asm); (case kd => ktr_room); (case ku => ktr_units)))
local macro_rules | `(tactic| walk_at "keep_end") => `(tactic| exact KeepsBut.then (by assumption) (by assumption))
local macro_rules | `(tactic| walk_at "steps_while") => `(tactic| repeat' ((fail_if_success (with_reducible show wpAny _ _ (exec (Stmt.While _ _ _ _) _) _ _ _)); (first | (k_unfold; (try dsimp only)) | (k_end; wrow_close) | walk1 | (dsimp only; walk1) | (leave1; walk_say "STEP leave1"; try dsimp only) | fail "no step")))
structure LSt where
  i : Int
  ti : Tok
  ps : Array Value
  qs : Array Value
theorem namesM {h₀ h : Heap} {L S SL : Addr} {ti : Tok} {vs : List Value} {ns : List Int} {n k : Nat} {r : List (Addr × Obj)} (_ : IntsAre vs ns) (_ : News h₀ L h ((S, W.listOf #[.ref SL, .int 0 ti] n) :: (SL, W.listOf vs.toArray k) :: r)) :
    ∃ S' SL' ti' vs' ns', S' = S ∧ SL' = SL ∧ ti' = ti ∧ vs' = vs ∧ ns' = ns := ⟨_, _, _, _, _, rfl, rfl, rfl, rfl, rfl⟩
theorem mw_ord {h₀ h : Heap} {L : Addr} {S SL K1 K2 : Addr × Obj} (N : News h₀ L h [S, SL, K1, K2]) : News h₀ L h [S, K2, K1, SL] := fun p hp => N p (by
  simp only [List.mem_cons, List.not_mem_nil, or_false] at hp ⊢
  rcases hp with h | h | h | h
  · exact .inl h
  · exact .inr (.inr (.inr h))
  · exact .inr (.inr (.inl h))
  · exact .inr (.inl h))
local macro_rules | `(tactic| walk_at "steps_src") => `(tactic| repeat' ((fail_if_success (with_reducible show StrSrc _ _ _ _ _ _ _ _ _ _ _ _ _ _)); (first | (k_unfold; (try dsimp only)) | (k_end; wrow_close) | walk1 | (dsimp only; walk1) | (leave1; walk_say "STEP leave1"; try dsimp only) | fail "no step")))
local macro_rules | `(tactic| walk_at "eval ListComp") => `(tactic| (k_here; k_dflt (refine ListComp_str (_F₀ := by k_asm) (by rfl) (by decide) (by rfl) (by decide) (by rfl) ?_)))
local macro_rules | `(tactic| walk_at "call ref") => `(tactic| (k_here; (with_reducible show wpAny _ _ (call (Value.ref 264) [Value.ref _, Value.int 12 _]) _ _ _); k_dflt (refine' text_at ?F ?X ?N ?T ?hns ?hl ?h0 ?h1 ?h2 ?hS ?hd ?hu ?_; (case F => k_asm); (case X => k_asm); (case N => k_asm); (case T => k_asm); (case hns => k_asm); (case hl => k_asm); (case h0 => k_asm); (case h1 => exact (Ne.symm (by assumption))); (case h2 => exact (Ne.symm (by assumption))); (case hS => assumption); (case hd => ktr_room); (case hu => ktr_units)); intro i9 ti9 x9 tx9 h9 tk9 F9 N9 hi9 hx9 hs9))
local macro_rules | `(tactic| walk_at "call ref") => `(tactic| (k_here; (with_reducible show wpAny _ _ (call (Value.ref 247) [Value.ref _, Value.int _ _]) _ _ _); k_dflt (refine' drawS_at ?F ?X ?N ?T ?hns ?hl ?h0 ?hm ?hm2 ?h1 ?h2 ?hS ?hd ?hu ?_; (case F => k_asm); (case X => k_asm); (case N => first | assumption | exact kti_tail (by assumption)); (case T => k_asm); (case hns => k_asm); (case hl => k_asm); (case h0 => k_asm); (case hm => omega); (case hm2 => omega); (case h1 => exact (Ne.symm (by assumption))); (case h2 => exact (Ne.symm (by assumption))); (case hS => assumption); (case hd => ktr_room); (case hu => ktr_units)); intro i9 ti9 v9 tv9 h9 tk9 F9 N9 hi9 hv9 hw9))
theorem nameX {x : Str} (_ : OkT x) : ∃ x', x' = x := ⟨_, rfl⟩
theorem namesL {h₀ h : Heap} {L : Addr} {l : List (Addr × Obj)} (_ : News h₀ L h l) : ∃ l', l' = l := ⟨_, rfl⟩
local macro_rules | `(tactic| walk_at "steps_st") => `(tactic| repeat' ((fail_if_success (with_reducible show wpAny _ _ (call (Value.ref 232) _) _ _ _)); (first | (k_unfold; (try dsimp only)) | (k_end; wrow_close) | walk1 | (dsimp only; walk1) | (leave1; walk_say "STEP leave1"; try dsimp only) | fail "no step")))
local macro_rules | `(tactic| walk_at "call ref") => `(tactic| (k_here; (with_reducible show wpAny _ _ (call (Value.ref 259) [Value.str _ _]) _ _ _); k_dflt (refine' tell_use (size_tell _ _ _ _ ?hn _ _) ?k2 ?k3 ?k4 ?k5 ?kd ?ku ?_; (case hn => assumption); walk_at "tell_args"); intro r9 news9 h9 tk9 F9 N9 K9 P9; obtain ⟨e9, t9, e8⟩ := P9; subst e9; subst e8))
local macro_rules | `(tactic| walk_at "call ref") => `(tactic| (k_here; (with_reducible show wpAny _ _ (call (Value.ref 283) [Value.str _ _]) _ _ _); k_dflt (refine' tell_use (plain_tell _ _ _ _ ?hx _ _) ?k2 ?k3 ?k4 ?k5 ?kd ?ku ?_; (case hx => k_asm); walk_at "tell_args"); intro r9 news9 h9 tk9 F9 N9 K9 P9; obtain ⟨e9, e8⟩ := P9; subst e9; subst e8))
local macro_rules | `(tactic| walk_at "call ref") => `(tactic| (k_here; (with_reducible show wpAny _ _ (call (Value.ref 278) [Value.str _ _, Value.int _ _]) _ _ _); k_dflt (refine' tell_use (split2_tell _ _ _ _ _ _ _ ?hx _) ?k2 ?k3 ?k4 ?k5 ?kd ?ku ?_; (case hx => k_asm); walk_at "tell_args"); intro r9 news9 h9 tk9 F9 N9 K9 P9; obtain ⟨T9, a9, b9, ta9, tb9, e9, e8, lo9⟩ := P9; subst e9; subst e8))
local macro_rules | `(tactic| walk_at "call ref") => `(tactic| (k_here; (with_reducible show wpAny _ _ (call (Value.ref 232) [Value.str _ _, Value.int _ _]) _ _ _); k_dflt (first | (refine' split_at (pre := [_, _]) ?G ?B ?F ?X ?N ?T ?hx ?hpos ?htr ?hpre ?hR ?hd ?hu ?_; (case G => k_asm); (case B => k_asm); (case F => k_asm); (case X => k_asm); (case N => k_asm); (case T => k_asm); (case hx => k_asm); (case hpos => omega); (case htr => k_asm); (case hpre => simp); (case hR => k_asm); (case hd => ktr_room); (case hu => ktr_units))); intro D9 a9 b9 ta9 tb9 ps9 h9 tk9 gs9 G9 F9 htr9 N9 so9; (try dsimp only [List.cons_append, List.nil_append] at N9)))
local macro_rules | `(tactic| walk_at "call ref") => `(tactic| (k_here; (with_reducible show wpAny _ _ (call (Value.ref 240) [Value.str _ _, Value.int _ _]) _ _ _); k_dflt (first | (refine' set_at (pre := [_, _, _]) ?G ?B ?F ?X ?N ?T ?hx ?htot ?htr ?htq ?hpre ?hR ?hR3 ?hd ?hu ?_; (case G => k_asm); (case B => k_asm); (case F => k_asm); (case X => k_asm); (case N => k_asm); (case T => k_asm); (case hx => k_asm); (case htot => omega); (case htr => k_asm); (case htq => k_asm); (case hpre => simp); (case hR => k_asm); (case hR3 => k_asm); (case hd => ktr_room); (case hu => ktr_units)) | (refine' set_at (pre := [_, _, _, _]) ?G ?B ?F ?X ?N ?T ?hx ?htot ?htr ?htq ?hpre ?hR ?hR3 ?hd ?hu ?_; (case G => k_asm); (case B => k_asm); (case F => k_asm); (case X => k_asm); (case N => k_asm); (case T => k_asm); (case hx => k_asm); (case htot => omega); (case htr => k_asm); (case htq => k_asm); (case hpre => simp); (case hR => k_asm); (case hR3 => k_asm); (case hd => ktr_room); (case hu => ktr_units))); intro z9 tz9 ps9 qs9 h9 tk9 gs9 G9 F9 htr9 htq9 N9 so9; (try dsimp only [List.cons_append, List.nil_append] at N9)))
local macro_rules | `(tactic| walk_at "call ref") => `(tactic| (k_here; (with_reducible show wpAny _ _ (call (Value.ref 201) [Value.str _ _]) _ _ _); k_dflt (first | (refine' cell_at (pre := [_, _, _]) ?G ?B ?F ?X ?N ?T ?hx ?htq ?hpre ?hR3 ?hd ?hu ?_; (case G => k_asm); (case B => k_asm); (case F => k_asm); (case X => k_asm); (case N => k_asm); (case T => k_asm); (case hx => exact set_ok (by assumption) (by assumption) (by assumption) (by omega) (by assumption)); (case htq => k_asm); (case hpre => simp); (case hR3 => k_asm); (case hd => ktr_room); (case hu => ktr_units)) | (refine' cell_at (pre := [_, _, _, _]) ?G ?B ?F ?X ?N ?T ?hx ?htq ?hpre ?hR3 ?hd ?hu ?_; (case G => k_asm); (case B => k_asm); (case F => k_asm); (case X => k_asm); (case N => k_asm); (case T => k_asm); (case hx => exact set_ok (by assumption) (by assumption) (by assumption) (by omega) (by assumption)); (case htq => k_asm); (case hpre => simp); (case hR3 => k_asm); (case hd => ktr_room); (case hu => ktr_units))); intro t9 qs9 h9 tk9 gs9 G9 F9 htq9 N9; (try dsimp only [List.cons_append, List.nil_append] at N9)))
local macro_rules | `(tactic| walk_at "compareOp NotEq ref ref") => `(tactic| (k_here; k_dflt (refine' ne_tup ?N ?h1 ?h2 ?hu ?ha ?hb ?_; (case N => k_asm); (case h1 => k_mem); (case h2 => k_mem); (case hu => ktr_units); (case ha => first | exact (split_plain (by assumption) (by assumption) (by assumption)).1 | exact (split_wide (by assumption) (by assumption) (by assumption) (by assumption)).1); (case hb => first | exact (split_plain (by assumption) (by assumption) (by assumption)).2 | exact (split_wide (by assumption) (by assumption) (by assumption) (by assumption)).2))))
local macro_rules | `(tactic| walk_at "compareOp NotEq str str") => `(tactic| (k_here; k_dflt (refine' ne_str ?he ?_; (case he => first | exact made0'' (by assumption) (by assumption) (by omega) | exact made1' (by assumption) (by assumption) (by omega) (by omega) (by assumption) | exact made2 (by assumption) (by assumption) (by omega) (by assumption) | exact made3' (by assumption) (by assumption) (by assumption) (by assumption) (by omega) (by omega)))))
local macro_rules | `(tactic| walk_at "compareOp NotEq int int") => `(tactic| (k_here; k_dflt (refine' ne_int ?he ?_; (case he => exact set_len (by assumption) (by assumption) (by assumption)))))
theorem mw_sub3 {x y z a b c d : Addr × Obj} {own : List (Addr × Obj)} : ∀ p ∈ [a, b, c, d], p ∈ x :: y :: z :: a :: b :: c :: d :: own := by
  intro p hp
  simp only [List.mem_cons, List.not_mem_nil, or_false] at hp ⊢
  rcases hp with h | h | h | h <;> simp [h]
theorem mw_sub4 {x y z v a b c d : Addr × Obj} {own : List (Addr × Obj)} : ∀ p ∈ [a, b, c, d], p ∈ x :: y :: z :: v :: a :: b :: c :: d :: own := by
  intro p hp
  simp only [List.mem_cons, List.not_mem_nil, or_false] at hp ⊢
  rcases hp with h | h | h | h <;> simp [h]
theorem mw_own3 {x y z a b c d : Addr × Obj} {own : List (Addr × Obj)} : ∀ p ∈ own, p ∈ x :: y :: z :: a :: b :: c :: d :: own := fun p hp => .tail _ (.tail _ (.tail _ (.tail _ (.tail _ (.tail _ (.tail _ hp))))))
theorem mw_own4 {x y z v a b c d : Addr × Obj} {own : List (Addr × Obj)} : ∀ p ∈ own, p ∈ x :: y :: z :: v :: a :: b :: c :: d :: own := fun p hp => .tail _ (.tail _ (.tail _ (.tail _ (.tail _ (.tail _ (.tail _ (.tail _ hp)))))))
local macro_rules | `(tactic| walk_at "call ref") => `(tactic| (k_here; (with_reducible show wpAny _ _ (call (Value.ref 232) [Value.str (Str.ofString _) _, Value.int _ _]) _ _ _); k_dflt (first | (refine' split_at (pre := []) ?G ?B ?F ?X ?N ?T ?hx ?hpos ?htr ?hpre ?hR ?hd ?hu ?_; (case G => k_asm); (case B => k_asm); (case F => k_asm); (case X => k_asm); (case N => k_asm); (case T => k_asm); (case hx => first | exact ok_ab | exact ok_b); (case hpos => first | (rw [cl_ab]; decide) | (rw [cl_b]; decide)); (case htr => k_asm); (case hpre => simp); (case hR => k_asm); (case hd => ktr_room); (case hu => ktr_units)) | (refine' split_at (pre := [_]) ?G ?B ?F ?X ?N ?T ?hx ?hpos ?htr ?hpre ?hR ?hd ?hu ?_; (case G => k_asm); (case B => k_asm); (case F => k_asm); (case X => k_asm); (case N => k_asm); (case T => k_asm); (case hx => first | exact ok_ab | exact ok_b); (case hpos => first | (rw [cl_ab]; decide) | (rw [cl_b]; decide)); (case htr => k_asm); (case hpre => simp); (case hR => k_asm); (case hd => ktr_room); (case hu => ktr_units)) | (refine' split_at (pre := [_, _]) ?G ?B ?F ?X ?N ?T ?hx ?hpos ?htr ?hpre ?hR ?hd ?hu ?_; (case G => k_asm); (case B => k_asm); (case F => k_asm); (case X => k_asm); (case N => k_asm); (case T => k_asm); (case hx => first | exact ok_ab | exact ok_b); (case hpos => first | (rw [cl_ab]; decide) | (rw [cl_b]; decide)); (case htr => k_asm); (case hpre => simp); (case hR => k_asm); (case hd => ktr_room); (case hu => ktr_units))); intro D9 a9 b9 ta9 tb9 ps9 h9 tk9 gs9 G9 F9 htr9 N9 so9; (try dsimp only [List.cons_append, List.nil_append] at N9); (first | have P9 := told1 so9 | have P9 := told2 so9 | have P9 := told3 so9); obtain ⟨ea9, eb9⟩ := P9; subst ea9 eb9))
local macro_rules | `(tactic| walk_at "call ref") => `(tactic| (k_here; (with_reducible show wpAny _ _ (call (Value.ref 240) [Value.str (Str.ofString _) _, Value.int _ _]) _ _ _); k_dflt (first | (refine' set_at (pre := [_, _, _, _, _, _, _, _]) ?G ?B ?F ?X ?N ?T ?hx ?htot ?htr ?htq ?hpre ?hR ?hR3 ?hd ?hu ?_; (case G => k_asm); (case B => k_asm); (case F => k_asm); (case X => k_asm); (case N => k_asm); (case T => k_asm); (case hx => exact ok_ab); (case htot => omega); (case htr => k_asm); (case htq => k_asm); (case hpre => simp); (case hR => k_asm); (case hR3 => k_asm); (case hd => ktr_room); (case hu => ktr_units)) | (refine' set_at (pre := [_, _, _, _, _, _, _]) ?G ?B ?F ?X ?N ?T ?hx ?htot ?htr ?htq ?hpre ?hR ?hR3 ?hd ?hu ?_; (case G => k_asm); (case B => k_asm); (case F => k_asm); (case X => k_asm); (case N => k_asm); (case T => k_asm); (case hx => exact ok_ab); (case htot => omega); (case htr => k_asm); (case htq => k_asm); (case hpre => simp); (case hR => k_asm); (case hR3 => k_asm); (case hd => ktr_room); (case hu => ktr_units)) | (refine' set_at (pre := [_, _, _, _, _, _]) ?G ?B ?F ?X ?N ?T ?hx ?htot ?htr ?htq ?hpre ?hR ?hR3 ?hd ?hu ?_; (case G => k_asm); (case B => k_asm); (case F => k_asm); (case X => k_asm); (case N => k_asm); (case T => k_asm); (case hx => exact ok_ab); (case htot => omega); (case htr => k_asm); (case htq => k_asm); (case hpre => simp); (case hR => k_asm); (case hR3 => k_asm); (case hd => ktr_room); (case hu => ktr_units)) | (refine' set_at (pre := [_, _, _, _, _, _, _, _, _]) ?G ?B ?F ?X ?N ?T ?hx ?htot ?htr ?htq ?hpre ?hR ?hR3 ?hd ?hu ?_; (case G => k_asm); (case B => k_asm); (case F => k_asm); (case X => k_asm); (case N => k_asm); (case T => k_asm); (case hx => exact ok_ab); (case htot => omega); (case htr => k_asm); (case htq => k_asm); (case hpre => simp); (case hR => k_asm); (case hR3 => k_asm); (case hd => ktr_room); (case hu => ktr_units))); intro z9 tz9 ps9 qs9 h9 tk9 gs9 G9 F9 htr9 htq9 N9 so9; (try dsimp only [List.cons_append, List.nil_append] at N9); have ez9 := told4 so9; subst ez9))
theorem len63 {vs : List Value} {ns : List Int} (_ : IntsAre vs ns) (h : ns.length ≤ 63) : ns.length ≤ 63 := h
local macro_rules | `(tactic| walk_at "call ref") => `(tactic| (k_here; (with_reducible show wpAny _ _ (call (Value.ref 252) [Value.ref _]) _ _ _); k_dflt (refine' state_tell _ _ _ _ _ _ ?hI ?hl _ _ _ _ _ _ _ _ _ _ _ ?hL ?k2 ?k3 ?k4 ?k5 ?kd ?ku ?_; (case hI => assumption); (case hl => assumption); (case hL => assumption); walk_at "tell_args"); intro r9 news9 h9 tk9 F9 N9 K9 P9; obtain ⟨S9, SL9, ti9, vs9, ns9, e9, e8, hi9, hl9, of9⟩ := P9; subst e9; subst e8))
local macro_rules | `(tactic| walk_at "steps_for") => `(tactic| repeat' ((fail_if_success (with_reducible show wpAny _ _ (exec (Stmt.For _ _ _ _ _) _) _ _ _)); (first | (k_unfold; (try dsimp only)) | (k_end; wrow_close) | walk1 | (dsimp only; walk1) | (leave1; walk_say "STEP leave1"; try dsimp only) | fail "no step")))
theorem main_t : PySem.Challenge.rw_ey0020_01.Holds := by
  apply hd
  k_fill
  intro w s₀ s₁ mg mb G Y fa o pm cd doc dV kV ho hd hcd hD hmg hg args vals as hpre hlay hrd hwl hlo
  have KT9 : (KT Mine.hd.heap_39 w.params).In s₁.heap := kIn_of Y
  have KX : (Mine.hd.heap_39 w.params).In s₁.heap := kt_in KT9 (by kernel_rfl) (by kernel_rfl)
  have hT9 : TabsAt [(207, 203), (223, 219)] s₁.heap := List.forall_mem_cons.mpr ⟨⟨codeHd_of_K (c := 207) (P := 203) KX (by kernel_rfl), KT9 _ _ rfl⟩, List.forall_mem_cons.mpr ⟨⟨codeHd_of_K (c := 223) (P := 219) KX (by kernel_rfl), KT9 _ _ rfl⟩, List.forall_mem_nil _⟩⟩
  refine Ground.open G ?_
  intro T B D TE TW
  try (refine guard_noD D (by decide +kernel) ?_; clear D)
  obtain ⟨bm, ob, M⟩ := bmod_of_top T
  wrow_args hpre hlay hrd hwl hlo
  refine enter_call ?_
  w_top on
  refine my_post hT9 ?hr ?hp ?_
  case hp => wrow_post
  case hr => exact fun _ => rfl
  w_call any ho hd hcd hD T F
  clear hd
  have X0 := ghost_K hT9 KX (by kernel_rfl)
  have T0 := ghost_topR hT9 (topRead_of T)
  have B0 : ∃ bm ob, BMod (ghostOf s₁.heap [(207, 203), (223, 219)]) mainGlobals mg bm ob := ⟨_, _, ghost_bmod hT9 M⟩
  rename News _ _ _ _ => N0
  rename Heap.IsList _ _ _ => hLx
  rename IntsAre _ _ => hI
  rename (¬ _ < _) => hcl
  have N9 := ghost_news hT9 F N0
  have F9 := ghost_fr hT9 F
  have hLs := ghost_list hT9 hLx
  have l0 := ghost_lt hT9 F
  have hlen := len63 hI (by omega)
  simp only [tabNews, List.map_cons, List.map_nil, List.nil_append] at N9 l0
  clear N0 hLx F B TE TW M hcd hmg hD ho Y G T hT9 KT9 KX hcl
  k_drop
  rename (∀ p ∈ [_, _], _) => l0
  rename News _ _ _ _ => N9
  rename Fr _ _ _ _ => F9
  rename IntsAre _ _ => hI
  k_lt l0
  have G9 : AllBare s₁.gens := .of_eq hg
  generalize ghostOf s₁.heap [(207, 203), (223, 219)] = g₀ at *
  replace N9 : News g₀ _ _ [(203, tabOf #[]), (219, tabOf #[])] := N9
  walk_at "steps_for"
  rename News _ _ _ _ => N1
  rename Fr _ _ _ _ => F1
  rename IntsAre _ _ => hI1
  obtain ⟨S, SL, ti, vs, ns, e1, e2, e3, e4, e5⟩ := namesM hI1 N1
  subst e1 e2 e3 e4 e5
  have of1 : ∀ p ∈ [(SL, W.listOf vs.toArray vs.length), (203, tabOf #[]), (219, tabOf #[])], p.1 ≠ S := by assumption
  have hl1 : ns.length ≤ 63 := by assumption
  replace N1 := mw_ord N1
  generalize vs.length = kS at N1 of1
  have hSL9 : SL ≠ 219 := off_cls N1 (P := 219) (ps := #[]) (p := (SL, _)) (.tail _ (.head _)) (.tail _ (.tail _ (.tail _ (.head _)))) (by simp)
  have hSL3 : SL ≠ 203 := off_cls N1 (P := 203) (ps := #[]) (p := (SL, _)) (.tail _ (.tail _ (.head _))) (.tail _ (.tail _ (.tail _ (.head _)))) (by simp)
  have hS9 : S ≠ 219 := off_cls N1 (P := 219) (ps := #[]) (p := (S, _)) (.tail _ (.head _)) (.head _) (by simp)
  have hS3 : S ≠ 203 := off_cls N1 (P := 203) (ps := #[]) (p := (S, _)) (.tail _ (.tail _ (.head _))) (.head _) (by simp)
  have hSSL : SL ≠ S := of1 _ (.head _)
  refine' range_loop_g (σ := LSt) (n := 2) (b₀ := 2) (fun _ => []) [Str.ofString "text", Str.ofString "total", Str.ofString "place", Str.ofString "size", Str.ofString "due", Str.ofString "made"]
    (fun _ nx c => 0 ≤ c.i ∧ TriplesOk c.ps.toList ∧ TriplesOk c.qs.toList ∧ nx = (S, W.listOf #[.ref SL, .int c.i c.ti] 0) :: (219, tabOf c.ps) :: (203, tabOf c.qs) :: (SL, W.listOf vs.toArray kS) :: [])
    ⟨0, ti, #[], #[]⟩ F1 rfl G9 (by with_unfolding_all rfl) (by with_unfolding_all rfl) (by decide) (by decide) (by simp) ⟨Int.le_refl _, True.intro, True.intro, rfl⟩ ?hev ?turn ?done
  case hev =>
    k_steps
    rename News _ _ _ _ => NN
    exact ⟨_, _, _, _, _, _, rfl, rfl, by assumption, by assumption, NN⟩
  case turn =>
    rintro i ⟨si, sti, ps, qs⟩ u t nx h tk gs own hi hoff Gs ⟨hs0, htp, htq, rfl⟩ F₁ N₁
    dsimp only at hs0 htp htq hoff F₁ N₁
    simp only [List.cons_append, List.nil_append] at N₁
    have hR9 : ∀ p ∈ (SL, W.listOf vs.toArray kS) :: own, p.1 ≠ 219 := List.forall_mem_cons.mpr ⟨hSL9, hoff.ne (.tail _ (.head _))⟩
    have hR3 : ∀ p ∈ (SL, W.listOf vs.toArray kS) :: own, p.1 ≠ 203 := List.forall_mem_cons.mpr ⟨hSL3, hoff.ne (.tail _ (.tail _ (.head _)))⟩
    have hRS : ∀ p ∈ (SL, W.listOf vs.toArray kS) :: own, p.1 ≠ S := List.forall_mem_cons.mpr ⟨hSSL, hoff.ne (.head _)⟩
    have hoffN : OwnOff own [S, 219, 203, SL] := hoff
    walk_at "steps_src"
    rename OkT _ => hx
    rename News _ _ _ _ => NN
    rename Fr _ _ _ _ => FF
    obtain ⟨x, ex⟩ := nameX hx
    subst ex
    have hx12 : x.cps.size ≤ 12 := by assumption
    have hlen := hx.len
    have hcl0 : 0 ≤ cellLen x := (cellsTo_bd x x.cps.size).1
    have hcl : cellLen x ≤ 24 := by have := (cellsTo_bd x x.cps.size).2; exact Int.le_trans this (by omega)
    obtain ⟨nw0, enw⟩ := namesL NN
    refine StrSrc.intro (by rfl) FF NN (Nat.le_trans hx12 (by decide)) fun g => comp_inv (fun i ys nw => nw = nw0 ∧ ∃ zs, IntsAre ys zs ∧ zs.sum = cellsTo x i) ?ct ?cd _ 0 [] _ rfl ⟨enw.symm, [], .nil, rfl⟩
    case ct =>
      rintro j v ys nw I oI C oC D m₂ h tk E' hi ⟨rfl, zs, hz, hzs⟩ hv hC hxs F₁ N₁ off ne
      obtain ⟨c, tc, hc, rfl⟩ := hv
      have hcs := hx.at hc
      have hcc := cellsTo_at hc
      subst enw
      k_steps
      rename News _ _ _ _ => N9
      exact LCg.CompEnd.intro (by assumption) N9 _ (fun p hp => hp) off trivial ⟨rfl, _, hz.append (.cons _ _ .nil), by rw [List.sum_append, hzs, hcc]; simp⟩
    case cd =>
      rintro ys nw ⟨rfl, zs, hz, hzs⟩
      subst enw
      replace hzs : zs.sum = cellLen x := hzs
      have hp9 : allPlain x = true ∨ allPlain x = false := by cases allPlain x <;> simp
      k_steps
      all_goals (
        rename News _ _ _ _ => NN
        first
        | refine GL_end ⟨_, _, _, _⟩ _ (by assumption) (by assumption) NN mw_sub3 mw_own3 (by exact hoffN) (by simp) ?hr ⟨?h0, ?t1, ?t2, rfl⟩
        | refine GL_end ⟨_, _, _, _⟩ _ (by assumption) (by assumption) NN mw_sub4 mw_own4 (by exact hoffN) (by simp) ?hr ⟨?h0, ?t1, ?t2, rfl⟩
        case h0 => assumption
        case t1 => assumption
        case t2 => assumption
        case hr => walk_at "km_same")
  case done =>
    rintro ⟨si, sti, ps, qs⟩ u nx h tk gs Gs ⟨hs0, htp, htq, rfl⟩ F₁ N₁
    dsimp only at hs0 htp htq F₁ N₁
    have hR9 : ∀ p ∈ [(SL, W.listOf vs.toArray kS)], p.1 ≠ 219 := List.forall_mem_cons.mpr ⟨hSL9, List.forall_mem_nil _⟩
    have hR3 : ∀ p ∈ [(SL, W.listOf vs.toArray kS)], p.1 ≠ 203 := List.forall_mem_cons.mpr ⟨hSL3, List.forall_mem_nil _⟩
    k_steps
    rename AllBare _ => gb
    exact gb
end Mine
end
theorem PySem.Challenge.cw_ey0020_01_holds : PySem.Challenge.rw_ey0020_01.Holds :=
  Mine.main_t
