import PyProof.Rows.All
import PyProof.Walk
import PyProof.TableCode
import PyProof.FactsBase
import PyProof.PlainAttrs
import PyProof.TableTree
import PyProof.FactsTree
import PyProof.FactsAll.str_0
import PyProof.FactsAll.str_4
import PyProof.FactsAll.str_5
import PyProof.FactsAll.str_6
import PyProof.SeqWrite
import PyProof.FactsAll.list_1
import PyProof.FactsAll.list_2
import PyProof.FactsAll.list_3
import PyProof.FactsAll.dict_0
import PyProof.FactsAll.dict_3
import PyProof.AutoListH
import PyProof.AutoSeq1
import PyProof.CompMap
import PyProof.CompUse
import PyProof.StrWalks
import PyProof.CompObj
import PyProof.MeetsSeq
import PyProof.DictKinds
import PyProof.DictUpdate
import PyProof.DictDisplay
import PyProof.DictTable
import PyProof.MeetsSeq3
import PyProof.EqAt
import PyProof.IsRules
import PyProof.SliceStr2
import PyProof.Rows.SeqRoads
import PyProof.StrCalls
import PyProof.Rows.StrLen
import PyProof.Rows.StrOrd
import PyProof.Rows.StrInSeq3
import PyProof.Rows.StrWeight2
import PyProof.Rows.ListMul
import PyProof.Rows.SumAny
import PyProof.Rows.SortWalk
import PyProof.Rows.SortShellK
import KE.BitLaws
import Wide.Once
import OpenK.KCall
import Open.Head
import Open.Line
import OpenK.Lit
import OpenK.KList
import OpenK.KCell
import Open.Boot
import Open.Tree
import Open.FastT9
import OpenK.KRaise
import KE.KAnyBase
import KE.KLam
import KE.KDictIter
import KE.KEqSeq
import KE.KSortTup
import KE.KStopIter
import Wide.All
import Lean
import PySem.Challenge.RW_us0011_01
set_option Elab.async false
local macro_rules | `(tactic| walk_at "lk") => `(tactic| first | rfl | assumption | (refine (if_neg (by decide)).trans ?_; walk_at "lk") | (refine (if_pos rfl).trans ?_; walk_at "lk"))
section Z1_text
open PySem PySem.W PySem.Calls PyProof.Rows
set_option maxRecDepth 100000
namespace Mine
noncomputable abbrev pw : Program := PySem.Challenge.pw_us0011_01
noncomputable def stm (i : Nat) : Stmt := (pw.main.body[i]?).getD (.Pass default)
noncomputable def sParams : Stmt → Arguments
  | .FunctionDef _ a _ _ _ _ _ _ _ _ => a
  | _ => ⟨[], [], none, [], [], none, []⟩
noncomputable def sBody : Stmt → List Stmt
  | .FunctionDef _ _ b _ _ _ _ _ _ _ => b
  | _ => []
noncomputable def sName : Stmt → Str
  | .FunctionDef n _ _ _ _ _ _ _ _ _ => n
  | _ => ""
noncomputable def sScope : Stmt → Scope
  | .FunctionDef _ _ _ _ _ _ s _ _ _ => s
  | _ => pw.main.scope

/-- everything that stands in h stands in h' -/
noncomputable abbrev Keep (h h' : Heap) : Prop := ∀ b o, h.get? b = some o → h'.get? b = some o
theorem Keep.rfl' {h : Heap} : Keep h h := fun _ _ e => e
theorem Keep.tr {h h' h'' : Heap} (a : Keep h h') (b : Keep h' h'') : Keep h h'' := fun x o e => b x o (a x o e)

/-- the def of the text's statement i stands at f -/
noncomputable def FnAt (h : Heap) (f : Addr) (i : Nat) (dV kV : Value) : Prop :=
  ∃ o doc pm an cdv ct, h.get? f = some o ∧ o.data = .func (fnOf (sName (stm i)) (sName (stm i)) (sParams (stm i)) (sBody (stm i)) (sScope (stm i)) dV kV doc pm an cdv ct) ∧ h.CodeRec cdv (sName (stm i))

theorem FnAt.keeps {h h' : Heap} {f : Addr} {i : Nat} {dV kV : Value} (x : FnAt h f i dV kV) (hk : Keep h h') : FnAt h' f i dV kV :=
  let ⟨o, doc, pm, an, cdv, ct, h1, h2, h3⟩ := x; ⟨o, doc, pm, an, cdv, ct, hk _ _ h1, h2, h3.keeps hk⟩

noncomputable def retOf : Flow → Value
  | .ret v => v
  | _ => .none

section
variable {w : World} {A : Around} {s : Shared} {R : Result → Shared → Prop} {f : Addr} {i : Nat} {dV kV : Value} {args : Args}
theorem enter {binds : List (Str × Value)} (hroom : A.depth < recursionLimit) (hlim : s.heap.NoLimit) (hf : FnAt s.heap f i dV kV)
    (hbind : ∀ doc pm an cdv ct, BindsTo s (fnOf (sName (stm i)) (sName (stm i)) (sParams (stm i)) (sBody (stm i)) (sScope (stm i)) dV kV doc pm an cdv ct) args binds)
    (hcell : ∀ x ∈ (sScope (stm i)).names, x.2 ≠ .cell) (hloc : ∀ x ∈ binds, (sScope (stm i)).names.lookup x.1 = some .local)
    (hco : (sScope (stm i)).isCoroutine = false) (hgen : (sScope (stm i)).isGenerator = false) (hk : (sScope (stm i)).kind = .function)
    (h : ∀ h₁ cd, Fr s.heap s.heap.objs.size h₁ (fun x => binds.reverse.lookup x) →
      wpAny (model pw w) (A.deeper (envOf (sName (stm i)) (sScope (stm i)) s.heap.objs.size f cd)) (execs (sBody (stm i)) (envOf (sName (stm i)) (sScope (stm i)) s.heap.objs.size f cd))
        (fun fl s' => R (.ok (.ret (retOf fl))) s')
        (fun e s' => wpAny (model pw w) (A.deeper (envOf (sName (stm i)) (sScope (stm i)) s.heap.objs.size f cd)) (leaving (envOf (sName (stm i)) (sScope (stm i)) s.heap.objs.size f cd) e) (fun _ s'' => R (.error e) s'') (fun e' s'' => R (.error e') s'') s')
        { s with heap := h₁, toks := s.toks + binds.length }) : codeAny (model pw w) A (.call (.ref f) args) R s := by
  obtain ⟨o, doc, pm, an, cdv, ct, h1, h2, h3⟩ := hf
  refine codeAny_call_def hroom h1 h2 hlim h3 rfl (hbind doc pm an cdv ct) hcell hloc (fun h₀ hns hk => ?_) hco hgen hk
  refine wpAny_mono (h h₀ cdv ⟨hns, hk, Nat.le_refl _⟩) (fun fl s' hr => ?_) fun _ _ x => x
  cases fl <;> exact hr
end

noncomputable def Room (d : Nat) (A : Around) : Prop := A.handled = none ∧ A.depth ≤ d ∧ A.units ≤ 10 * d
theorem Room.deeper {d : Nat} {A : Around} (h : Room d A) (env : Env) : Room (d + 1) (A.deeper env) := ⟨h.1, Nat.succ_le_succ h.2.1, by have := h.2.2; show A.units + 3 ≤ _; omega⟩
theorem Room.mono {d e : Nat} {A : Around} (h : Room d A) (k : d ≤ e) : Room e A := ⟨h.1, Nat.le_trans h.2.1 k, by have := h.2.2; omega⟩

theorem get_above {h : Heap} {a : Addr} (k : h.objs.size ≤ a) : h.get? a = none := by
  cases e : h.get? a with
  | none => rfl
  | some o => exact absurd (Heap.lt_size e) (Nat.not_lt.mpr k)
theorem get_top {h : Heap} : h.get? h.objs.size = none := get_above (Nat.le_refl _)
noncomputable abbrev St (s : Shared) (h : Heap) (tk : Nat) : Shared := { s with heap := h, toks := tk }

/-- where a call stands: G lies still; the frame's names at L are m; the objects of news are the call's own and may change -/
structure Cx (G : Heap) (L : Addr) (h : Heap) (m : Str → Option Value) (news : List (Addr × Obj)) : Prop where
  ns : h.Ns L m
  keep : Keep G h
  gl : G.get? L = none
  led : ∀ p ∈ news, h.get? p.1 = some p.2 ∧ p.1 ≠ L ∧ G.get? p.1 = none
  nd : (news.map (·.1)).Nodup

theorem Cx.of_fr {G h : Heap} {L : Addr} {m : Str → Option Value} (F : Fr G L h m) : Cx G L h m [] :=
  ⟨F.ns, F.keep, get_above F.above, by simp, by simp⟩
theorem Cx.keeps {G h h' : Heap} {L : Addr} {m : Str → Option Value} {news : List (Addr × Obj)} (C : Cx G L h m news) (k : Keep h h') : Cx G L h' m news :=
  ⟨C.ns.keeps k, C.keep.tr k, C.gl, fun p hp => ⟨k _ _ (C.led p hp).1, (C.led p hp).2⟩, C.nd⟩
theorem Cx.fresh {G h : Heap} {L : Addr} {m : Str → Option Value} {news : List (Addr × Obj)} (C : Cx G L h m news) {a : Addr} {h' : Heap} {o : Obj} (hn : h.get? a = none) (k : Keep h h') (ha : h'.get? a = some o) :
    Cx G L h' m ((a, o) :: news) := by
  have C' := C.keeps k
  refine ⟨C'.ns, C'.keep, C'.gl, ?_, ?_⟩
  · intro p hp
    rcases List.mem_cons.mp hp with rfl | hp
    · refine ⟨ha, ?_, ?_⟩
      · rintro rfl
        obtain ⟨o, es, ep, e, r⟩ := C.ns
        rw [hn] at e; cases e
      · cases hg : G.get? a with
        | none => rfl
        | some o => rw [C.keep _ _ hg] at hn; cases hn
    · exact C'.led p hp
  · refine List.nodup_cons.mpr ⟨?_, C.nd⟩
    intro hm
    obtain ⟨p, hp, he⟩ := List.mem_map.mp hm
    have := (C.led p hp).1
    rw [he, hn] at this; cases this
/-- a smaller ledger -/
theorem Cx.sub {G h : Heap} {L : Addr} {m : Str → Option Value} {news news' : List (Addr × Obj)} (C : Cx G L h m news) (k : news'.Sublist news) : Cx G L h m news' :=
  ⟨C.ns, C.keep, C.gl, fun p hp => C.led p (k.subset hp), C.nd.sublist (k.map _)⟩
theorem Cx.first {G h : Heap} {L : Addr} {m : Str → Option Value} {p : Addr × Obj} {news : List (Addr × Obj)} (C : Cx G L h m (p :: news)) : Cx G L h m [p] := C.sub (List.Sublist.cons_cons _ (List.nil_sublist _))
theorem Cx.dropN {G h : Heap} {L : Addr} {m : Str → Option Value} {news : List (Addr × Obj)} (C : Cx G L h m news) (k : Nat) : Cx G L h m (news.drop k) := C.sub (List.drop_sublist k news)
theorem Cx.tail {G h : Heap} {L : Addr} {m : Str → Option Value} {p : Addr × Obj} {news : List (Addr × Obj)} (C : Cx G L h m (p :: news)) : Cx G L h m news := C.sub (List.sublist_cons_self _ _)
theorem Cx.hd {G h : Heap} {L : Addr} {m : Str → Option Value} {p : Addr × Obj} {news : List (Addr × Obj)} (C : Cx G L h m (p :: news)) : h.get? p.1 = some p.2 := (C.led _ (.head _)).1
theorem Cx.hn {G h : Heap} {L : Addr} {m : Str → Option Value} {p : Addr × Obj} {news : List (Addr × Obj)} (C : Cx G L h m (p :: news)) : G.get? p.1 = none := (C.led _ (.head _)).2.2
/-- what stands in h now lies still, but the frame and the ledger -/
theorem Cx.freeze {G h : Heap} {L : Addr} {m : Str → Option Value} {news : List (Addr × Obj)} (C : Cx G L h m news) :
    ∃ G', Cx G' L h m news ∧ Keep G G' ∧ (∀ b o, h.get? b = some o → b ≠ L → (∀ p ∈ news, p.1 ≠ b) → G'.get? b = some o) := by
  refine ⟨hideAll h (L :: news.map (·.1)), ⟨C.ns, fun b o e => of_hideAll _ e, hideAll_none _ (by simp), fun p hp => ⟨(C.led p hp).1, (C.led p hp).2.1, hideAll_none _ (by simp; exact .inr ⟨_, hp⟩)⟩, C.nd⟩, fun b o e => ?_, fun b o e h1 h2 => ?_⟩
  · refine hideAll_get _ (C.keep _ _ e) ?_
    intro hm
    rcases List.mem_cons.mp hm with rfl | hm
    · rw [C.gl] at e; cases e
    · obtain ⟨p, hp, he⟩ := List.mem_map.mp hm
      rw [← he, (C.led p hp).2.2] at e; cases e
  · refine hideAll_get _ e ?_
    intro hm
    rcases List.mem_cons.mp hm with rfl | hm
    · exact h1 rfl
    · obtain ⟨p, hp, he⟩ := List.mem_map.mp hm
      exact h2 p hp he

/-- the ledger's head is let go -/
theorem Cx.drop {G h h' : Heap} {L I : Addr} {o : Obj} {m : Str → Option Value} {news : List (Addr × Obj)} (C : Cx G L h m ((I, o) :: news)) (k : ∀ b o, b ≠ I → h.get? b = some o → h'.get? b = some o) : Cx G L h' m news := by
  have hI := C.led _ (.head _)
  have nd := List.nodup_cons.mp C.nd
  refine ⟨C.ns.at fun o e => k _ _ (Ne.symm hI.2.1) e, fun b o e => k _ _ ?_ (C.keep _ _ e), C.gl, fun p hp => ⟨k _ _ ?_ (C.led p (.tail _ hp)).1, (C.led p (.tail _ hp)).2⟩, nd.2⟩
  · intro q
    rw [q, hI.2.2] at e
    cases e
  · intro q
    exact nd.1 (List.mem_map.mpr ⟨p, hp, q⟩)
/-- an old object that may change goes onto the ledger -/
theorem Cx.hot {G h : Heap} {L a : Addr} {o : Obj} {m : Str → Option Value} {news : List (Addr × Obj)} (C : Cx G L h m news) (ha : G.get? a = some o) : Cx (G.hide a) L h m ((a, o) :: news) := by
  have hL : a ≠ L := by
    intro e
    rw [e, C.gl] at ha
    cases ha
  have hid : ∀ b, G.get? b = none → (G.hide a).get? b = none := by
    intro b hb
    by_cases e : b = a
    · rw [e]; exact Heap.hide_self _ _
    · rw [Heap.hide_ne _ e]; exact hb
  refine ⟨C.ns, fun b o e => C.keep _ _ (Heap.of_hide e), hid _ C.gl, ?_, ?_⟩
  · intro p hp
    rcases List.mem_cons.mp hp with rfl | hp
    · exact ⟨C.keep _ _ ha, hL, Heap.hide_self _ _⟩
    · exact ⟨(C.led p hp).1, (C.led p hp).2.1, hid _ (C.led p hp).2.2⟩
  · refine List.nodup_cons.mpr ⟨?_, C.nd⟩
    intro hm
    obtain ⟨p, hp, he⟩ := List.mem_map.mp hm
    have := (C.led p hp).2.2
    rw [he, ha] at this
    cases this
theorem keep_hide {B G : Heap} {a : Addr} (k : Keep B G) (hb : B.get? a = none) : Keep B (G.hide a) := by
  intro b o e
  have : b ≠ a := by
    intro e2
    rw [e2, hb] at e
    cases e
  rw [Heap.hide_ne _ this]
  exact k _ _ e
/-- one of the ledger's objects has changed -/
inductive Up (D : Addr) (o' : Obj) : List (Addr × Obj) → List (Addr × Obj) → Prop
  | here {o : Obj} {l : List (Addr × Obj)} : Up D o' ((D, o) :: l) ((D, o') :: l)
  | there {p : Addr × Obj} {l l' : List (Addr × Obj)} : Up D o' l l' → Up D o' (p :: l) (p :: l')
theorem Up.map {D : Addr} {o' : Obj} {l l' : List (Addr × Obj)} (u : Up D o' l l') : l'.map (·.1) = l.map (·.1) := by
  induction u with
  | here => rfl
  | there _ ih => simp [ih]
theorem Up.mem {D : Addr} {o' : Obj} {l l' : List (Addr × Obj)} (u : Up D o' l l') : (l.map (·.1)).Nodup → ∀ p ∈ l', p = (D, o') ∨ p ∈ l ∧ p.1 ≠ D := by
  induction u with
  | here =>
    intro nd p hp
    rcases List.mem_cons.mp hp with rfl | hp
    · exact .inl rfl
    · refine .inr ⟨by simp [hp], ?_⟩
      intro e
      exact (List.nodup_cons.mp nd).1 (List.mem_map.mpr ⟨p, hp, e⟩)
  | @there q l l' u ih =>
    intro nd p hp
    have nd' := List.nodup_cons.mp nd
    rcases List.mem_cons.mp hp with rfl | hp
    · refine .inr ⟨by simp, fun e => nd'.1 ?_⟩
      rw [← u.map]
      have : (D, o') ∈ l' := by
        clear ih nd nd' hp e
        induction u with
        | here => simp
        | there _ ih => simp [ih]
      exact List.mem_map.mpr ⟨_, this, e.symm⟩
    · rcases ih nd'.2 p hp with h | h
      · exact .inl h
      · exact .inr ⟨by simp [h.1], h.2⟩
theorem Up.old {D : Addr} {o' : Obj} {l l' : List (Addr × Obj)} (u : Up D o' l l') : ∃ o, (D, o) ∈ l := by
  induction u with
  | here => exact ⟨_, .head _⟩
  | there _ ih => exact ⟨_, .tail _ ih.choose_spec⟩
theorem Cx.up {G h h' : Heap} {L D : Addr} {o' : Obj} {m : Str → Option Value} {news news' : List (Addr × Obj)} (C : Cx G L h m news) (u : Up D o' news news')
    (k : ∀ b o, b ≠ D → h.get? b = some o → h'.get? b = some o) (hD : h'.get? D = some o') : Cx G L h' m news' := by
  obtain ⟨o, ho⟩ := u.old
  have hd := C.led _ ho
  refine ⟨?_, ?_, C.gl, ?_, ?_⟩
  · exact C.ns.at fun o e => k _ _ (Ne.symm hd.2.1) e
  · intro b o e
    refine k b o ?_ (C.keep _ _ e)
    rintro rfl
    rw [hd.2.2] at e; cases e
  · intro p hp
    rcases u.mem C.nd p hp with rfl | ⟨h1, h2⟩
    · exact ⟨hD, hd.2⟩
    · exact ⟨k _ _ h2 (C.led p h1).1, (C.led p h1).2⟩
  · rw [u.map]; exact C.nd

/-- every object of h but L's, for the library's rules -/
noncomputable def allBut (h : Heap) (L : Addr) : List (Addr × Obj) := (List.range h.objs.size).filterMap fun a => if a = L then none else (h.get? a).map fun o => (a, o)
theorem mem_allBut {h : Heap} {L a : Addr} {o : Obj} : (a, o) ∈ allBut h L ↔ a ≠ L ∧ h.get? a = some o := by
  unfold allBut
  rw [List.mem_filterMap]
  constructor
  · rintro ⟨b, _, e⟩
    by_cases hb : b = L
    · simp [hb] at e
    · rw [if_neg hb] at e
      cases hg : h.get? b with
      | none => simp [hg] at e
      | some o' =>
        simp [hg] at e
        obtain ⟨rfl, rfl⟩ := e
        exact ⟨hb, hg⟩
  · rintro ⟨h1, h2⟩
    exact ⟨a, List.mem_range.mpr (Heap.lt_size h2), by simp [h1, h2]⟩
noncomputable abbrev noHeap : Heap := ⟨#[], {}⟩
theorem noHeap_get {a : Addr} : noHeap.get? a = none := by simp [Heap.get?]
theorem Cx.fr {G h : Heap} {L : Addr} {m : Str → Option Value} {news : List (Addr × Obj)} (C : Cx G L h m news) : Fr noHeap L h m := ⟨C.ns, fun b o e => absurd (noHeap_get.symm.trans e) (by simp), Nat.zero_le _⟩
set_option linter.unusedVariables false in
theorem Cx.nw {G h : Heap} {L : Addr} {m : Str → Option Value} {news : List (Addr × Obj)} (C : Cx G L h m news) : News noHeap L h (allBut h L) := fun p hp => ⟨(mem_allBut.mp hp).2, (mem_allBut.mp hp).1, noHeap_get⟩
theorem Cx.back0 {G h h' : Heap} {L : Addr} {m m' : Str → Option Value} {news : List (Addr × Obj)} (C : Cx G L h m news) (F : Fr noHeap L h' m') (N : News noHeap L h' (allBut h L)) : Cx G L h' m' news := by
  refine ⟨F.ns, fun b o e => ?_, C.gl, fun p hp => ?_, C.nd⟩
  · refine (N (b, o) (mem_allBut.mpr ⟨?_, C.keep _ _ e⟩)).1
    rintro rfl
    rw [C.gl] at e; cases e
  · have := C.led p hp
    exact ⟨(N p (mem_allBut.mpr ⟨this.2.1, this.1⟩)).1, this.2⟩
theorem Cx.back {G h h' : Heap} {L l : Addr} {o : Obj} {m m' : Str → Option Value} {news : List (Addr × Obj)} (C : Cx G L h m news) (F : Fr noHeap L h' m') (N : News noHeap L h' ((l, o) :: allBut h L)) (hl : h.get? l = none) : Cx G L h' m' ((l, o) :: news) := by
  have C' := C.back0 F (fun p hp => N p (.tail _ hp))
  have hd := N _ (.head _)
  refine ⟨C'.ns, C'.keep, C'.gl, ?_, List.nodup_cons.mpr ⟨?_, C'.nd⟩⟩
  · intro p hp
    rcases List.mem_cons.mp hp with rfl | hp
    · refine ⟨hd.1, hd.2.1, ?_⟩
      cases hg : G.get? l with
      | none => rfl
      | some o' => rw [C.keep _ _ hg] at hl; cases hl
    · exact C'.led p hp
  · intro hm
    obtain ⟨p, hp, he⟩ := List.mem_map.mp hm
    have := (C.led p hp).1
    rw [he, hl] at this; cases this
theorem Cx.backK {G h h' : Heap} {L l : Addr} {o : Obj} {m m' : Str → Option Value} {news : List (Addr × Obj)} (C : Cx G L h m news) (F : Fr noHeap L h' m') (N : News noHeap L h' ((l, o) :: allBut h L)) (hl : ∀ p ∈ allBut h L, p.1 < l) : Cx G L h' m' ((l, o) :: news) := by
  refine C.back F N ?_
  cases e : h.get? l with
  | none => rfl
  | some o' => exact absurd (hl _ (mem_allBut.mpr ⟨(N _ (.head _)).2.1, e⟩)) (Nat.lt_irrefl _)

section
variable {w : World} {M : Model} {A : Around} {E : Value → Shared → Prop} {s : Shared} {h G : Heap} {tk : Nat} {name : Str} {scope : Scope} {L a : Addr} {cd : Value} {m : Str → Option Value} {news : List (Addr × Obj)}

theorem zld {x : Str} {pos : Pos} {v : Value} {Q : Value → Shared → Prop} (C : Cx G L h m news) (hm : m x = some v) (hq : Q v (St s h tk))
    (hk : scope.kind = .function := by rfl) (hl : (envOf name scope L a cd).kindOf x = some .local := by rfl) (hd : (x == Str.ofString "__debug__") = false := by rfl) :
    wpAny M A (eval (.Name x pos) (envOf name scope L a cd)) Q E (St s h tk) :=
  ld (h₀ := ⟨#[], {}⟩) ⟨C.ns, fun b o e => by simp [Heap.get?] at e, Nat.zero_le _⟩ hm hq hk hl hd
theorem zldn {x : Str} {v : Value} {Q : Value → Shared → Prop} (C : Cx G L h m news) (hm : m x = some v) (hq : Q v (St s h tk))
    (hk : scope.kind = .function := by rfl) (hl : (envOf name scope L a cd).kindOf x = some .local := by rfl) :
    wpAny M A (loadName (envOf name scope L a cd) x) Q E (St s h tk) :=
  ldn (h₀ := ⟨#[], {}⟩) ⟨C.ns, fun b o e => by simp [Heap.get?] at e, Nat.zero_le _⟩ hm hq hk hl
theorem zst {x : Str} {v : Value} {Q : Unit → Shared → Prop} (C : Cx G L h m news)
    (hq : ∀ h' tk', Cx G L h' (fun y => if y = x then some v else m y) news → Q () (St s h' tk'))
    (hk : scope.kind = .function := by rfl) (hl : (envOf name scope L a cd).kindOf x = some .local := by rfl) :
    wpAny M A (storeName (envOf name scope L a cd) x v) Q E (St s h tk) := by
  refine wpAny_storeName_local hl C.ns (fun h' n' sb => hq h' _ ⟨n', fun b o e => ?_, C.gl, fun p hp => ?_, C.nd⟩) (by
    show (scope.kind == .class || (scope.kind == .module && L != _)) = false
    rw [hk]; rfl)
  · refine sb.extBut b o ?_ (C.keep _ _ e)
    intro e2
    rw [e2] at e
    exact absurd (C.gl.symm.trans e) (by simp)
  · have := C.led p hp
    exact ⟨sb.extBut _ _ this.2.1 this.1, this.2⟩
/-- the same in any function's environment -/
theorem zstE {env : Env} {x : Str} {v : Value} {Q : Unit → Shared → Prop} (C : Cx G env.locals h m news)
    (hq : ∀ h' tk', Cx G env.locals h' (fun y => if y = x then some v else m y) news → Q () (St s h' tk'))
    (hl : env.kindOf x = some .local) (hp : (env.scope.kind == .class || (env.scope.kind == .module && env.locals != env.globals)) = false) :
    wpAny M A (storeName env x v) Q E (St s h tk) := by
  refine wpAny_storeName_local hl C.ns (fun h' n' sb => hq h' _ ⟨n', fun b o e => ?_, C.gl, fun p hp => ?_, C.nd⟩) hp
  · refine sb.extBut b o ?_ (C.keep _ _ e)
    intro e2
    rw [e2] at e
    exact absurd (C.gl.symm.trans e) (by simp)
  · have := C.led p hp
    exact ⟨sb.extBut _ _ this.2.1 this.1, this.2⟩
theorem zint {i : Int} {k : Nat} {pos : Pos} {env : Env} {Q : Value → Shared → Prop} (hq : ∀ t tk', Q (.int i t) (St s h tk')) :
    wpAny M A (eval (.Constant (.int i) k pos) env) Q E (St s h tk) := wpAny_Constant_int (hq _ _)
theorem znewList {vs : List Value} {Q : Value → Shared → Prop} (C : Cx G L h m news)
    (hq : ∀ l h' tk', Cx G L h' m ((l, listOf vs.toArray 0) :: news) → Q (.ref l) (St s h' tk')) (hsz : vs.length ≤ sizeLine := by size_fits) :
    wpAny M A (newList vs) Q E (St s h tk) := by
  refine wpAny_newList (hq _ _ _ (C.fresh (a := h.objs.size) ?_ ?_ ?_)) hsz
  · exact get_top
  · exact fun b o e => Heap.get?_push_of_some _ e
  · exact Heap.get?_push_size _ rfl
theorem znewTuple {vs : List Value} {Q : Value → Shared → Prop} (C : Cx G L h m news)
    (hq : ∀ l h' tk', Cx G L h' m ((l, { cls := .type "tuple", data := .seq vs.toArray 0 }) :: news) → Q (.ref l) (St s h' tk')) (hsz : vs.length ≤ sizeLine := by size_fits) :
    wpAny M A (newTuple vs) Q E (St s h tk) := by
  refine wpAny_newTuple (hq _ _ _ (C.fresh (a := h.objs.size) ?_ ?_ ?_)) hsz
  · exact get_top
  · exact fun b o e => Heap.get?_push_of_some _ e
  · exact Heap.get?_push_size _ rfl
end
end Mine
end Z1_text
section E1_text
open PySem PySem.W PySem.Calls PyProof.Rows
set_option maxRecDepth 100000
namespace Mine.Ev

noncomputable def loop (den : Code → Sem Fin) (go : Ctx → Sem Fin → Pos → SharedT → Option (Except Value Fin × Pos × SharedT)) : Nat → Ctx → Sem Fin → Pos → SharedT → Option (Result × SharedT)
  | 0, _, _, _, _ => none
  | m + 1, Γ, t, p, s => match go Γ t p s with
    | some (.ok (.done f), _, s') => some (.ok f, s')
    | some (.ok (.again c), p', s') => match c.quiet with
      | true => loop den go m (Γ.goto c) (den c) p' s'
      | false => none
    | some (.error e, _, s') => some (.error e, s')
    | none => none

/-- a tree's commands, run one by one; a call is run within -/
noncomputable def ev (den : Code → Sem Fin) (S : Setting) : Nat → {α : Type} → Ctx → Sem α → Pos → SharedT → Option (Except Value α × Pos × SharedT)
  | 0, _, _, _, _, _ => none
  | n + 1, _, Γ, t, p, ⟨T, sz, life, gens, drawn, toks, os⟩ => match t with
    | .pure a => some (.ok a, p, ⟨T, sz, life, gens, drawn, toks, os⟩)
    | .raise e => some (.error e, p, ⟨T, sz, life, gens, drawn, toks, os⟩)
    | .rule _ k => ev den S n Γ (k ()) p ⟨T, sz, life, gens, drawn, toks, os⟩
    | .at p' k => ev den S n Γ (k ()) p' ⟨T, sz, life, gens, drawn, toks, os⟩
    | .load a _ k => match Nat.blt a sz with
      | true => match T.get a with
        | some o => match alive o with
          | some o' => ev den S n Γ (k o') p ⟨T, sz, life, gens, drawn, toks, os⟩
          | none => none
        | none => none
      | false => none
    | .update a _ f k => match Nat.blt a sz with
      | true => match T.get a with
        | some o => match alive o with
          | some _ => ev den S n Γ (k ()) p ⟨T.set a f, sz, life, gens, drawn, toks, os⟩
          | none => none
        | none => none
      | false => none
    | .alloc o k => match ((T.ins sz o).get sz).isSome with
      | true => ev den S n Γ (k sz) p ⟨T.ins sz o, sz + 1, life, gens, drawn, toks, os⟩
      | false => none
    | .loadIfAlive a k => match Nat.blt a sz with
      | true => match T.get a with
        | some o => ev den S n Γ (k (alive o)) p ⟨T, sz, life, gens, drawn, toks, os⟩
        | none => none
      | false => ev den S n Γ (k none) p ⟨T, sz, life, gens, drawn, toks, os⟩
    | .point _ k => ev den S n Γ (k ()) p ⟨T, sz, life, gens, drawn, toks, os⟩
    | .fresh k => ev den S n Γ (k toks) p ⟨T, sz, life, gens, drawn, toks + 1, os⟩
    | .ask k => ev den S n Γ (k S) p ⟨T, sz, life, gens, drawn, toks, os⟩
    | .handled own k => ev den S n Γ (k (if own then Γ.own else Γ.handled)) p ⟨T, sz, life, gens, drawn, toks, os⟩
    | .stack k => ev den S n Γ (k ((Γ.code, p) :: Γ.below)) p ⟨T, sz, life, gens, drawn, toks, os⟩
    | .thread k => ev den S n Γ (k 0) p ⟨T, sz, life, gens, drawn, toks, os⟩
    | .call c h _ _ k => match loop den (fun Γ t p s => ev den S n Γ t p s) n (Γ.enter c h p) (den c) p ⟨T, sz, life, gens, drawn, toks, os⟩ with
      | some (r, s') => ev den S n Γ (k r) p s'
      | none => none
    | _ => none

noncomputable def Ends {α : Type} (Q : α → Pos → Shared → Prop) (E : Value → Pos → Shared → Prop) (r : Except Value α × Pos × SharedT) : Prop := match r.1 with
  | .ok a => Q a r.2.1 r.2.2.abs
  | .error e => E e r.2.1 r.2.2.abs

section
variable {M : Model} {S : Setting}
theorem loop_wp {go : Ctx → Sem Fin → Pos → SharedT → Option (Except Value Fin × Pos × SharedT)} (hgo : ∀ Γ t p s r, go Γ t p s = some r → ∀ Q E, Ends Q E r → Sem.wp M Γ t Q E p s.abs) :
    ∀ m Γ t p s r s', loop M.den go m Γ t p s = some (r, s') → ∀ R : Result → Shared → Prop, R r s'.abs → Sem.wp M Γ t (Sem.finPost M Γ R) (fun e _ s' => R (.error e) s') p s.abs
  | 0, _, _, _, _, _, _, h, _, _ => by cases h
  | m + 1, Γ, t, p, s, r, s', h, R, hR => by
    unfold loop at h
    cases hg : go Γ t p s with
    | none => rw [hg] at h; cases h
    | some x =>
      obtain ⟨x, p', s₁⟩ := x
      rw [hg] at h
      refine hgo Γ t p s _ hg _ _ ?_
      cases x with
      | error e => cases h; exact hR
      | ok f =>
        cases f with
        | done f => cases h; exact hR
        | again c =>
          show Sem.finPost M Γ R (.again c) p' s₁.abs
          cases hq : c.quiet with
          | false => simp only [hq] at h; cases h
          | true =>
            simp only [hq] at h
            exact ⟨hq, (wpCode_iff_wp M (Γ.goto c) R p' s₁.abs).mpr (loop_wp hgo m _ _ _ _ _ _ h R hR)⟩

theorem ev_wp (hS : S = ⟨M.prog, M.w.params⟩) : ∀ (n : Nat) {α : Type} (Γ : Ctx) (t : Sem α) (p : Pos) (s : SharedT) (r : Except Value α × Pos × SharedT), ev M.den S n Γ t p s = some r → ∀ Q E, Ends Q E r → Sem.wp M Γ t Q E p s.abs
  | 0, _, _, _, _, _, _, h, _, _, _ => by cases h
  | n + 1, α, Γ, t, p, ⟨T, sz, life, gens, drawn, toks, os⟩, r, h, Q, E, hR => by
    have ih := fun {β : Type} (Γ : Ctx) (t : Sem β) p s r => ev_wp hS n Γ t p s r
    have glt : ∀ {a : Nat}, Nat.blt a sz = true → a < sz := fun e => Nat.le_of_ble_eq_true e
    cases t with
    | pure a =>
      change some (.ok a, p, ⟨T, sz, life, gens, drawn, toks, os⟩) = some r at h
      cases h; rw [Sem.wp_pure]; exact hR
    | raise e =>
      change some (.error e, p, ⟨T, sz, life, gens, drawn, toks, os⟩) = some r at h
      cases h; rw [Sem.wp_raise]; exact hR
    | rule tag k =>
      change ev M.den S n Γ (k ()) p ⟨T, sz, life, gens, drawn, toks, os⟩ = some r at h
      rw [Sem.wp_rule]; exact ih _ _ _ _ _ h Q E hR
    | «at» p' k =>
      change ev M.den S n Γ (k ()) p' ⟨T, sz, life, gens, drawn, toks, os⟩ = some r at h
      rw [Sem.wp_at]; exact ih _ _ _ _ _ h Q E hR
    | load a part k =>
      change (match Nat.blt a sz with
        | true => (match T.get a with
          | some o => (match alive o with | some o' => ev M.den S n Γ (k o') p ⟨T, sz, life, gens, drawn, toks, os⟩ | none => none)
          | none => none)
        | false => none) = some r at h
      cases e : Nat.blt a sz with
      | false => simp only [e] at h; cases h
      | true =>
        cases g : T.get a with
        | none => simp only [e, g] at h; cases h
        | some o =>
          cases al : alive o with
          | none => simp only [e, g, al] at h; cases h
          | some o' =>
            simp only [e, g, al] at h
            rw [Sem.wp_load]
            refine ⟨o', ?_, ih _ _ _ _ _ h Q E hR⟩
            exact (abs_get (glt e) g).trans al
    | update a part f k =>
      change (match Nat.blt a sz with
        | true => (match T.get a with
          | some o => (match alive o with | some _ => ev M.den S n Γ (k ()) p ⟨T.set a f, sz, life, gens, drawn, toks, os⟩ | none => none)
          | none => none)
        | false => none) = some r at h
      cases e : Nat.blt a sz with
      | false => simp only [e] at h; cases h
      | true =>
        cases g : T.get a with
        | none => simp only [e, g] at h; cases h
        | some o =>
          cases al : alive o with
          | none => simp only [e, g, al] at h; cases h
          | some o' =>
            simp only [e, g, al] at h
            rw [Sem.wp_update]
            have h2 := ih _ _ _ _ _ h Q E hR
            refine ⟨?_, ?_⟩
            · show ((absHeap T sz life).get? a).isSome = true
              rw [abs_get (glt e) g, al]; rfl
            · have e2 : (⟨T.set a f, sz, life, gens, drawn, toks, os⟩ : SharedT).abs = { (⟨T, sz, life, gens, drawn, toks, os⟩ : SharedT).abs with heap := (⟨T, sz, life, gens, drawn, toks, os⟩ : SharedT).abs.heap.update a f } := by
                show Shared.mk (absHeap (T.set a f) sz life) _ _ _ _ = Shared.mk ((absHeap T sz life).update a f) _ _ _ _
                rw [absHeap_set g]
                rfl
              rw [← e2]
              exact h2
    | alloc o k =>
      change (match ((T.ins sz o).get sz).isSome with
        | true => ev M.den S n Γ (k sz) p ⟨T.ins sz o, sz + 1, life, gens, drawn, toks, os⟩
        | false => none) = some r at h
      cases e : ((T.ins sz o).get sz).isSome with
      | false => simp only [e] at h; cases h
      | true =>
        simp only [e] at h
        rw [Sem.wp_alloc]
        have h2 := ih _ _ _ _ _ h Q E hR
        have e2 : (⟨T.ins sz o, sz + 1, life, gens, drawn, toks, os⟩ : SharedT).abs = { (⟨T, sz, life, gens, drawn, toks, os⟩ : SharedT).abs with heap := (⟨T, sz, life, gens, drawn, toks, os⟩ : SharedT).abs.heap.push o } := by
          show Shared.mk (absHeap (T.ins sz o) (sz + 1) life) _ _ _ _ = Shared.mk ((absHeap T sz life).push o) _ _ _ _
          rw [absHeap_ins e]
          rfl
        rw [← e2, show (⟨T, sz, life, gens, drawn, toks, os⟩ : SharedT).abs.heap.objs.size = sz from absHeap_size T sz life]
        exact h2
    | loadIfAlive a k =>
      change (match Nat.blt a sz with
        | true => (match T.get a with
          | some o => ev M.den S n Γ (k (alive o)) p ⟨T, sz, life, gens, drawn, toks, os⟩
          | none => none)
        | false => ev M.den S n Γ (k none) p ⟨T, sz, life, gens, drawn, toks, os⟩) = some r at h
      rw [Sem.wp_loadIfAlive]
      cases e : Nat.blt a sz with
      | false =>
        simp only [e] at h
        have : ¬ a < sz := fun q => by
          have := Nat.ble_eq_true_of_le q
          exact absurd (show Nat.blt a sz = true from this) (by rw [e]; decide)
        rw [show (⟨T, sz, life, gens, drawn, toks, os⟩ : SharedT).abs.heap.get? a = none from abs_get_none this]
        exact ih _ _ _ _ _ h Q E hR
      | true =>
        cases g : T.get a with
        | none => simp only [e, g] at h; cases h
        | some o =>
          simp only [e, g] at h
          rw [show (⟨T, sz, life, gens, drawn, toks, os⟩ : SharedT).abs.heap.get? a = alive o from abs_get (glt e) g]
          exact ih _ _ _ _ _ h Q E hR
    | point l k =>
      change ev M.den S n Γ (k ()) p ⟨T, sz, life, gens, drawn, toks, os⟩ = some r at h
      rw [Sem.wp_point]; exact ih _ _ _ _ _ h Q E hR
    | fresh k =>
      change ev M.den S n Γ (k toks) p ⟨T, sz, life, gens, drawn, toks + 1, os⟩ = some r at h
      rw [Sem.wp_fresh]; exact ih _ _ _ _ _ h Q E hR
    | ask k =>
      change ev M.den S n Γ (k S) p ⟨T, sz, life, gens, drawn, toks, os⟩ = some r at h
      rw [Sem.wp_ask]; rw [← hS]; exact ih _ _ _ _ _ h Q E hR
    | handled own k =>
      change ev M.den S n Γ (k (if own then Γ.own else Γ.handled)) p ⟨T, sz, life, gens, drawn, toks, os⟩ = some r at h
      rw [Sem.wp_handled]; exact ih _ _ _ _ _ h Q E hR
    | stack k =>
      change ev M.den S n Γ (k ((Γ.code, p) :: Γ.below)) p ⟨T, sz, life, gens, drawn, toks, os⟩ = some r at h
      rw [Sem.wp_stack]; exact ih _ _ _ _ _ h Q E hR
    | thread k =>
      change ev M.den S n Γ (k 0) p ⟨T, sz, life, gens, drawn, toks, os⟩ = some r at h
      rw [Sem.wp_thread]; exact ih _ _ _ _ _ h Q E hR
    | call c hd g l k =>
      change (match loop M.den (fun Γ t p s => ev M.den S n Γ t p s) n (Γ.enter c hd p) (M.den c) p ⟨T, sz, life, gens, drawn, toks, os⟩ with
        | some (r, s') => ev M.den S n Γ (k r) p s'
        | none => none) = some r at h
      rw [Sem.wp_call, wpCode_iff_wp]
      cases e : loop M.den (fun Γ t p s => ev M.den S n Γ t p s) n (Γ.enter c hd p) (M.den c) p ⟨T, sz, life, gens, drawn, toks, os⟩ with
      | none => simp only [e] at h; cases h
      | some x =>
        obtain ⟨r', s'⟩ := x
        simp only [e] at h
        exact loop_wp (fun Γ t p s r h => ih Γ t p s r h) _ _ _ _ _ _ _ e _ (ih _ _ _ _ _ h Q E hR)
    | unsupported | finish | register | choose | os | newGen | genState | resume | yield | fork | await => exact absurd (show (none : Option (Except Value α × Pos × SharedT)) = some r from h) (by simp)
end
end Mine.Ev
end E1_text
section E2_text
open PySem PySem.W PySem.Calls PyProof.Rows
set_option maxRecDepth 100000
namespace Mine.Ev

noncomputable def denQ : Code → Sem Fin := PySem.W.Fast.tw11892475500146522536 PySem.W.Fast.tw14364793385576792824
theorem denQ_eq : denote table = denQ := by
  rw [table_eq_tree, PySem.W.Fast.te11892475500146522536, PySem.W.Fast.te14364793385576792824]
  rfl
theorem evQ {w : World} {n : Nat} {α : Type} {Γ : Ctx} {t : Sem α} {p : Pos} {s : SharedT} {r : Except Value α × Pos × SharedT} (h : ev denQ ⟨pw, w.params⟩ n Γ t p s = some r) {Q : α → Pos → Shared → Prop} {E : Value → Pos → Shared → Prop} (hQ : Ends Q E r) :
    Sem.wp (model pw w) Γ t Q E p s.abs := by
  have h2 : ev (model pw w).den ⟨pw, w.params⟩ n Γ t p s = some r := by
    show ev (denote table) _ _ _ _ _ _ = _
    rw [denQ_eq]
    exact h
  exact ev_wp rfl n Γ t p s r h2 Q E hQ

/-- a tree of objects by a function -/
noncomputable def bld (x : Nat → Obj) (n : Nat) : Nat → Nat → Nat → BT
  | 0, _, _ => .nil
  | f + 1, a, b => match Nat.blt b n with
    | true => .node (x b) (bld x n f (2 * a) (a + b)) (bld x n f (2 * a) (2 * a + b))
    | false => .nil
theorem bld_get (x : Nat → Obj) (n : Nat) : ∀ (f a b i : Nat), i + 1 < 2 ^ f → b + a * i < n → (bld x n f a b).get i = some (x (b + a * i))
  | 0, a, b, i, h, _ => by simp at h
  | f + 1, a, b, i, h, hn => by
    have hb : Nat.blt b n = true := by
      have : b < n := Nat.lt_of_le_of_lt (Nat.le_add_right _ _) hn
      exact Nat.ble_eq_true_of_le this
    unfold bld
    rw [hb]
    show (BT.node _ _ _).get i = _
    rw [BT.get_node]
    by_cases h0 : i = 0
    · subst h0; simp
    · rw [if_neg h0]
      by_cases h1 : i % 2 = 1
      · rw [if_pos h1]
        obtain ⟨j, rfl⟩ : ∃ j, i = 2 * j + 1 := ⟨i / 2, by omega⟩
        have e : (2 * j + 1) / 2 = j := by omega
        have e2 : a + b + 2 * a * j = b + a * (2 * j + 1) := by rw [Nat.mul_add, Nat.mul_one, ← Nat.mul_assoc, Nat.mul_comm a 2]; omega
        rw [e, bld_get x n f (2 * a) (a + b) j (by rw [Nat.pow_succ] at h; omega) (by rw [e2]; exact hn), e2]
      · rw [if_neg h1]
        obtain ⟨j, rfl⟩ : ∃ j, i = 2 * j + 2 := ⟨i / 2 - 1, by omega⟩
        have e : (2 * j + 2) / 2 - 1 = j := by omega
        have e2 : 2 * a + b + 2 * a * j = b + a * (2 * j + 2) := by rw [Nat.mul_add, ← Nat.mul_assoc, Nat.mul_comm a 2]; omega
        rw [e, bld_get x n f (2 * a) (2 * a + b) j (by rw [Nat.pow_succ] at h; omega) (by rw [e2]; exact hn), e2]
noncomputable abbrev tr (x : Nat → Obj) (n : Nat) : BT := bld x n 9 1 0
theorem tr_get (x : Nat → Obj) {n i : Nat} (h : i < n) (hn : n ≤ 500) : (tr x n).get i = some (x i) := by
  have := bld_get x n 9 1 0 i (by omega) (by omega)
  simpa using this
noncomputable abbrev hp (x : Nat → Obj) (n : Nat) (life : Life) : Heap := absHeap (tr x n) n life
theorem hp_get {x : Nat → Obj} {n i : Nat} {life : Life} (h : i < n) (hn : n ≤ 500) : (hp x n life).get? i = alive (x i) := abs_get h (tr_get x h hn)
/-- objects written over others -/
noncomputable def ov : List (Nat × Obj) → (Nat → Obj) → Nat → Obj
  | [], y, i => y i
  | (a, o) :: r, y, i => match Nat.beq a i with
    | true => o
    | false => ov r y i
theorem ov_cons (a : Nat) (o : Obj) (r : List (Nat × Obj)) (y : Nat → Obj) (i : Nat) : ov ((a, o) :: r) y i = if a = i then o else ov r y i := by
  show (match Nat.beq a i with | true => o | false => ov r y i) = _
  rw [BT.beq_eq]
  by_cases h : a = i <;> simp [h]
theorem ov_same {x : Nat → Obj} : ∀ {l : List (Nat × Obj)}, (∀ p ∈ l, x p.1 = p.2) → ov l x = x
  | [], _ => rfl
  | (a, o) :: r, h => by
    funext i
    rw [ov_cons, ov_same fun p hp => h p (.tail _ hp)]
    by_cases e : a = i
    · rw [if_pos e, ← e]; exact (h _ (.head _)).symm
    · rw [if_neg e]
theorem ov_out {x : Nat → Obj} {i : Nat} : ∀ {l : List (Nat × Obj)}, (∀ p ∈ l, p.1 ≠ i) → ov l x i = x i
  | [], _ => rfl
  | (a, o) :: r, h => by
    rw [ov_cons, if_neg (h _ (.head _)), ov_out fun p hp => h p (.tail _ hp)]

noncomputable abbrev sp (x : Nat → Obj) (n : Nat) (life : Life) (drawn : Drawn) (tk : Nat) (os : OsState) : SharedT := ⟨tr x n, n, life, #[], drawn, tk, os⟩
noncomputable abbrev env0 : Env := { scope := pw.main.scope, locals := mainNs, globals := mainNs, cells := [], code := .ref 30, frame := some 31 }
noncomputable abbrev G0 : Ctx := ⟨.builtin "claim.caller" {}, none, none, [], none⟩
noncomputable abbrev Gb : Ctx := ⟨.body (behindTheImports pw) env0, none, none, [(.builtin "claim.caller" {}, default)], none⟩
end Mine.Ev
end E2_text
section E3_text
open PySem PySem.W PySem.Calls PyProof.Rows
set_option maxRecDepth 100000
namespace Mine.Ev
noncomputable def b1 (P : Params) : Obj := ⟨.type "dict", none, .dict #[⟨PyData.keyHash P "builtins", .str "builtins" 162, .ref 4⟩, ⟨PyData.keyHash P "__main__", .str "__main__" 163, .ref 5⟩, ⟨PyData.keyHash P "_sre", .str "_sre" 244, .ref 12⟩] 3, #[]⟩
noncomputable def b2 (P : Params) : Obj := ⟨.none, none, .dict #[⟨PyData.keyHash P ⟨#[105, 109, 112, 111, 114, 116, 46, 108, 111, 97, 100, 101, 100, 46, 95, 115, 114, 101]⟩, .str ⟨#[105, 109, 112, 111, 114, 116, 46, 108, 111, 97, 100, 101, 100, 46, 95, 115, 114, 101]⟩ 183, .bool true⟩, ⟨PyData.keyHash P "class._frozen_importlib.BuiltinImporter", .str "class._frozen_importlib.BuiltinImporter" 185, .ref 14⟩, ⟨PyData.keyHash P ⟨#[119, 97, 116, 99, 104, 101, 100, 46, 105, 109, 112, 111, 114, 116]⟩, .str ⟨#[119, 97, 116, 99, 104, 101, 100, 46, 105, 109, 112, 111, 114, 116]⟩ 206, .ref 18⟩, ⟨PyData.keyHash P "class._frozen_importlib.ModuleSpec", .str "class._frozen_importlib.ModuleSpec" 216, .ref 22⟩, ⟨PyData.keyHash P "sys.modules.booked-epoch", .str "sys.modules.booked-epoch" 245, .int 3 0⟩, ⟨PyData.keyHash P ⟨#[105, 109, 112, 111, 114, 116, 46, 108, 97, 116, 101, 114, 45, 108, 97, 105, 100, 46, 95, 115, 114, 101]⟩, .str ⟨#[105, 109, 112, 111, 114, 116, 46, 108, 97, 116, 101, 114, 45, 108, 97, 105, 100, 46, 95, 115, 114, 101]⟩ 270, .bool true⟩, ⟨PyData.keyHash P "watched.library", .str "watched.library" 272, .ref 27⟩, ⟨PyData.keyHash P "watched.library-objects", .str "watched.library-objects" 0, .str ⟨#[12]⟩ 0⟩, ⟨PyData.keyHash P "watched.library-deep._sre", .str "watched.library-deep._sre" 273, .str ⟨#[4, 0, 0, 11, 4, 0, 0, 11, 4, 0, 0, 3, 4, 0, 0, 11, 8, 4, 100, 105, 99, 116, 2]⟩ 0⟩] 9, #[]⟩
noncomputable def b3 (P : Params) : Obj := ⟨.type "dict", none, .dict #[⟨PyData.keyHash P "__name__", .str "__name__" 165, .str "__main__" 164⟩, ⟨PyData.keyHash P "__doc__", .str "__doc__" 166, .none⟩, ⟨PyData.keyHash P "__package__", .str "__package__" 167, .none⟩, ⟨PyData.keyHash P "__loader__", .str "__loader__" 168, .builtin "__main__.__loader__#opaque"⟩, ⟨PyData.keyHash P "__spec__", .str "__spec__" 169, .none⟩, ⟨PyData.keyHash P "__annotations__", .str "__annotations__" 170, .ref 6⟩, ⟨PyData.keyHash P "__builtins__", .str "__builtins__" 171, .ref 4⟩, ⟨PyData.keyHash P "__file__", .str "__file__" 173, .str "/claim/cut.py" 172⟩, ⟨PyData.keyHash P "__cached__", .str "__cached__" 174, .none⟩, ⟨PyData.keyHash P "_sre", .str "_sre" 275, .ref 12⟩] 10, #[]⟩
noncomputable def b4 (_ : Params) : Obj := ⟨.type "module", some 0, .plain, #[]⟩
noncomputable def b5 (_ : Params) : Obj := ⟨.type "module", some 3, .plain, #[]⟩
noncomputable def b6 (_ : Params) : Obj := ⟨.type "dict", none, .dict #[] 0, #[]⟩
noncomputable def b11 (P : Params) : Obj := ⟨.type "dict", none, .dict #[⟨PyData.keyHash P "__name__", .str "__name__" 247, .str "_sre" 246⟩, ⟨PyData.keyHash P "__doc__", .str "__doc__" 248, .none⟩, ⟨PyData.keyHash P "__package__", .str "__package__" 250, .str "" 249⟩, ⟨PyData.keyHash P "__loader__", .str "__loader__" 251, .builtin "off-the-table:_sre.__loader__:shared#opaque"⟩, ⟨PyData.keyHash P "__spec__", .str "__spec__" 252, .builtin "off-the-table:_sre.__spec__:shared#opaque"⟩, ⟨PyData.keyHash P "compile", .str "compile" 253, .builtin "_sre.compile"⟩, ⟨PyData.keyHash P "template", .str "template" 254, .builtin "off-the-table:_sre.template:shared#opaque"⟩, ⟨PyData.keyHash P "getcodesize", .str "getcodesize" 255, .builtin "off-the-table:_sre.getcodesize:shared#opaque"⟩, ⟨PyData.keyHash P "ascii_iscased", .str "ascii_iscased" 256, .builtin "off-the-table:_sre.ascii_iscased:shared#opaque"⟩, ⟨PyData.keyHash P "unicode_iscased", .str "unicode_iscased" 257, .builtin "off-the-table:_sre.unicode_iscased:shared#opaque"⟩, ⟨PyData.keyHash P "ascii_tolower", .str "ascii_tolower" 258, .builtin "off-the-table:_sre.ascii_tolower:shared#opaque"⟩, ⟨PyData.keyHash P "unicode_tolower", .str "unicode_tolower" 259, .builtin "off-the-table:_sre.unicode_tolower:shared#opaque"⟩, ⟨PyData.keyHash P "MAGIC", .str "MAGIC" 261, .int 20230612 260⟩, ⟨PyData.keyHash P "CODESIZE", .str "CODESIZE" 263, .int 4 262⟩, ⟨PyData.keyHash P "MAXREPEAT", .str "MAXREPEAT" 265, .int 4294967295 264⟩, ⟨PyData.keyHash P "MAXGROUPS", .str "MAXGROUPS" 267, .int 1073741823 266⟩, ⟨PyData.keyHash P "copyright", .str "copyright" 269, .str " SRE 2.2.2 Copyright (c) 1997-2002 by Secret Labs AB " 268⟩] 17, #[]⟩
noncomputable def b12 (_ : Params) : Obj := ⟨.type "module", some 11, .plain, #[]⟩
noncomputable def a28 (_ : Params) : Obj := ⟨.type "tuple", none, .seq #[] 0, #[]⟩
noncomputable def a29 (_ : Params) : Obj := ⟨.none, none, .fields #[], #[]⟩
noncomputable def a30 (_ : Params) : Obj := ⟨.type "code", none, .fields #[.str "<module>" 277, .str "<module>" 278, .str "/claim/cut.py" 279, .int 1 0, .int 0 0, .int 0 0, .int 0 0, .int 0 0, .ref 28, .bool false, .int 276 0, .ref 29, .none, .none, .none, .none, .int 280 0, .int 1 0, .str "/claim/cut.py" 281], #[]⟩
noncomputable def a31 (_ : Params) : Obj := ⟨.type "frame", none, .plain, #[some (.ref 30), some (.ref 3), some (.ref 3), none, some (.str "__main__" 164), none, some (.ref 0)]⟩
noncomputable def g3A (P : Params) : Obj := ⟨.type "dict", none, .dict #[⟨PyData.keyHash P "__name__", .str "__name__" 165, .str "cpy313.stringprep" 391⟩, ⟨PyData.keyHash P "__doc__", .str "__doc__" 166, .none⟩, ⟨PyData.keyHash P "__package__", .str "__package__" 167, .none⟩, ⟨PyData.keyHash P "__loader__", .str "__loader__" 168, .builtin "__main__.__loader__#opaque"⟩, ⟨PyData.keyHash P "__spec__", .str "__spec__" 169, .none⟩, ⟨PyData.keyHash P "__annotations__", .str "__annotations__" 170, .ref 6⟩, ⟨PyData.keyHash P "__builtins__", .str "__builtins__" 171, .ref 4⟩, ⟨PyData.keyHash P "__file__", .str "__file__" 173, .str "/claim/cut.py" 172⟩, ⟨PyData.keyHash P "__cached__", .str "__cached__" 174, .none⟩, ⟨PyData.keyHash P "_sre", .str "_sre" 275, .ref 12⟩, ⟨PyData.keyHash P "insort_right", .str "insort_right" 296, .ref 40⟩, ⟨PyData.keyHash P "bisect_right", .str "bisect_right" 310, .ref 49⟩, ⟨PyData.keyHash P "_parse_varint", .str "_parse_varint" 321, .ref 56⟩, ⟨PyData.keyHash P "_twin_re_1", .str "_twin_re_1" 339, .ref 61⟩, ⟨PyData.keyHash P "_twin_re_2", .str "_twin_re_2" 381, .ref 66⟩, ⟨PyData.keyHash P "CRLF", .str "CRLF" 383, .str ⟨#[13, 10]⟩ 382⟩, ⟨PyData.keyHash P "quotedata", .str "quotedata" 390, .ref 73⟩] 17, #[]⟩
noncomputable def g29A (_ : Params) : Obj := ⟨.none, none, .fields #[.int 3 0, .int 0 0, .ref 39, .int 9 0, .int 0 0, .ref 48, .int 30 0, .int 0 0, .ref 55, .int 42 0, .int 0 0, .ref 72], #[]⟩
noncomputable def o32 (_ : Params) : Obj := ⟨.type "tuple", none, .seq #[.int 0 284, .none] 0, #[]⟩
noncomputable def o33 (P : Params) : Obj := ⟨.type "dict", none, .dict #[⟨PyData.keyHash P "key", .str "key" 285, .none⟩] 1, #[]⟩
noncomputable def o34 (_ : Params) : Obj := ⟨.type "tuple", none, .seq #[] 0, #[]⟩
noncomputable def o35 (_ : Params) : Obj := ⟨.none, none, .fields #[], #[]⟩
noncomputable def o36 (_ : Params) : Obj := ⟨.type "tuple", none, .seq #[.str "a" 289, .str "x" 290, .str "lo" 291, .str "hi" 292, .str "key" 293] 0, #[]⟩
noncomputable def o37 (_ : Params) : Obj := ⟨.type "tuple", none, .seq #[] 0, #[]⟩
noncomputable def o38 (_ : Params) : Obj := ⟨.none, none, .func ⟨"insort_right", "insort_right", sParams (stm 2), .stmts (sBody (stm 2)), sScope (stm 2), 0, [], .none, .none, .none, .none, none, .none, .none, 0⟩, #[]⟩
noncomputable def o39 (_ : Params) : Obj := ⟨.type "code", none, .fields #[.str "insort_right" 286, .str "insort_right" 287, .str "/claim/cut.py" 288, .int 3 0, .int 4 0, .int 0 0, .int 1 0, .int 3 0, .ref 34, .bool true, .int 276 0, .ref 35, .none, .ref 36, .ref 37, .ref 38, .int 294 0, .int 3 0, .str "/claim/cut.py" 295], #[]⟩
noncomputable def o40 (_ : Params) : Obj := ⟨.type "function", none, .func ⟨"insort_right", "insort_right", sParams (stm 2), .stmts (sBody (stm 2)), sScope (stm 2), 3, [], .ref 32, .ref 33, .none, .str "cpy313.bisect" 282, none, .ref 39, .none, 0⟩, #[]⟩
noncomputable def o41 (_ : Params) : Obj := ⟨.type "tuple", none, .seq #[.int 0 297, .none] 0, #[]⟩
noncomputable def o42 (P : Params) : Obj := ⟨.type "dict", none, .dict #[⟨PyData.keyHash P "key", .str "key" 298, .none⟩] 1, #[]⟩
noncomputable def o43 (_ : Params) : Obj := ⟨.type "tuple", none, .seq #[] 0, #[]⟩
noncomputable def o44 (_ : Params) : Obj := ⟨.none, none, .fields #[], #[]⟩
noncomputable def o45 (_ : Params) : Obj := ⟨.type "tuple", none, .seq #[.str "a" 302, .str "x" 303, .str "lo" 304, .str "hi" 305, .str "key" 306, .str "mid" 307] 0, #[]⟩
noncomputable def o46 (_ : Params) : Obj := ⟨.type "tuple", none, .seq #[] 0, #[]⟩
noncomputable def o47 (_ : Params) : Obj := ⟨.none, none, .func ⟨"bisect_right", "bisect_right", sParams (stm 3), .stmts (sBody (stm 3)), sScope (stm 3), 0, [], .none, .none, .none, .none, none, .none, .none, 0⟩, #[]⟩
noncomputable def o48 (_ : Params) : Obj := ⟨.type "code", none, .fields #[.str "bisect_right" 299, .str "bisect_right" 300, .str "/claim/cut.py" 301, .int 9 0, .int 4 0, .int 0 0, .int 1 0, .int 3 0, .ref 43, .bool true, .int 276 0, .ref 44, .none, .ref 45, .ref 46, .ref 47, .int 308 0, .int 9 0, .str "/claim/cut.py" 309], #[]⟩
noncomputable def o49 (_ : Params) : Obj := ⟨.type "function", none, .func ⟨"bisect_right", "bisect_right", sParams (stm 3), .stmts (sBody (stm 3)), sScope (stm 3), 3, [], .ref 41, .ref 42, .none, .str "cpy313.bisect" 282, none, .ref 48, .none, 0⟩, #[]⟩
noncomputable def o50 (_ : Params) : Obj := ⟨.type "tuple", none, .seq #[] 0, #[]⟩
noncomputable def o51 (_ : Params) : Obj := ⟨.none, none, .fields #[], #[]⟩
noncomputable def o52 (_ : Params) : Obj := ⟨.type "tuple", none, .seq #[.str "iterator" 316, .str "b" 317, .str "val" 318] 0, #[]⟩
noncomputable def o53 (_ : Params) : Obj := ⟨.type "tuple", none, .seq #[] 0, #[]⟩
noncomputable def o54 (_ : Params) : Obj := ⟨.none, none, .func ⟨"_parse_varint", "_parse_varint", sParams (stm 5), .stmts (sBody (stm 5)), sScope (stm 5), 0, [], .none, .none, .none, .none, none, .none, .none, 0⟩, #[]⟩
noncomputable def o55 (_ : Params) : Obj := ⟨.type "code", none, .fields #[.str "_parse_varint" 313, .str "_parse_varint" 314, .str "/claim/cut.py" 315, .int 30 0, .int 1 0, .int 0 0, .int 0 0, .int 3 0, .ref 50, .bool true, .int 276 0, .ref 51, .none, .ref 52, .ref 53, .ref 54, .int 319 0, .int 30 0, .str "/claim/cut.py" 320], #[]⟩
noncomputable def o56 (_ : Params) : Obj := ⟨.type "function", none, .func ⟨"_parse_varint", "_parse_varint", sParams (stm 5), .stmts (sBody (stm 5)), sScope (stm 5), 3, [], .none, .none, .none, .str "cpy313.dis" 311, none, .ref 55, .none, 0⟩, #[]⟩
noncomputable def o57 (_ : Params) : Obj := ⟨.type "list", none, .seq #[.int 14 327, .int 4 328, .int 0 329, .int 1 330, .int 1 331, .int 6 332, .int 1 333, .int 16 334, .int 46 335, .int 1 336] 0, #[]⟩
noncomputable def o58 (_ : Params) : Obj := ⟨.type "dict", none, .dict #[] 0, #[]⟩
noncomputable def o59 (_ : Params) : Obj := ⟨.type "tuple", none, .seq #[.none] 0, #[]⟩
noncomputable def o60 (_ : Params) : Obj := ⟨.type "tuple", none, .seq #[.int 14 0, .int 4 0, .int 0 0, .int 1 0, .int 1 0, .int 6 0, .int 1 0, .int 16 0, .int 46 0, .int 1 0] 0, #[]⟩
noncomputable def o61 (_ : Params) : Obj := ⟨.type "re.Pattern", none, .fields #[.str "(?m)^\\." 325, .int 40 338, .int 0 0, .none, .none, .ref 60, .int 0 0], #[]⟩
noncomputable def o62 (_ : Params) : Obj := ⟨.type "list", none, .seq #[.int 14 343, .int 9 344, .int 4 345, .int 1 346, .int 2 347, .int 16 348, .int 10 349, .int 16 350, .int 13 351, .int 0 352, .int 7 353, .int 7 354, .int 16 355, .int 13 356, .int 16 357, .int 10 358, .int 15 359, .int 18 360, .int 5 361, .int 16 362, .int 10 363, .int 15 364, .int 13 365, .int 11 366, .int 16 367, .int 13 368, .int 5 369, .int 5 370, .int 0 371, .int 16 372, .int 10 373, .int 1 374, .int 15 375, .int 2 376, .int 0 377, .int 1 378] 0, #[]⟩
noncomputable def o63 (_ : Params) : Obj := ⟨.type "dict", none, .dict #[] 0, #[]⟩
noncomputable def o64 (_ : Params) : Obj := ⟨.type "tuple", none, .seq #[.none] 0, #[]⟩
noncomputable def o65 (_ : Params) : Obj := ⟨.type "tuple", none, .seq #[.int 14 0, .int 9 0, .int 4 0, .int 1 0, .int 2 0, .int 16 0, .int 10 0, .int 16 0, .int 13 0, .int 0 0, .int 7 0, .int 7 0, .int 16 0, .int 13 0, .int 16 0, .int 10 0, .int 15 0, .int 18 0, .int 5 0, .int 16 0, .int 10 0, .int 15 0, .int 13 0, .int 11 0, .int 16 0, .int 13 0, .int 5 0, .int 5 0, .int 0 0, .int 16 0, .int 10 0, .int 1 0, .int 15 0, .int 2 0, .int 0 0, .int 1 0] 0, #[]⟩
noncomputable def o66 (_ : Params) : Obj := ⟨.type "re.Pattern", none, .fields #[.str "(?:\\r\\n|\\n|\\r(?!\\n))" 341, .int 32 380, .int 0 0, .none, .none, .ref 65, .int 0 0], #[]⟩
noncomputable def o67 (_ : Params) : Obj := ⟨.type "tuple", none, .seq #[] 0, #[]⟩
noncomputable def o68 (_ : Params) : Obj := ⟨.none, none, .fields #[], #[]⟩
noncomputable def o69 (_ : Params) : Obj := ⟨.type "tuple", none, .seq #[.str "data" 387] 0, #[]⟩
noncomputable def o70 (_ : Params) : Obj := ⟨.type "tuple", none, .seq #[] 0, #[]⟩
noncomputable def o71 (_ : Params) : Obj := ⟨.none, none, .func ⟨"quotedata", "quotedata", sParams (stm 10), .stmts (sBody (stm 10)), sScope (stm 10), 0, [], .none, .none, .none, .none, none, .none, .none, 0⟩, #[]⟩
noncomputable def o72 (_ : Params) : Obj := ⟨.type "code", none, .fields #[.str "quotedata" 384, .str "quotedata" 385, .str "/claim/cut.py" 386, .int 42 0, .int 1 0, .int 0 0, .int 0 0, .int 3 0, .ref 67, .bool true, .int 276 0, .ref 68, .none, .ref 69, .ref 70, .ref 71, .int 388 0, .int 42 0, .str "/claim/cut.py" 389], #[]⟩
noncomputable def o73 (_ : Params) : Obj := ⟨.type "function", none, .func ⟨"quotedata", "quotedata", sParams (stm 10), .stmts (sBody (stm 10)), sScope (stm 10), 3, [], .none, .none, .none, .str "cpy313.smtplib" 322, none, .ref 72, .none, 0⟩, #[]⟩
noncomputable def g3B (P : Params) : Obj := ⟨.type "dict", none, .dict #[⟨PyData.keyHash P "__name__", .str "__name__" 165, .str "cpy313.stringprep" 391⟩, ⟨PyData.keyHash P "__doc__", .str "__doc__" 166, .none⟩, ⟨PyData.keyHash P "__package__", .str "__package__" 167, .none⟩, ⟨PyData.keyHash P "__loader__", .str "__loader__" 168, .builtin "__main__.__loader__#opaque"⟩, ⟨PyData.keyHash P "__spec__", .str "__spec__" 169, .none⟩, ⟨PyData.keyHash P "__annotations__", .str "__annotations__" 170, .ref 6⟩, ⟨PyData.keyHash P "__builtins__", .str "__builtins__" 171, .ref 4⟩, ⟨PyData.keyHash P "__file__", .str "__file__" 173, .str "/claim/cut.py" 172⟩, ⟨PyData.keyHash P "__cached__", .str "__cached__" 174, .none⟩, ⟨PyData.keyHash P "_sre", .str "_sre" 275, .ref 12⟩, ⟨PyData.keyHash P "insort_right", .str "insort_right" 296, .ref 40⟩, ⟨PyData.keyHash P "bisect_right", .str "bisect_right" 310, .ref 49⟩, ⟨PyData.keyHash P "_parse_varint", .str "_parse_varint" 321, .ref 56⟩, ⟨PyData.keyHash P "_twin_re_1", .str "_twin_re_1" 339, .ref 61⟩, ⟨PyData.keyHash P "_twin_re_2", .str "_twin_re_2" 381, .ref 66⟩, ⟨PyData.keyHash P "CRLF", .str "CRLF" 383, .str ⟨#[13, 10]⟩ 382⟩, ⟨PyData.keyHash P "quotedata", .str "quotedata" 390, .ref 73⟩, ⟨PyData.keyHash P "b1_set", .str "b1_set" 452, .ref 81⟩] 18, #[]⟩
noncomputable def g29B (_ : Params) : Obj := ⟨.none, none, .fields #[.int 3 0, .int 0 0, .ref 39, .int 9 0, .int 0 0, .ref 48, .int 30 0, .int 0 0, .ref 55, .int 42 0, .int 0 0, .ref 72], #[]⟩
noncomputable def o74 (_ : Params) : Obj := ⟨.type "list", none, .seq #[.int 173 393, .int 847 394, .int 6150 395, .int 6155 396, .int 6156 397, .int 6157 398, .int 8203 399, .int 8204 400, .int 8205 401, .int 8288 402, .int 65279 403] 0, #[]⟩
noncomputable def o75 (_ : Params) : Obj := ⟨.type "range", none, .fields #[.int 65024 404, .int 65040 405, .int 1 406], #[]⟩
noncomputable def o76 (_ : Params) : Obj := ⟨.type "list", none, .seq #[.int 65024 409, .int 65025 410, .int 65026 411, .int 65027 412, .int 65028 413, .int 65029 414, .int 65030 415, .int 65031 416, .int 65032 417, .int 65033 418, .int 65034 419, .int 65035 420, .int 65036 421, .int 65037 422, .int 65038 423, .int 65039 424] 18, #[]⟩
noncomputable def o77 (_ : Params) : Obj := ⟨.type "range_iterator", none, .fields #[.int 65040 0, .int 0 0, .int 1 0], #[]⟩
noncomputable def o78 (_ : Params) : Obj := ⟨.type "tuple", none, .seq #[] 0, #[]⟩
noncomputable def o79 (_ : Params) : Obj := ⟨.type "StopIteration", none, .fields #[.ref 78, .none, .none, .none, .bool false, .none], #[]⟩
noncomputable def o80 (_ : Params) : Obj := ⟨.type "list", none, .seq #[.int 173 393, .int 847 394, .int 6150 395, .int 6155 396, .int 6156 397, .int 6157 398, .int 8203 399, .int 8204 400, .int 8205 401, .int 8288 402, .int 65279 403, .int 65024 409, .int 65025 410, .int 65026 411, .int 65027 412, .int 65028 413, .int 65029 414, .int 65030 415, .int 65031 416, .int 65032 417, .int 65033 418, .int 65034 419, .int 65035 420, .int 65036 421, .int 65037 422, .int 65038 423, .int 65039 424] 0, #[]⟩
noncomputable def o81 (P : Params) : Obj := ⟨.type "set", none, .set #[(65024, .int 65024 409), (65025, .int 65025 410), (65026, .int 65026 411), (65027, .int 65027 412), (65028, .int 65028 413), (65029, .int 65029 414), (6150, .int 6150 395), (65030, .int 65030 415), (65031, .int 65031 416), (65032, .int 65032 417), (65033, .int 65033 418), (6155, .int 6155 396), (6156, .int 6156 397), (6157, .int 6157 398), (8203, .int 8203 399), (8204, .int 8204 400), (8205, .int 8205 401), (65034, .int 65034 419), (65035, .int 65035 420), (65036, .int 65036 421), (65037, .int 65037 422), (65038, .int 65038 423), (65039, .int 65039 424), (173, .int 173 393), (847, .int 847 394), (8288, .int 8288 402), (65279, .int 65279 403)] 29 ⟨127, #[0, 1, 2, 3, 4, 5, 6, 7, 8, 9, 10, 11, 12, 13, 14, 15, 16, 17, 18, 19, 20, 21, 22, 45, 79, 96, 127], #[], 0, !(P.followText "set-order"), 2, true⟩, #[]⟩
noncomputable def o82 (_ : Params) : Obj := ⟨.type "list_iterator", none, .fields #[.none, .int 27 0], #[]⟩
noncomputable def o83 (_ : Params) : Obj := ⟨.type "tuple", none, .seq #[] 0, #[]⟩
noncomputable def o84 (_ : Params) : Obj := ⟨.type "StopIteration", none, .fields #[.ref 83, .none, .none, .none, .bool false, .none], #[]⟩
noncomputable def g3C (P : Params) : Obj := ⟨.type "dict", none, .dict #[⟨PyData.keyHash P "__name__", .str "__name__" 165, .str "cpy313.stringprep" 391⟩, ⟨PyData.keyHash P "__doc__", .str "__doc__" 166, .none⟩, ⟨PyData.keyHash P "__package__", .str "__package__" 167, .none⟩, ⟨PyData.keyHash P "__loader__", .str "__loader__" 168, .builtin "__main__.__loader__#opaque"⟩, ⟨PyData.keyHash P "__spec__", .str "__spec__" 169, .none⟩, ⟨PyData.keyHash P "__annotations__", .str "__annotations__" 170, .ref 6⟩, ⟨PyData.keyHash P "__builtins__", .str "__builtins__" 171, .ref 4⟩, ⟨PyData.keyHash P "__file__", .str "__file__" 173, .str "/claim/cut.py" 172⟩, ⟨PyData.keyHash P "__cached__", .str "__cached__" 174, .none⟩, ⟨PyData.keyHash P "_sre", .str "_sre" 275, .ref 12⟩, ⟨PyData.keyHash P "insort_right", .str "insort_right" 296, .ref 40⟩, ⟨PyData.keyHash P "bisect_right", .str "bisect_right" 310, .ref 49⟩, ⟨PyData.keyHash P "_parse_varint", .str "_parse_varint" 321, .ref 56⟩, ⟨PyData.keyHash P "_twin_re_1", .str "_twin_re_1" 339, .ref 61⟩, ⟨PyData.keyHash P "_twin_re_2", .str "_twin_re_2" 381, .ref 66⟩, ⟨PyData.keyHash P "CRLF", .str "CRLF" 383, .str ⟨#[13, 10]⟩ 382⟩, ⟨PyData.keyHash P "quotedata", .str "quotedata" 390, .ref 73⟩, ⟨PyData.keyHash P "b1_set", .str "b1_set" 452, .ref 81⟩, ⟨PyData.keyHash P "in_table_b1", .str "in_table_b1" 459, .ref 91⟩] 19, #[]⟩
noncomputable def g29C (_ : Params) : Obj := ⟨.none, none, .fields #[.int 3 0, .int 0 0, .ref 39, .int 9 0, .int 0 0, .ref 48, .int 30 0, .int 0 0, .ref 55, .int 42 0, .int 0 0, .ref 72, .int 46 0, .int 0 0, .ref 90], #[]⟩
noncomputable def o85 (_ : Params) : Obj := ⟨.type "tuple", none, .seq #[] 0, #[]⟩
noncomputable def o86 (_ : Params) : Obj := ⟨.none, none, .fields #[], #[]⟩
noncomputable def o87 (_ : Params) : Obj := ⟨.type "tuple", none, .seq #[.str "code" 456] 0, #[]⟩
noncomputable def o88 (_ : Params) : Obj := ⟨.type "tuple", none, .seq #[] 0, #[]⟩
noncomputable def o89 (_ : Params) : Obj := ⟨.none, none, .func ⟨"in_table_b1", "in_table_b1", sParams (stm 13), .stmts (sBody (stm 13)), sScope (stm 13), 0, [], .none, .none, .none, .none, none, .none, .none, 0⟩, #[]⟩
noncomputable def o90 (_ : Params) : Obj := ⟨.type "code", none, .fields #[.str "in_table_b1" 453, .str "in_table_b1" 454, .str "/claim/cut.py" 455, .int 46 0, .int 1 0, .int 0 0, .int 0 0, .int 3 0, .ref 85, .bool true, .int 276 0, .ref 86, .none, .ref 87, .ref 88, .ref 89, .int 457 0, .int 46 0, .str "/claim/cut.py" 458], #[]⟩
noncomputable def o91 (_ : Params) : Obj := ⟨.type "function", none, .func ⟨"in_table_b1", "in_table_b1", sParams (stm 13), .stmts (sBody (stm 13)), sScope (stm 13), 3, [], .none, .none, .none, .str "cpy313.stringprep" 391, none, .ref 90, .none, 0⟩, #[]⟩
noncomputable def g3F (P : Params) : Obj := ⟨.type "dict", none, .dict #[⟨PyData.keyHash P "__name__", .str "__name__" 165, .str "law_us0011_01" 2419⟩, ⟨PyData.keyHash P "__doc__", .str "__doc__" 166, .none⟩, ⟨PyData.keyHash P "__package__", .str "__package__" 167, .none⟩, ⟨PyData.keyHash P "__loader__", .str "__loader__" 168, .builtin "__main__.__loader__#opaque"⟩, ⟨PyData.keyHash P "__spec__", .str "__spec__" 169, .none⟩, ⟨PyData.keyHash P "__annotations__", .str "__annotations__" 170, .ref 6⟩, ⟨PyData.keyHash P "__builtins__", .str "__builtins__" 171, .ref 4⟩, ⟨PyData.keyHash P "__file__", .str "__file__" 173, .str "/claim/cut.py" 172⟩, ⟨PyData.keyHash P "__cached__", .str "__cached__" 174, .none⟩, ⟨PyData.keyHash P "_sre", .str "_sre" 275, .ref 12⟩, ⟨PyData.keyHash P "insort_right", .str "insort_right" 296, .ref 40⟩, ⟨PyData.keyHash P "bisect_right", .str "bisect_right" 310, .ref 49⟩, ⟨PyData.keyHash P "_parse_varint", .str "_parse_varint" 321, .ref 56⟩, ⟨PyData.keyHash P "_twin_re_1", .str "_twin_re_1" 339, .ref 61⟩, ⟨PyData.keyHash P "_twin_re_2", .str "_twin_re_2" 381, .ref 66⟩, ⟨PyData.keyHash P "CRLF", .str "CRLF" 383, .str ⟨#[13, 10]⟩ 382⟩, ⟨PyData.keyHash P "quotedata", .str "quotedata" 390, .ref 73⟩, ⟨PyData.keyHash P "b1_set", .str "b1_set" 452, .ref 81⟩, ⟨PyData.keyHash P "in_table_b1", .str "in_table_b1" 459, .ref 91⟩, ⟨PyData.keyHash P "b3_exceptions", .str "b3_exceptions" 2410, .ref 92⟩, ⟨PyData.keyHash P "map_table_b3", .str "map_table_b3" 2418, .ref 137⟩, ⟨PyData.keyHash P "_law_piece", .str "_law_piece" 2433, .ref 144⟩, ⟨PyData.keyHash P "_law_sent", .str "_law_sent" 2443, .ref 151⟩, ⟨PyData.keyHash P "_law_numbers", .str "_law_numbers" 2458, .ref 158⟩, ⟨PyData.keyHash P "_law_figures", .str "_law_figures" 2466, .ref 165⟩, ⟨PyData.keyHash P "_law_lowest", .str "_law_lowest" 2475, .ref 172⟩, ⟨PyData.keyHash P "_law_column", .str "_law_column" 2481, .ref 177⟩, ⟨PyData.keyHash P "law", .str "law" 2487, .ref 182⟩] 28, #[]⟩
noncomputable def g29F (_ : Params) : Obj := ⟨.none, none, .fields #[.int 3 0, .int 0 0, .ref 39, .int 9 0, .int 0 0, .ref 48, .int 30 0, .int 0 0, .ref 55, .int 42 0, .int 0 0, .ref 72, .int 46 0, .int 0 0, .ref 90, .int 49 0, .int 0 0, .ref 136, .int 55 0, .int 0 0, .ref 143, .int 73 0, .int 0 0, .ref 150, .int 84 0, .int 0 0, .ref 157, .int 103 0, .int 0 0, .ref 164, .int 109 0, .int 0 0, .ref 171, .int 115 0, .int 0 0, .ref 176, .int 124 0, .int 0 0, .ref 181], #[]⟩
noncomputable def o131 (_ : Params) : Obj := ⟨.type "tuple", none, .seq #[] 0, #[]⟩
noncomputable def o132 (_ : Params) : Obj := ⟨.none, none, .fields #[], #[]⟩
noncomputable def o133 (_ : Params) : Obj := ⟨.type "tuple", none, .seq #[.str "code" 2414, .str "r" 2415] 0, #[]⟩
noncomputable def o134 (_ : Params) : Obj := ⟨.type "tuple", none, .seq #[] 0, #[]⟩
noncomputable def o135 (_ : Params) : Obj := ⟨.none, none, .func ⟨"map_table_b3", "map_table_b3", sParams (stm 15), .stmts (sBody (stm 15)), sScope (stm 15), 0, [], .none, .none, .none, .none, none, .none, .none, 0⟩, #[]⟩
noncomputable def o136 (_ : Params) : Obj := ⟨.type "code", none, .fields #[.str "map_table_b3" 2411, .str "map_table_b3" 2412, .str "/claim/cut.py" 2413, .int 49 0, .int 1 0, .int 0 0, .int 0 0, .int 3 0, .ref 131, .bool true, .int 276 0, .ref 132, .none, .ref 133, .ref 134, .ref 135, .int 2416 0, .int 49 0, .str "/claim/cut.py" 2417], #[]⟩
noncomputable def o137 (_ : Params) : Obj := ⟨.type "function", none, .func ⟨"map_table_b3", "map_table_b3", sParams (stm 15), .stmts (sBody (stm 15)), sScope (stm 15), 3, [], .none, .none, .none, .str "cpy313.stringprep" 391, none, .ref 136, .none, 0⟩, #[]⟩
noncomputable def o138 (_ : Params) : Obj := ⟨.type "tuple", none, .seq #[] 0, #[]⟩
noncomputable def o139 (_ : Params) : Obj := ⟨.none, none, .fields #[], #[]⟩
noncomputable def o140 (_ : Params) : Obj := ⟨.type "tuple", none, .seq #[.str "number" 2424, .str "which" 2425, .str "end" 2426, .str "letter" 2427, .str "capitals" 2428, .str "folded" 2429, .str "hidden" 2430] 0, #[]⟩
noncomputable def o141 (_ : Params) : Obj := ⟨.type "tuple", none, .seq #[] 0, #[]⟩
noncomputable def o142 (_ : Params) : Obj := ⟨.none, none, .func ⟨"_law_piece", "_law_piece", sParams (stm 17), .stmts (sBody (stm 17)), sScope (stm 17), 0, [], .none, .none, .none, .none, none, .none, .none, 0⟩, #[]⟩
noncomputable def o143 (_ : Params) : Obj := ⟨.type "code", none, .fields #[.str "_law_piece" 2421, .str "_law_piece" 2422, .str "/claim/cut.py" 2423, .int 55 0, .int 1 0, .int 0 0, .int 0 0, .int 3 0, .ref 138, .bool true, .int 276 0, .ref 139, .none, .ref 140, .ref 141, .ref 142, .int 2431 0, .int 55 0, .str "/claim/cut.py" 2432], #[]⟩
noncomputable def o144 (_ : Params) : Obj := ⟨.type "function", none, .func ⟨"_law_piece", "_law_piece", sParams (stm 17), .stmts (sBody (stm 17)), sScope (stm 17), 3, [], .none, .none, .none, .str "law_us0011_01" 2419, none, .ref 143, .none, 0⟩, #[]⟩
noncomputable def o145 (_ : Params) : Obj := ⟨.type "tuple", none, .seq #[] 0, #[]⟩
noncomputable def o146 (_ : Params) : Obj := ⟨.none, none, .fields #[], #[]⟩
noncomputable def o147 (_ : Params) : Obj := ⟨.type "tuple", none, .seq #[.str "plain" 2437, .str "told" 2438, .str "k" 2439, .str "ahead" 2440] 0, #[]⟩
noncomputable def o148 (_ : Params) : Obj := ⟨.type "tuple", none, .seq #[] 0, #[]⟩
noncomputable def o149 (_ : Params) : Obj := ⟨.none, none, .func ⟨"_law_sent", "_law_sent", sParams (stm 18), .stmts (sBody (stm 18)), sScope (stm 18), 0, [], .none, .none, .none, .none, none, .none, .none, 0⟩, #[]⟩
noncomputable def o150 (_ : Params) : Obj := ⟨.type "code", none, .fields #[.str "_law_sent" 2434, .str "_law_sent" 2435, .str "/claim/cut.py" 2436, .int 73 0, .int 1 0, .int 0 0, .int 0 0, .int 3 0, .ref 145, .bool true, .int 276 0, .ref 146, .none, .ref 147, .ref 148, .ref 149, .int 2441 0, .int 73 0, .str "/claim/cut.py" 2442], #[]⟩
noncomputable def o151 (_ : Params) : Obj := ⟨.type "function", none, .func ⟨"_law_sent", "_law_sent", sParams (stm 18), .stmts (sBody (stm 18)), sScope (stm 18), 3, [], .none, .none, .none, .str "law_us0011_01" 2419, none, .ref 150, .none, 0⟩, #[]⟩
noncomputable def o152 (_ : Params) : Obj := ⟨.type "tuple", none, .seq #[] 0, #[]⟩
noncomputable def o153 (_ : Params) : Obj := ⟨.none, none, .fields #[], #[]⟩
noncomputable def o154 (_ : Params) : Obj := ⟨.type "tuple", none, .seq #[.str "row" 2447, .str "order" 2448, .str "place" 2449, .str "octets" 2450, .str "met" 2451, .str "start" 2452, .str "feed" 2453, .str "numbers" 2454] 0, #[]⟩
noncomputable def o155 (_ : Params) : Obj := ⟨.type "tuple", none, .seq #[.str "row" 2455] 0, #[]⟩
noncomputable def o156 (_ : Params) : Obj := ⟨.none, none, .func ⟨"_law_numbers", "_law_numbers", sParams (stm 19), .stmts (sBody (stm 19)), sScope (stm 19), 0, [], .none, .none, .none, .none, none, .none, .none, 0⟩, #[]⟩
noncomputable def o157 (_ : Params) : Obj := ⟨.type "code", none, .fields #[.str "_law_numbers" 2444, .str "_law_numbers" 2445, .str "/claim/cut.py" 2446, .int 84 0, .int 1 0, .int 0 0, .int 0 0, .int 3 0, .ref 152, .bool true, .int 276 0, .ref 153, .none, .ref 154, .ref 155, .ref 156, .int 2456 0, .int 84 0, .str "/claim/cut.py" 2457], #[]⟩
noncomputable def o158 (_ : Params) : Obj := ⟨.type "function", none, .func ⟨"_law_numbers", "_law_numbers", sParams (stm 19), .stmts (sBody (stm 19)), sScope (stm 19), 3, [], .none, .none, .none, .str "law_us0011_01" 2419, none, .ref 157, .none, 0⟩, #[]⟩
noncomputable def o159 (_ : Params) : Obj := ⟨.type "tuple", none, .seq #[] 0, #[]⟩
noncomputable def o160 (_ : Params) : Obj := ⟨.none, none, .fields #[], #[]⟩
noncomputable def o161 (_ : Params) : Obj := ⟨.type "tuple", none, .seq #[.str "number" 2462, .str "figures" 2463] 0, #[]⟩
noncomputable def o162 (_ : Params) : Obj := ⟨.type "tuple", none, .seq #[] 0, #[]⟩
noncomputable def o163 (_ : Params) : Obj := ⟨.none, none, .func ⟨"_law_figures", "_law_figures", sParams (stm 20), .stmts (sBody (stm 20)), sScope (stm 20), 0, [], .none, .none, .none, .none, none, .none, .none, 0⟩, #[]⟩
noncomputable def o164 (_ : Params) : Obj := ⟨.type "code", none, .fields #[.str "_law_figures" 2459, .str "_law_figures" 2460, .str "/claim/cut.py" 2461, .int 103 0, .int 1 0, .int 0 0, .int 0 0, .int 3 0, .ref 159, .bool true, .int 276 0, .ref 160, .none, .ref 161, .ref 162, .ref 163, .int 2464 0, .int 103 0, .str "/claim/cut.py" 2465], #[]⟩
noncomputable def o165 (_ : Params) : Obj := ⟨.type "function", none, .func ⟨"_law_figures", "_law_figures", sParams (stm 20), .stmts (sBody (stm 20)), sScope (stm 20), 3, [], .none, .none, .none, .str "law_us0011_01" 2419, none, .ref 164, .none, 0⟩, #[]⟩
noncomputable def o166 (_ : Params) : Obj := ⟨.type "tuple", none, .seq #[] 0, #[]⟩
noncomputable def o167 (_ : Params) : Obj := ⟨.none, none, .fields #[], #[]⟩
noncomputable def o168 (_ : Params) : Obj := ⟨.type "tuple", none, .seq #[.str "number" 2470, .str "ring" 2471, .str "cut" 2472] 0, #[]⟩
noncomputable def o169 (_ : Params) : Obj := ⟨.type "tuple", none, .seq #[] 0, #[]⟩
noncomputable def o170 (_ : Params) : Obj := ⟨.none, none, .func ⟨"_law_lowest", "_law_lowest", sParams (stm 21), .stmts (sBody (stm 21)), sScope (stm 21), 0, [], .none, .none, .none, .none, none, .none, .none, 0⟩, #[]⟩
noncomputable def o171 (_ : Params) : Obj := ⟨.type "code", none, .fields #[.str "_law_lowest" 2467, .str "_law_lowest" 2468, .str "/claim/cut.py" 2469, .int 109 0, .int 1 0, .int 0 0, .int 0 0, .int 3 0, .ref 166, .bool true, .int 276 0, .ref 167, .none, .ref 168, .ref 169, .ref 170, .int 2473 0, .int 109 0, .str "/claim/cut.py" 2474], #[]⟩
noncomputable def o172 (_ : Params) : Obj := ⟨.type "function", none, .func ⟨"_law_lowest", "_law_lowest", sParams (stm 21), .stmts (sBody (stm 21)), sScope (stm 21), 3, [], .none, .none, .none, .str "law_us0011_01" 2419, none, .ref 171, .none, 0⟩, #[]⟩
noncomputable def o173 (_ : Params) : Obj := ⟨.type "tuple", none, .seq #[] 0, #[]⟩
noncomputable def o174 (_ : Params) : Obj := ⟨.none, none, .fields #[], #[]⟩
noncomputable def o175 (_ : Params) : Obj := ⟨.none, none, .func ⟨"_law_column", "_law_column", sParams (stm 22), .stmts (sBody (stm 22)), sScope (stm 22), 0, [], .none, .none, .none, .none, none, .none, .none, 0⟩, #[]⟩
noncomputable def o176 (_ : Params) : Obj := ⟨.type "code", none, .fields #[.str "_law_column" 2476, .str "_law_column" 2477, .str "/claim/cut.py" 2478, .int 115 0, .int 1 0, .int 0 0, .int 0 0, .int 3 0, .ref 173, .bool true, .int 276 0, .ref 174, .none, .none, .none, .ref 175, .int 2479 0, .int 115 0, .str "/claim/cut.py" 2480], #[]⟩
noncomputable def o177 (_ : Params) : Obj := ⟨.type "function", none, .func ⟨"_law_column", "_law_column", sParams (stm 22), .stmts (sBody (stm 22)), sScope (stm 22), 3, [], .none, .none, .none, .str "law_us0011_01" 2419, none, .ref 176, .none, 0⟩, #[]⟩
noncomputable def o178 (_ : Params) : Obj := ⟨.type "tuple", none, .seq #[] 0, #[]⟩
noncomputable def o179 (_ : Params) : Obj := ⟨.none, none, .fields #[], #[]⟩
noncomputable def o180 (_ : Params) : Obj := ⟨.none, none, .func ⟨"law", "law", sParams (stm 23), .stmts (sBody (stm 23)), sScope (stm 23), 0, [], .none, .none, .none, .none, none, .none, .none, 0⟩, #[]⟩
noncomputable def o181 (_ : Params) : Obj := ⟨.type "code", none, .fields #[.str "law" 2482, .str "law" 2483, .str "/claim/cut.py" 2484, .int 124 0, .int 1 0, .int 0 0, .int 0 0, .int 3 0, .ref 178, .bool true, .int 276 0, .ref 179, .none, .none, .none, .ref 180, .int 2485 0, .int 124 0, .str "/claim/cut.py" 2486], #[]⟩
noncomputable def o182 (_ : Params) : Obj := ⟨.type "function", none, .func ⟨"law", "law", sParams (stm 23), .stmts (sBody (stm 23)), sScope (stm 23), 3, [], .none, .none, .none, .str "law_us0011_01" 2419, none, .ref 181, .none, 0⟩, #[]⟩
noncomputable def g3D (P : Params) : Obj := ⟨.type "dict", none, .dict #[⟨PyData.keyHash P "__name__", .str "__name__" 165, .str "cpy313.stringprep" 391⟩, ⟨PyData.keyHash P "__doc__", .str "__doc__" 166, .none⟩, ⟨PyData.keyHash P "__package__", .str "__package__" 167, .none⟩, ⟨PyData.keyHash P "__loader__", .str "__loader__" 168, .builtin "__main__.__loader__#opaque"⟩, ⟨PyData.keyHash P "__spec__", .str "__spec__" 169, .none⟩, ⟨PyData.keyHash P "__annotations__", .str "__annotations__" 170, .ref 6⟩, ⟨PyData.keyHash P "__builtins__", .str "__builtins__" 171, .ref 4⟩, ⟨PyData.keyHash P "__file__", .str "__file__" 173, .str "/claim/cut.py" 172⟩, ⟨PyData.keyHash P "__cached__", .str "__cached__" 174, .none⟩, ⟨PyData.keyHash P "_sre", .str "_sre" 275, .ref 12⟩, ⟨PyData.keyHash P "insort_right", .str "insort_right" 296, .ref 40⟩, ⟨PyData.keyHash P "bisect_right", .str "bisect_right" 310, .ref 49⟩, ⟨PyData.keyHash P "_parse_varint", .str "_parse_varint" 321, .ref 56⟩, ⟨PyData.keyHash P "_twin_re_1", .str "_twin_re_1" 339, .ref 61⟩, ⟨PyData.keyHash P "_twin_re_2", .str "_twin_re_2" 381, .ref 66⟩, ⟨PyData.keyHash P "CRLF", .str "CRLF" 383, .str ⟨#[13, 10]⟩ 382⟩, ⟨PyData.keyHash P "quotedata", .str "quotedata" 390, .ref 73⟩, ⟨PyData.keyHash P "b1_set", .str "b1_set" 452, .ref 81⟩, ⟨PyData.keyHash P "in_table_b1", .str "in_table_b1" 459, .ref 91⟩, ⟨PyData.keyHash P "b3_exceptions", .str "b3_exceptions" 2410, .ref 92⟩] 20, #[]⟩
noncomputable def l0 (P : Params) : List (Nat × Obj) := [(0, boot_o_0 P), (1, b1 P), (2, b2 P), (4, b4 P), (5, b5 P), (6, b6 P), (11, b11 P), (12, b12 P), (3, b3 P)]
noncomputable def la (P : Params) : List (Nat × Obj) := [(0, boot_o_0 P), (1, b1 P), (2, b2 P), (4, b4 P), (5, b5 P), (6, b6 P), (11, b11 P), (12, b12 P), (3, b3 P), (28, a28 P), (29, a29 P), (30, a30 P), (31, a31 P)]
noncomputable def lA (P : Params) : List (Nat × Obj) := [(0, boot_o_0 P), (1, b1 P), (2, b2 P), (4, b4 P), (5, b5 P), (6, b6 P), (11, b11 P), (12, b12 P), (28, a28 P), (30, a30 P), (31, a31 P), (3, g3A P), (29, g29A P), (32, o32 P), (33, o33 P), (34, o34 P), (35, o35 P), (36, o36 P), (37, o37 P), (38, o38 P), (39, o39 P), (40, o40 P), (41, o41 P), (42, o42 P), (43, o43 P), (44, o44 P), (45, o45 P), (46, o46 P), (47, o47 P), (48, o48 P), (49, o49 P), (50, o50 P), (51, o51 P), (52, o52 P), (53, o53 P), (54, o54 P), (55, o55 P), (56, o56 P), (57, o57 P), (58, o58 P), (59, o59 P), (60, o60 P), (61, o61 P), (62, o62 P), (63, o63 P), (64, o64 P), (65, o65 P), (66, o66 P), (67, o67 P), (68, o68 P), (69, o69 P), (70, o70 P), (71, o71 P), (72, o72 P), (73, o73 P)]
noncomputable def lB0 (P : Params) : List (Nat × Obj) := [(0, boot_o_0 P), (1, b1 P), (2, b2 P), (4, b4 P), (5, b5 P), (6, b6 P), (11, b11 P), (12, b12 P), (28, a28 P), (30, a30 P), (31, a31 P), (3, g3A P), (29, g29A P)]
noncomputable def lB (P : Params) : List (Nat × Obj) := [(0, boot_o_0 P), (1, b1 P), (2, b2 P), (4, b4 P), (5, b5 P), (6, b6 P), (11, b11 P), (12, b12 P), (28, a28 P), (30, a30 P), (31, a31 P), (3, g3B P), (29, g29A P), (74, o74 P), (75, o75 P), (76, o76 P), (77, o77 P), (78, o78 P), (79, o79 P), (80, o80 P), (81, o81 P), (82, o82 P), (83, o83 P), (84, o84 P)]
noncomputable def lC0 (P : Params) : List (Nat × Obj) := [(0, boot_o_0 P), (1, b1 P), (2, b2 P), (4, b4 P), (5, b5 P), (6, b6 P), (11, b11 P), (12, b12 P), (28, a28 P), (30, a30 P), (31, a31 P), (3, g3B P), (29, g29A P)]
noncomputable def lC (P : Params) : List (Nat × Obj) := [(0, boot_o_0 P), (1, b1 P), (2, b2 P), (4, b4 P), (5, b5 P), (6, b6 P), (11, b11 P), (12, b12 P), (28, a28 P), (30, a30 P), (31, a31 P), (3, g3C P), (29, g29C P), (85, o85 P), (86, o86 P), (87, o87 P), (88, o88 P), (89, o89 P), (90, o90 P), (91, o91 P)]
noncomputable def lD0 (P : Params) : List (Nat × Obj) := [(0, boot_o_0 P), (1, b1 P), (2, b2 P), (4, b4 P), (5, b5 P), (6, b6 P), (11, b11 P), (12, b12 P), (28, a28 P), (30, a30 P), (31, a31 P), (3, g3C P), (29, g29C P)]
noncomputable def lD (P : Params) : List (Nat × Obj) := [(0, boot_o_0 P), (1, b1 P), (2, b2 P), (4, b4 P), (5, b5 P), (6, b6 P), (11, b11 P), (12, b12 P), (28, a28 P), (30, a30 P), (31, a31 P), (3, g3D P), (29, g29C P)]
noncomputable def lF (P : Params) : List (Nat × Obj) := [(0, boot_o_0 P), (1, b1 P), (2, b2 P), (4, b4 P), (5, b5 P), (6, b6 P), (11, b11 P), (12, b12 P), (28, a28 P), (30, a30 P), (31, a31 P), (3, g3F P), (29, g29F P), (131, o131 P), (132, o132 P), (133, o133 P), (134, o134 P), (135, o135 P), (136, o136 P), (137, o137 P), (138, o138 P), (139, o139 P), (140, o140 P), (141, o141 P), (142, o142 P), (143, o143 P), (144, o144 P), (145, o145 P), (146, o146 P), (147, o147 P), (148, o148 P), (149, o149 P), (150, o150 P), (151, o151 P), (152, o152 P), (153, o153 P), (154, o154 P), (155, o155 P), (156, o156 P), (157, o157 P), (158, o158 P), (159, o159 P), (160, o160 P), (161, o161 P), (162, o162 P), (163, o163 P), (164, o164 P), (165, o165 P), (166, o166 P), (167, o167 P), (168, o168 P), (169, o169 P), (170, o170 P), (171, o171 P), (172, o172 P), (173, o173 P), (174, o174 P), (175, o175 P), (176, o176 P), (177, o177 P), (178, o178 P), (179, o179 P), (180, o180 P), (181, o181 P), (182, o182 P)]
noncomputable def cA (P : Params) : List (Nat × Obj) := [(0, boot_o_0 P), (1, b1 P), (2, b2 P), (4, b4 P), (5, b5 P), (6, b6 P), (11, b11 P), (12, b12 P), (28, a28 P), (30, a30 P), (31, a31 P), (3, g3A P), (29, g29A P), (32, o32 P), (33, o33 P), (34, o34 P), (35, o35 P), (36, o36 P), (37, o37 P), (38, o38 P), (39, o39 P), (40, o40 P), (41, o41 P), (42, o42 P), (43, o43 P), (44, o44 P), (45, o45 P), (46, o46 P), (47, o47 P), (48, o48 P), (49, o49 P), (50, o50 P), (51, o51 P), (52, o52 P), (53, o53 P), (54, o54 P), (55, o55 P), (56, o56 P), (57, o57 P), (58, o58 P), (59, o59 P), (60, o60 P), (61, o61 P), (62, o62 P), (63, o63 P), (64, o64 P), (65, o65 P), (66, o66 P), (67, o67 P), (68, o68 P), (69, o69 P), (70, o70 P), (71, o71 P), (72, o72 P), (73, o73 P)]
noncomputable def cB (P : Params) : List (Nat × Obj) := [(0, boot_o_0 P), (1, b1 P), (2, b2 P), (4, b4 P), (5, b5 P), (6, b6 P), (11, b11 P), (12, b12 P), (28, a28 P), (30, a30 P), (31, a31 P), (3, g3B P), (29, g29A P), (32, o32 P), (33, o33 P), (34, o34 P), (35, o35 P), (36, o36 P), (37, o37 P), (38, o38 P), (39, o39 P), (40, o40 P), (41, o41 P), (42, o42 P), (43, o43 P), (44, o44 P), (45, o45 P), (46, o46 P), (47, o47 P), (48, o48 P), (49, o49 P), (50, o50 P), (51, o51 P), (52, o52 P), (53, o53 P), (54, o54 P), (55, o55 P), (56, o56 P), (57, o57 P), (58, o58 P), (59, o59 P), (60, o60 P), (61, o61 P), (62, o62 P), (63, o63 P), (64, o64 P), (65, o65 P), (66, o66 P), (67, o67 P), (68, o68 P), (69, o69 P), (70, o70 P), (71, o71 P), (72, o72 P), (73, o73 P), (74, o74 P), (75, o75 P), (76, o76 P), (77, o77 P), (78, o78 P), (79, o79 P), (80, o80 P), (81, o81 P), (82, o82 P), (83, o83 P), (84, o84 P)]
noncomputable def cC (P : Params) : List (Nat × Obj) := [(0, boot_o_0 P), (1, b1 P), (2, b2 P), (4, b4 P), (5, b5 P), (6, b6 P), (11, b11 P), (12, b12 P), (28, a28 P), (30, a30 P), (31, a31 P), (3, g3C P), (29, g29C P), (32, o32 P), (33, o33 P), (34, o34 P), (35, o35 P), (36, o36 P), (37, o37 P), (38, o38 P), (39, o39 P), (40, o40 P), (41, o41 P), (42, o42 P), (43, o43 P), (44, o44 P), (45, o45 P), (46, o46 P), (47, o47 P), (48, o48 P), (49, o49 P), (50, o50 P), (51, o51 P), (52, o52 P), (53, o53 P), (54, o54 P), (55, o55 P), (56, o56 P), (57, o57 P), (58, o58 P), (59, o59 P), (60, o60 P), (61, o61 P), (62, o62 P), (63, o63 P), (64, o64 P), (65, o65 P), (66, o66 P), (67, o67 P), (68, o68 P), (69, o69 P), (70, o70 P), (71, o71 P), (72, o72 P), (73, o73 P), (74, o74 P), (75, o75 P), (76, o76 P), (77, o77 P), (78, o78 P), (79, o79 P), (80, o80 P), (81, o81 P), (82, o82 P), (83, o83 P), (84, o84 P), (85, o85 P), (86, o86 P), (87, o87 P), (88, o88 P), (89, o89 P), (90, o90 P), (91, o91 P)]
noncomputable def cD (P : Params) : List (Nat × Obj) := [(0, boot_o_0 P), (1, b1 P), (2, b2 P), (4, b4 P), (5, b5 P), (6, b6 P), (11, b11 P), (12, b12 P), (28, a28 P), (30, a30 P), (31, a31 P), (3, g3D P), (29, g29C P), (32, o32 P), (33, o33 P), (34, o34 P), (35, o35 P), (36, o36 P), (37, o37 P), (38, o38 P), (39, o39 P), (40, o40 P), (41, o41 P), (42, o42 P), (43, o43 P), (44, o44 P), (45, o45 P), (46, o46 P), (47, o47 P), (48, o48 P), (49, o49 P), (50, o50 P), (51, o51 P), (52, o52 P), (53, o53 P), (54, o54 P), (55, o55 P), (56, o56 P), (57, o57 P), (58, o58 P), (59, o59 P), (60, o60 P), (61, o61 P), (62, o62 P), (63, o63 P), (64, o64 P), (65, o65 P), (66, o66 P), (67, o67 P), (68, o68 P), (69, o69 P), (70, o70 P), (71, o71 P), (72, o72 P), (73, o73 P), (74, o74 P), (75, o75 P), (76, o76 P), (77, o77 P), (78, o78 P), (79, o79 P), (80, o80 P), (81, o81 P), (82, o82 P), (83, o83 P), (84, o84 P), (85, o85 P), (86, o86 P), (87, o87 P), (88, o88 P), (89, o89 P), (90, o90 P), (91, o91 P)]
noncomputable def cF (P : Params) : List (Nat × Obj) := [(0, boot_o_0 P), (1, b1 P), (2, b2 P), (4, b4 P), (5, b5 P), (6, b6 P), (11, b11 P), (12, b12 P), (28, a28 P), (30, a30 P), (31, a31 P), (3, g3F P), (29, g29F P), (32, o32 P), (33, o33 P), (34, o34 P), (35, o35 P), (36, o36 P), (37, o37 P), (38, o38 P), (39, o39 P), (40, o40 P), (41, o41 P), (42, o42 P), (43, o43 P), (44, o44 P), (45, o45 P), (46, o46 P), (47, o47 P), (48, o48 P), (49, o49 P), (50, o50 P), (51, o51 P), (52, o52 P), (53, o53 P), (54, o54 P), (55, o55 P), (56, o56 P), (57, o57 P), (58, o58 P), (59, o59 P), (60, o60 P), (61, o61 P), (62, o62 P), (63, o63 P), (64, o64 P), (65, o65 P), (66, o66 P), (67, o67 P), (68, o68 P), (69, o69 P), (70, o70 P), (71, o71 P), (72, o72 P), (73, o73 P), (74, o74 P), (75, o75 P), (76, o76 P), (77, o77 P), (78, o78 P), (79, o79 P), (80, o80 P), (81, o81 P), (82, o82 P), (83, o83 P), (84, o84 P), (85, o85 P), (86, o86 P), (87, o87 P), (88, o88 P), (89, o89 P), (90, o90 P), (91, o91 P), (131, o131 P), (132, o132 P), (133, o133 P), (134, o134 P), (135, o135 P), (136, o136 P), (137, o137 P), (138, o138 P), (139, o139 P), (140, o140 P), (141, o141 P), (142, o142 P), (143, o143 P), (144, o144 P), (145, o145 P), (146, o146 P), (147, o147 P), (148, o148 P), (149, o149 P), (150, o150 P), (151, o151 P), (152, o152 P), (153, o153 P), (154, o154 P), (155, o155 P), (156, o156 P), (157, o157 P), (158, o158 P), (159, o159 P), (160, o160 P), (161, o161 P), (162, o162 P), (163, o163 P), (164, o164 P), (165, o165 P), (166, o166 P), (167, o167 P), (168, o168 P), (169, o169 P), (170, o170 P), (171, o171 P), (172, o172 P), (173, o173 P), (174, o174 P), (175, o175 P), (176, o176 P), (177, o177 P), (178, o178 P), (179, o179 P), (180, o180 P), (181, o181 P), (182, o182 P)]
end Mine.Ev
end E3_text
section E4_text
open PySem PySem.W PySem.Calls PyProof.Rows
set_option maxRecDepth 100000
namespace Mine.Ev
noncomputable def exQ : List Stmt → Env → Sem Flow := PySem.W.Fast.tw12563942051412417395
theorem exQ_eq : execs = exQ := PySem.W.Fast.te12563942051412417395

theorem raw0 (w : World) (x : Nat → Obj) (life : Life) (drawn : Drawn) (os : OsState) (p : Pos) :
    ev denQ ⟨pw, w.params⟩ 200 G0 (PySem.W.Fast.tw17154629097778926822 pw.main pw.main.file none) p (sp (ov (l0 w.params) x) 28 life drawn 276 os) = some (.ok (.ref 30), p, sp (ov ((28, a28 w.params) :: (29, a29 w.params) :: (30, a30 w.params) :: l0 w.params) x) 31 life drawn 282 os) := by
  kernel_rfl
theorem raw1 (w : World) (x : Nat → Obj) (life : Life) (drawn : Drawn) (os : OsState) (p : Pos) :
    ev denQ ⟨pw, w.params⟩ 200 G0 (newBodyFrame (.ref 30) mainNs mainNs) p (sp (ov ((28, a28 w.params) :: (29, a29 w.params) :: (30, a30 w.params) :: l0 w.params) x) 31 life drawn 282 os) = some (.ok 31, p, sp (ov (la w.params) x) 32 life drawn 282 os) := by
  kernel_rfl

theorem rawA (w : World) (x : Nat → Obj) (life : Life) (drawn : Drawn) (os : OsState) (p : Pos) :
    ev denQ ⟨pw, w.params⟩ 2000 Gb (exQ [stm 1, stm 2, stm 3, stm 4, stm 5, stm 6, stm 7, stm 8, stm 9, stm 10, stm 11] env0) p (sp (ov (la w.params) x) 32 life drawn 282 os) = some (.ok .next, ⟨44, 0, 44, 8⟩, sp (ov (lA w.params) x) 74 life drawn 393 os) := by
  kernel_rfl

theorem rawC (w : World) (x : Nat → Obj) (life : Life) (drawn : Drawn) (os : OsState) (p : Pos) :
    ev denQ ⟨pw, w.params⟩ 2000 Gb (exQ [stm 13] env0) p (sp (ov (lC0 w.params) x) 85 life drawn 453 os) = some (.ok .next, ⟨46, 0, 47, 30⟩, sp (ov (lC w.params) x) 92 life drawn 460 os) := by
  kernel_rfl
theorem rawF (w : World) (x : Nat → Obj) (life : Life) (drawn : Drawn) (os : OsState) (p : Pos) :
    ev denQ ⟨pw, w.params⟩ 2000 Gb (exQ [stm 15, stm 16, stm 17, stm 18, stm 19, stm 20, stm 21, stm 22, stm 23] env0) p (sp (ov (lD w.params) x) 131 life drawn 2411 os) = some (.ok .next, ⟨124, 0, 144, 15⟩, sp (ov (lF w.params) x) 183 life drawn 2488 os) := by
  kernel_rfl
/-- b3_exceptions is stored -/
theorem rawD (w : World) (x : Nat → Obj) (life : Life) (drawn : Drawn) (os : OsState) (p : Pos) :
    ev denQ ⟨pw, w.params⟩ 2000 Gb (PySem.W.Fast.tw7998390705656384164 env0 "b3_exceptions" (.ref 92)) p (sp (ov (lD0 w.params) x) 131 life drawn 2410 os) = some (.ok (), p, sp (ov (lD w.params) x) 131 life drawn 2411 os) := by
  kernel_rfl
end Mine.Ev
end E4_text
section E5_text
open PySem PySem.W PySem.Calls PyProof.Rows
set_option maxRecDepth 100000
namespace Mine.Ev
/-- the run of b1_set's display, in one world -/
noncomputable def RunB (w : World) : Prop := ∀ (x : Nat → Obj) (life : Life) (drawn : Drawn) (os : OsState) (p : Pos),
    ev denQ ⟨pw, w.params⟩ 3000 Gb (exQ [stm 12] env0) p (sp (ov (lB0 w.params) x) 74 life drawn 393 os) = some (.ok .next, ⟨45, 0, 45, 6⟩, sp (ov (lB w.params) x) 85 life drawn 453 os)
theorem rawB_no (w : World) : RunB (w.withFollow "special-get-raises" false) := by
  intro x life drawn os p
  kernel_rfl
theorem rawB_yes (w : World) : RunB (w.withFollow "special-get-raises" true) := by
  intro x life drawn os p
  kernel_rfl
theorem rawB (w : World) : ∀ (x : Nat → Obj) (life : Life) (drawn : Drawn) (os : OsState) (p : Pos),
    ev denQ ⟨pw, w.params⟩ 3000 Gb (exQ [stm 12] env0) p (sp (ov (lB0 w.params) x) 74 life drawn 393 os) = some (.ok .next, ⟨45, 0, 45, 6⟩, sp (ov (lB w.params) x) 85 life drawn 453 os) :=
  byRow2 "special-get-raises" (P := RunB) rawB_no rawB_yes w
end Mine.Ev
end E5_text
section E6_text
open PySem PySem.W PySem.Calls PyProof.Rows
set_option maxRecDepth 100000
namespace Mine.Ev
/-- what is asked of the state behind the opening -/
noncomputable def obs0 (s : Shared) : Nat × Nat × Nat × List (Option Obj) × Bool := (s.heap.objs.size, s.gens.size, s.toks, [0, 1, 2, 4, 5, 6, 11, 12, 3].map (fun a => s.heap.objs[a]?), s.heap.objs.toList.all fun o => match o.data with | .freed => false | _ => true)
theorem raw_open (w : World) : ((PySem.W.Fast.tw10274390034422433532 PySem.W.Fast.tw14364793385576792824 (opening pw) w 3000 (start (opening pw)).1 (start (opening pw)).2).bind (PySem.W.Fast.tw14289696077712309145 pw)).map obs0 =
    some (28, 0, 276, (l0 w.params).map (fun p => some p.2), true) := by
  kernel_rfl
theorem open_obs (w : World) : ∃ s s₀, importEnds table (opening pw) w 3000 (start (opening pw)).1 (start (opening pw)).2 = some s ∧ fenceModules? pw s = some s₀ ∧ obs0 s₀ = (28, 0, 276, (l0 w.params).map (fun p => some p.2), true) := by
  have h := raw_open w
  rw [← PySem.W.Fast.te10274390034422433532, ← PySem.W.Fast.te14364793385576792824, ← PySem.W.Fast.te14289696077712309145, ← table_eq_tree] at h
  obtain ⟨s₀, h1, h2⟩ := Option.map_eq_some_iff.mp h
  obtain ⟨s, h3, h4⟩ := Option.bind_eq_some_iff.mp h1
  exact ⟨s, s₀, h3, h4, h2⟩
end Mine.Ev
end E6_text
section D1_text
open PySem PySem.W PySem.Calls PyProof.Rows
set_option maxRecDepth 100000
namespace Mine.Di

inductive KV : List (Int × Value) → List (Int × Str) → Prop
  | nil : KV [] []
  | cons (k : Int) (x : Str) (t : Tok) {l : List (Int × Value)} {m : List (Int × Str)} : KV l m → KV ((k, .str x t) :: l) ((k, x) :: m)
theorem KV.append {l l' : List (Int × Value)} {m m' : List (Int × Str)} (a : KV l m) (b : KV l' m') : KV (l ++ l') (m ++ m') := by
  induction a with
  | nil => exact b
  | cons k x t _ ih => exact .cons k x t ih
theorem KV.keys {l : List (Int × Value)} {m : List (Int × Str)} (a : KV l m) : l.map (·.1) = m.map (·.1) := by
  induction a with
  | nil => rfl
  | cons k x t _ ih => simp [ih]
theorem KV.length {l : List (Int × Value)} {m : List (Int × Str)} (a : KV l m) : l.length = m.length := by
  have := congrArg List.length a.keys
  simpa using this
theorem stored_fresh {acc : List (Int × Value)} {k : Int} {v : Value} (h : k ∉ acc.map (·.1)) : stored acc k v = acc ++ [(k, v)] := by
  have : ¬ (acc.any fun x => decide (x.1 = k)) = true := by
    rw [List.any_eq_true]
    rintro ⟨x, hx, he⟩
    exact h (List.mem_map.mpr ⟨x, hx, of_decide_eq_true he⟩)
  rw [stored, if_neg this]

section
variable (prog : Program) (w : World)
noncomputable def Gives (p : Sem Value × Sem Value) (d : Int × Str) : Prop :=
  (∀ (A : Around) (E : Value → Shared → Prop) (s : Shared) (Q : Value → Shared → Prop), Q (.int d.1 s.toks) { s with toks := s.toks + 1 } → wpAny (model prog w) A p.1 Q E s) ∧
  (∀ (A : Around) (E : Value → Shared → Prop) (s : Shared) (Q : Value → Shared → Prop), Q (.str d.2 s.toks) { s with toks := s.toks + 1 } → wpAny (model prog w) A p.2 Q E s)
inductive GivesAll : List (Sem Value × Sem Value) → List (Int × Str) → Prop
  | nil : GivesAll [] []
  | cons {p : Sem Value × Sem Value} {d : Int × Str} {ps : List (Sem Value × Sem Value)} {ds : List (Int × Str)} : Gives prog w p d → GivesAll ps ds → GivesAll (p :: ps) (d :: ds)
end
section
variable {prog : Program} {w : World} {A : Around} {E : Value → Shared → Prop}
theorem GivesAll.length {ps : List (Sem Value × Sem Value)} {ds : List (Int × Str)} (g : GivesAll prog w ps ds) : ps.length = ds.length := by
  induction g with
  | nil => rfl
  | cons _ _ ih => simp [ih]
theorem GivesAll.take {ps : List (Sem Value × Sem Value)} {ds : List (Int × Str)} (g : GivesAll prog w ps ds) : ∀ n, GivesAll prog w (ps.take n) (ds.take n) := by
  induction g with
  | nil => intro n; simpa using GivesAll.nil
  | cons h _ ih =>
    intro n
    cases n with
    | zero => exact .nil
    | succ n => exact .cons h (ih n)
theorem GivesAll.drop {ps : List (Sem Value × Sem Value)} {ds : List (Int × Str)} (g : GivesAll prog w ps ds) : ∀ n, GivesAll prog w (ps.drop n) (ds.drop n) := by
  induction g with
  | nil => intro n; simpa using GivesAll.nil
  | cons h g ih =>
    intro n
    cases n with
    | zero => exact .cons h g
    | succ n => exact ih n

theorem wp_each {d : Addr} : ∀ {ps : List (Sem Value × Sem Value)} {ds : List (Int × Str)}, GivesAll prog w ps ds → ∀ (acc : List (Int × Value)) (s : Shared) (Q : PUnit → Shared → Prop), s.heap.DictOf (intKind prog w) d acc →
    (acc.map (·.1) ++ ds.map (·.1)).Nodup → acc.length + ds.length ≤ sizeLine →
    (∀ h' kvs, KV kvs ds → h'.DictOf (intKind prog w) d (acc ++ kvs) → Heap.SameBut d s.heap h' → Q PUnit.unit { s with heap := h', toks := s.toks + 3 * ds.length }) →
    wpAny (model prog w) A (forIn ps PUnit.unit fun (x : Sem Value × Sem Value) (_ : PUnit) => (do
      let kv ← x.1
      let vv ← holding [kv] x.2
      holding [kv, vv] (dictSet d kv vv)
      pure (ForInStep.yield PUnit.unit) : Sem (ForInStep PUnit))) Q E s
  | _, _, .nil, acc, s, Q, hm, _, _, hQ => by
    rw [List.forIn_nil]
    exact wpAny_pure (by simpa using hQ s.heap [] .nil (by simpa using hm) (Heap.SameBut.refl _ _))
  | p :: ps, (k, x) :: ds, .cons g gs, acc, s, Q, hm, hn, hsz, hQ => by
    rw [List.forIn_cons]
    have hk : k ∉ acc.map (·.1) := by
      intro hm
      rw [List.nodup_append] at hn
      exact hn.2.2 k hm k (by simp) rfl
    refine wpAny_bind (wpAny_bind (g.1 A E s _ ?_))
    refine wpAny_bind (wpAny_holding (g.2 A E _ _ ?_))
    refine wpAny_bind (wpAny_holding (wpAny_dictSet_pairs (knd := intKind prog w) (k := k) (intKind_is prog w k _) hm (fun h₁ hm₁ hs₁ => wpAny_pure ?_) (by simp at hsz; omega)))
    rw [stored_fresh hk] at hm₁
    refine wp_each gs (acc ++ [(k, _)]) _ Q hm₁ (by simpa using hn) (by simp at hsz ⊢; omega) fun h' kvs hkv hm' hs' => ?_
    have := hQ h' ((k, .str x (s.toks + 1)) :: kvs) (.cons _ _ _ hkv) (by simpa using hm') (hs₁.trans hs')
    rw [show s.toks + 3 * ((k, x) :: ds).length = s.toks + 1 + 1 + 1 + 3 * ds.length by simp; omega] at this
    exact this

theorem wp_evalPairs {ps : List (Sem Value × Sem Value)} {ds : List (Int × Str)} (g : GivesAll prog w ps ds) : ∀ (s : Shared) (Q : List (Value × Value) → Shared → Prop),
    (∀ vs kvs, Carries (intKind prog w) vs kvs → KV kvs ds → vs.length = ds.length → Q vs { s with toks := s.toks + 2 * ds.length }) → wpAny (model prog w) A (evalPairs ps) Q E s := by
  induction g with
  | nil => exact fun s Q hQ => evalPairs_nil (hQ [] [] trivial .nil rfl)
  | @cons p d ps ds g gs ih =>
    obtain ⟨k, x⟩ := d
    intro s Q hQ
    refine evalPairs_cons (g.1 A E s _ (g.2 A E _ _ (ih _ _ fun vs kvs hc hk hl => ?_)))
    have := hQ ((.int k s.toks, .str x (s.toks + 1)) :: vs) ((k, .str x (s.toks + 1)) :: kvs) ⟨intKind_is prog w k _, rfl, hc⟩ (.cons _ _ _ hk) (by simp [hl])
    rw [show s.toks + 2 * ((k, x) :: ds).length = s.toks + 1 + 1 + 2 * ds.length by simp; omega] at this
    exact this

/-- a part of a display -/
theorem wp_sub {ps : List (Sem Value × Sem Value)} {ds : List (Int × Str)} (g : GivesAll prog w ps ds) {s : Shared} {Q : Addr → Shared → Prop} (hn : (ds.map (·.1)).Nodup) (hlen : ds.length ≤ 17)
    (hQ : ∀ h' kvs, KV kvs ds → h'.DictOf (intKind prog w) s.heap.objs.size kvs → (∀ b o, s.heap.get? b = some o → h'.get? b = some o) → h'.objs.size = s.heap.objs.size + 1 → Q s.heap.objs.size { s with heap := h', toks := s.toks + 3 * ds.length }) :
    wpAny (model prog w) A (subDict ps) Q E s := by
  have hpl := g.length
  have new : ({ s with heap := s.heap.push { cls := .type "dict", data := .dict #[] } } : Shared).heap.DictOf (intKind prog w) s.heap.objs.size [] :=
    ⟨_, #[], 0, Heap.get?_push_size _ rfl, ⟨rfl, rfl, rfl⟩, rfl, fun _ he => by simp at he, .nil, List.nodup_nil⟩
  have keep : ∀ (h' : Heap), Heap.SameBut s.heap.objs.size (s.heap.push { cls := .type "dict", data := .dict #[] }) h' → (∀ b o, s.heap.get? b = some o → h'.get? b = some o) ∧ h'.objs.size = s.heap.objs.size + 1 := by
    intro h' hs
    refine ⟨fun b o e => ?_, hs.1.trans (Heap.size_push _ _)⟩
    rw [hs.2 b (Nat.ne_of_lt (Heap.lt_size e))]
    exact Heap.get?_push_of_some _ e
  by_cases h15 : ps.length ≤ 15
  · refine wpAny_subDict (knd := intKind prog w) h15 (wp_evalPairs g _ _ fun vs kvs hc hk hl => ⟨kvs, hc, new, fun h' hm hs => ?_⟩)
    have hm2 : merged [] kvs = kvs := merged_nil_of_nodup kvs (by rw [hk.keys]; exact hn)
    rw [hm2] at hm
    obtain ⟨k1, k2⟩ := keep h' hs
    have := hQ h' kvs hk hm k1 k2
    rw [show s.toks + 3 * ds.length = s.toks + 2 * ds.length + vs.length by omega] at this
    exact this
  · unfold subDict
    refine wpAny_bind (wpAny_alloc ?_)
    refine wpAny_bind (wpAny_holding ?_)
    rw [if_neg h15]
    refine wpAny_bind (wpAny_rule ?_)
    refine wpAny_bind (wp_each g [] _ _ new (by simpa using hn) (by rw [sizeLine_eq]; simp; omega) fun h' kvs hk hm hs => ?_)
    obtain ⟨k1, k2⟩ := keep h' hs
    exact wpAny_pure (wpAny_pure (hQ h' kvs hk (by simpa using hm) k1 k2))
end
end Mine.Di
end D1_text
section D2_text
open PySem PySem.W PySem.Calls PyProof.Rows
set_option maxRecDepth 100000
namespace Mine.Di
section
variable {prog : Program} {w : World} {A : Around} {E : Value → Shared → Prop} {s : Shared}

/-- dictPut of a new key -/
theorem wp_put {d : Addr} {kvs : List (Int × Value)} {k : Int} {key v : Value} {Q : Unit → Shared → Prop} (hkey : (intKind prog w).is k key = true) (hm : s.heap.DictOf (intKind prog w) d kvs) (hnot : k ∉ kvs.map (·.1))
    (hQ : ∀ h', h'.DictOf (intKind prog w) d (kvs ++ [(k, v)]) → Heap.SameBut d s.heap h' → Q () { s with heap := h' })
    (hsz : kvs.length ≤ sizeLine) :
    wpAny (model prog w) A (dictPut d ((intKind prog w).hash k) key v) Q E s := by
  obtain ⟨o, es, ep, ho, hc, hd, hk, hp, hn⟩ := hm
  have hes : es.size ≤ sizeLine := by
    have e1 := hp.length
    have e2 : es.toList.length = es.size := by simp
    omega
  unfold dictPut
  refine wpAny_bind (wpAny_dictFind_of hkey ho hd hk ?_)
  have hidx : (es.findIdx? fun e => (intKind prog w).is k e.key) = kvs.findIdx? fun kv => decide (kv.1 = k) := by
    rw [← hp.findIdx k]; obtain ⟨l⟩ := es; simp
  have hnone : (es.findIdx? fun e => (intKind prog w).is k e.key) = none := by
    rw [hidx, List.findIdx?_eq_none_iff]
    intro kv hkv
    refine decide_eq_false fun e => hnot ?_
    exact e ▸ List.mem_map_of_mem hkv
  rw [hnone]
  refine wpAny_updateDictKeys (hz := hes) ho hd (hQ _ ⟨_, _, ep + 1, Heap.get?_update_self _ ho (Obj.isFreed_of_dict (Obj.data_mapDictKeys hd _)),
      hc.mapDictKeys _, Obj.data_mapDictKeys hd _, hk.push hkey _, ?_, ?_⟩ (Heap.SameBut.update ..))
  · have := hp.append hkey ((intKind prog w).hash k) v
    obtain ⟨l⟩ := es
    simpa using this
  · rw [List.map_append, List.nodup_append]
    refine ⟨hn, by simp, ?_⟩
    intro a ha b hb
    simp only [List.map_cons, List.map_nil, List.mem_singleton] at hb
    subst hb
    exact fun e => hnot (e ▸ ha)

/-- a part is put behind the display's first -/
theorem wp_merge {d o : Addr} {kvs more : List (Int × Value)} {Q : Unit → Shared → Prop} (hdo : d ≠ o) (hoS : (o == sysModules) = false)
    (hd : s.heap.DictOf (intKind prog w) d kvs) (ho : s.heap.DictOf (intKind prog w) o more) (hnn : (kvs.map (·.1) ++ more.map (·.1)).Nodup) (hne : kvs ≠ [])
    (hQ : ∀ h', h'.DictOf (intKind prog w) d (kvs ++ more) → Heap.SameBut d s.heap h' → Q () { s with heap := h' })
    (hsz : kvs.length + more.length ≤ sizeLine) :
    wpAny (model prog w) A (mergeMapping d (.ref o) false) Q E s := by
  have hoT : s.TypeIs (.ref o) "dict" := by
    obtain ⟨oo, _, _, hoo, hco, _⟩ := ho
    exact ⟨oo, hoo, hco.1⟩
  obtain ⟨od, esd, epd, hod, hcd, hdd, hkd, hpd, hnd⟩ := id hd
  obtain ⟨oo, eso, epo, hoo, hco, hdo', hko, hpo, hno⟩ := id ho
  have hlen : more.length = eso.size := by rw [← hpo.length]; simp
  have hesd : esd.isEmpty = false := by
    rw [Array.isEmpty_eq_false_iff]
    rintro rfl
    have := hpd.length
    exact hne (List.length_eq_zero_iff.mp (by simpa using this.symm))
  obtain ⟨V, hV⟩ : ∃ V : List Nat → Shared → Prop, ∀ rest s', V rest s' ↔ (∃ h' i, s' = { s with heap := h' } ∧ rest = List.range' i (eso.size - i) ∧ i ≤ eso.size ∧ h'.DictOf (intKind prog w) d (kvs ++ more.take i) ∧ h'.get? o = some oo ∧ Heap.SameBut d s.heap h') := ⟨_, fun _ _ => Iff.rfl⟩
  unfold mergeMapping
  refine wpAny_bind (wpAny_isInstance hoT isSubtype_dict_dict ?_)
  simp only [if_true]
  refine wpAny_bind (wpAny_specialOf hoT F.slot_dict_iter.lookup ?_)
  simp only [beq_self_eq_true]
  refine wpAny_bind (wpAny_pure ?_)
  dsimp only
  rw [if_neg (by rw [hoS]; exact Bool.false_ne_true)]
  refine wpAny_bind (wpAny_dictEntries hod hdd ?_)
  rw [if_neg (by rw [hesd]; exact Bool.false_ne_true)]
  refine wpAny_bind (wpAny_dictEntries hoo hdo' ?_)
  refine wpAny_bind (wpAny_dictEpoch hoo hdo' ?_)
  refine wpAny_bind ?_
  rw [List.range_eq_range']
  simp only [Bool.false_eq_true, if_false]
  refine wpAny_forIn_list _
    (fun rest _ s' => V rest s')
    _ ?_ ?_ _ _ ((hV _ _).mpr ⟨s.heap, 0, rfl, by simp, Nat.zero_le _, by simpa using hd, hoo, Heap.SameBut.refl _ _⟩)
  · rintro x rest b s' hVk
    obtain ⟨h', i, rfl, hr, hi, hd', hoo', hs'⟩ := (hV _ _).mp hVk
    have hlt : i < eso.size := by
      rcases Nat.lt_or_ge i eso.size with h | h
      · exact h
      · rw [Nat.sub_eq_zero_of_le h] at hr; simp at hr
    obtain ⟨rfl, hrest⟩ : x = i ∧ rest = List.range' (i + 1) (eso.size - (i + 1)) := by
      have e : eso.size - i = (eso.size - (i + 1)) + 1 := by omega
      rw [e, List.range'_succ] at hr
      injection hr with h1 h2
      exact ⟨h1, h2⟩
    refine wpAny_bind (wpAny_dictEntries hoo' hdo' ?_)
    rw [Array.getElem?_eq_getElem hlt]
    obtain ⟨kv, hkv⟩ : ∃ kv, more[x]? = some kv := ⟨more[x]'(by rw [hlen]; exact hlt), List.getElem?_eq_getElem _⟩
    obtain ⟨k, v⟩ := kv
    obtain ⟨hkey, hval⟩ := hpo.get? (e := eso[x]) (by simp [hlt]) hkv
    obtain ⟨k', hkey', hhash⟩ := hko eso[x] (Array.getElem_mem hlt)
    obtain rfl : k' = k := (intKind prog w).inj _ _ _ hkey' hkey
    dsimp only
    rw [hhash, hval]
    have hfresh : k' ∉ (kvs ++ more.take x).map (·.1) := by
      intro hm
      have hsplit : more = more.take x ++ (k', v) :: more.drop (x + 1) := by
        have hx : x < more.length := by rw [hlen]; exact hlt
        have e1 : more[x] = (k', v) := by
          have := List.getElem?_eq_getElem hx
          rw [this] at hkv
          exact Option.some.inj hkv
        rw [← e1, ← List.drop_eq_getElem_cons hx, List.take_append_drop]
      rw [hsplit, List.map_append, ← List.append_assoc, ← List.map_append, List.map_cons, List.nodup_append] at hnn
      exact hnn.2.2 k' hm k' (by simp) rfl
    have hsz' : (kvs ++ more.take x).length ≤ sizeLine := by
      rw [List.length_append, List.length_take]
      omega
    refine wpAny_bind (wpAny_holding (wp_put hkey hd' hfresh (fun h'' hd'' hs'' => ?_) hsz'))
    have hoo'' : h''.get? o = some oo := (hs''.2 o (Ne.symm hdo)).trans hoo'
    refine wpAny_bind (wpAny_dictEpoch hoo'' hdo' ?_)
    rw [if_neg (by simp)]
    refine wpAny_pure ((hV _ _).mpr ⟨h'', x + 1, rfl, hrest, hlt, ?_, hoo'', hs'.trans hs''⟩)
    rw [List.take_add_one, hkv, ← List.append_assoc]
    exact hd''
  · rintro b s' hVk
    obtain ⟨h', i, rfl, hr, hi, hd', hoo', hs'⟩ := (hV _ _).mp hVk
    have hin : i = eso.size := by
      rcases Nat.lt_or_ge i eso.size with h | h
      · have e : eso.size - i = (eso.size - (i + 1)) + 1 := by omega
        rw [e, List.range'_succ] at hr; exact nomatch hr
      · exact Nat.le_antisymm hi h
    refine wpAny_pure (hQ h' ?_ hs')
    rw [hin, ← hlen, List.take_length] at hd'
    exact hd'
end
end Mine.Di
end D2_text
section D3_text
open PySem PySem.W PySem.Calls PyProof.Rows
set_option maxRecDepth 100000
namespace Mine.Di
noncomputable def flushM (run : List (Sem Value × Sem Value)) (main : Option Addr) : Sem (Option Addr) :=
  if run.isEmpty = true then pure main else match main with
    | none => do
      let d ← subDict run
      pure (some d)
    | some d => do
      let sub ← holding [.ref d] (subDict run)
      (holding [.ref d, .ref sub] (mergeMapping d (.ref sub) false)).onRaise fun x => do
        let _ ← holding [.ref d, x] (runValue (.builtin "proto.let_go" {}))
        pure ()
      pure (some d)
noncomputable def turn (g : (Option (Sem Value) × Sem Value) → (Option Addr × List (Sem Value × Sem Value)) → Sem (ForInStep (Option Addr × List (Sem Value × Sem Value)))) (x : Option (Sem Value) × Sem Value) (s : Option Addr × List (Sem Value × Sem Value)) : Sem (ForInStep (Option Addr × List (Sem Value × Sem Value))) :=
  match x.1 with
  | some k => if ((s.2 ++ [(k, x.2)]).length == 17) = true then do
        let m ← flushM (s.2 ++ [(k, x.2)]) s.1
        pure (.yield (m, []))
      else pure (.yield (s.1, s.2 ++ [(k, x.2)]))
  | none => g x s
theorem display_eq (items : List (Option (Sem Value) × Sem Value)) : ∃ g, dictDisplay items = (do
    let r ← forIn items ((none, []) : Option Addr × List (Sem Value × Sem Value)) (turn g)
    let m ← flushM r.2 r.1
    match m with
    | some d => pure (.ref d)
    | none => newDict) := ⟨_, rfl⟩

section
variable {prog : Program} {w : World} {A : Around} {E : Value → Shared → Prop}
/-- where the display stands: ds are the pairs that are laid -/
noncomputable def Laid (w : World) (prog : Program) (s₀ : Shared) (ds : List (Int × Str)) (main : Option Addr) (s : Shared) : Prop :=
  ∃ h, s = { s₀ with heap := h, toks := s₀.toks + 3 * ds.length } ∧ (∀ b o, s₀.heap.get? b = some o → h.get? b = some o) ∧
    ((ds = [] ∧ main = none ∧ h = s₀.heap) ∨ (ds ≠ [] ∧ main = some s₀.heap.objs.size ∧ h.objs.size = s₀.heap.objs.size + (ds.length + 16) / 17 ∧ ∃ kvs, KV kvs ds ∧ h.DictOf (intKind prog w) s₀.heap.objs.size kvs))

theorem wp_flush {run : List (Sem Value × Sem Value)} {dr ds : List (Int × Str)} {main : Option Addr} {s₀ s : Shared} {Q : Option Addr → Shared → Prop} (g : GivesAll prog w run dr) (hl : Laid w prog s₀ ds main s) (h17 : 17 ∣ ds.length) (h0 : dr ≠ []) (hr : dr.length ≤ 17)
    (hn : (ds.map (·.1) ++ dr.map (·.1)).Nodup) (hsz : ds.length + dr.length ≤ 10000) (hS : sysModules < s₀.heap.objs.size)
    (hQ : ∀ m s', Laid w prog s₀ (ds ++ dr) m s' → Q m s') : wpAny (model prog w) A (flushM run main) Q E s := by
  have hrl := g.length
  have hre : run.isEmpty = false := by
    cases run with
    | nil => simp at hrl; exact absurd (List.length_eq_zero_iff.mp hrl.symm) h0
    | cons _ _ => rfl
  have hdn : (dr.map (·.1)).Nodup := (List.nodup_append.mp hn).2.1
  obtain ⟨h, rfl, hk, hc⟩ := hl
  unfold flushM
  rw [if_neg (by rw [hre]; exact Bool.false_ne_true)]
  rcases hc with ⟨rfl, rfl, rfl⟩ | ⟨hne, rfl, hsize, kvs, hkv, hd⟩
  · dsimp only
    refine wpAny_bind (wp_sub g hdn hr fun h' kvs' hkv' hd' hk' hsz' => wpAny_pure (hQ _ _ ⟨h', ?_, fun b o e => hk' _ _ e, .inr ⟨by simpa using h0, rfl, ?_, kvs', by simpa using hkv', hd'⟩⟩))
    · simp
    · rw [hsz', List.nil_append]
      show s₀.heap.objs.size + 1 = _
      have := List.length_pos_iff.mpr h0
      omega
  · dsimp only
    refine wpAny_bind (wpAny_holding (wp_sub g hdn hr fun h' kvs' hkv' hd' hk' hsz' => ?_))
    have hd1 : h'.DictOf (intKind prog w) s₀.heap.objs.size kvs := by
      obtain ⟨o, es, ep, e, r⟩ := hd
      exact ⟨o, es, ep, hk' _ _ e, r⟩
    have hlt : s₀.heap.objs.size < h.objs.size := by
      obtain ⟨o, es, ep, e, r⟩ := hd
      exact Heap.lt_size e
    have hkn : kvs ≠ [] := by
      rintro rfl
      have := hkv.length
      exact hne (List.length_eq_zero_iff.mp (by simpa using this.symm))
    refine wpAny_bind (wpAny_onRaise (E := E) (wpAny_mono (E := fun _ _ => False) (wpAny_holding (wp_merge (s := { s₀ with heap := h', toks := s₀.toks + 3 * ds.length + 3 * dr.length }) (Nat.ne_of_lt hlt) ?_ hd1 hd' (by rw [hkv.keys, hkv'.keys]; exact hn) hkn (fun h'' hd'' hs'' => wpAny_pure (hQ _ _ ⟨h'', ?_, ?_, .inr ⟨?_, rfl, ?_, kvs ++ kvs', hkv.append hkv', hd''⟩⟩)) ?_)) (fun _ _ x => x) fun _ _ x => x.elim))
    · exact beq_eq_false_iff_ne.mpr (Nat.ne_of_gt (Nat.lt_trans hS hlt))
    · rw [List.length_append, Nat.mul_add, ← Nat.add_assoc]
    · intro b o e
      rw [hs''.2 b (Nat.ne_of_lt (Heap.lt_size e))]
      exact hk' _ _ (hk _ _ e)
    · simp [hne]
    · rw [hs''.1]
      show h'.objs.size = _
      rw [hsz']
      show h.objs.size + 1 = _
      rw [hsize, List.length_append]
      have := List.length_pos_iff.mpr h0
      omega
    · have := hkv.length
      have := hkv'.length
      rw [sizeLine_eq]
      omega

noncomputable def items (ps : List (Sem Value × Sem Value)) : List (Option (Sem Value) × Sem Value) := ps.map fun p => (some p.1, p.2)
theorem wp_loop (g0) {s₀ : Shared} (hS : sysModules < s₀.heap.objs.size) : ∀ {ps : List (Sem Value × Sem Value)} {dp : List (Int × Str)}, GivesAll prog w ps dp → ∀ (run : List (Sem Value × Sem Value)) (dr ds : List (Int × Str)) (main : Option Addr) (s : Shared) (Q : Option Addr × List (Sem Value × Sem Value) → Shared → Prop),
    GivesAll prog w run dr → Laid w prog s₀ ds main s → 17 ∣ ds.length → dr.length < 17 → (((ds ++ dr) ++ dp).map (·.1)).Nodup → ds.length + dr.length + dp.length ≤ 10000 →
    (∀ main' run' ds' dr' s', GivesAll prog w run' dr' → Laid w prog s₀ ds' main' s' → 17 ∣ ds'.length → dr'.length < 17 → ds' ++ dr' = (ds ++ dr) ++ dp → Q (main', run') s') →
    wpAny (model prog w) A (forIn (items ps) (main, run) (turn g0)) Q E s
  | _, _, .nil, run, dr, ds, main, s, Q, gr, hl, h17, hr, hn, hsz, hQ => by
    show wpAny _ _ (forIn [] _ _) _ _ _
    rw [List.forIn_nil]
    exact wpAny_pure (hQ main run ds dr s gr hl h17 hr (by simp))
  | p :: ps, d :: dp, .cons g gs, run, dr, ds, main, s, Q, gr, hl, h17, hr, hn, hsz, hQ => by
    show wpAny _ _ (forIn ((some p.1, p.2) :: items ps) _ _) _ _ _
    rw [List.forIn_cons]
    have gr' : GivesAll prog w (run ++ [(p.1, p.2)]) (dr ++ [d]) := by
      clear hl hn hsz hQ hr
      induction gr with
      | nil => exact .cons g .nil
      | cons h _ ih => exact .cons h ih
    have hrl := gr.length
    have hsz : ds.length + dr.length + dp.length + 1 ≤ 10000 := by simpa [Nat.add_assoc] using hsz
    refine wpAny_bind ?_
    show wpAny _ _ (if ((run ++ [(p.1, p.2)]).length == 17) = true then (do
        let m ← flushM (run ++ [(p.1, p.2)]) main
        pure (.yield (m, [])) : Sem (ForInStep (Option Addr × List (Sem Value × Sem Value))))
      else pure (.yield (main, run ++ [(p.1, p.2)]))) _ _ _
    have happ : ((ds ++ dr) ++ d :: dp) = (ds ++ (dr ++ [d])) ++ dp := by simp
    rw [happ] at hn
    by_cases hfull : dr.length + 1 = 17
    · rw [if_pos (by simp [hrl, hfull])]
      refine wpAny_bind (wp_flush gr' hl h17 (by simp) (by simp; omega) ?_ (by simp; omega) hS fun m s' hl' => wpAny_pure ?_)
      · rw [List.map_append, List.map_append] at hn
        exact (List.nodup_append.mp hn).1
      · refine wp_loop g0 hS gs [] [] (ds ++ (dr ++ [d])) m s' Q .nil hl' ?_ (by simp) (by simpa using hn) (by simp; omega) fun main' run' ds' dr' s'' a1 a2 a3 a4 a5 => hQ main' run' ds' dr' s'' a1 a2 a3 a4 ?_
        · rw [List.length_append, List.length_append, List.length_singleton, hfull]
          exact Nat.dvd_add h17 (Nat.dvd_refl 17)
        · rw [a5, happ, List.append_nil]
    · rw [if_neg (by simp [hrl]; omega)]
      refine wpAny_pure ?_
      refine wp_loop g0 hS gs (run ++ [(p.1, p.2)]) (dr ++ [d]) ds main s Q gr' hl h17 (by simp; omega) hn (by simp; omega) fun main' run' ds' dr' s'' a1 a2 a3 a4 a5 => hQ main' run' ds' dr' s'' a1 a2 a3 a4 ?_
      rw [a5, happ]

/-- a dict's display: ints for texts, all keys apart -/
theorem wp_display {ps : List (Sem Value × Sem Value)} {ds : List (Int × Str)} (g : GivesAll prog w ps ds) {s : Shared} {Q : Value → Shared → Prop} (hne : ds ≠ []) (hn : (ds.map (·.1)).Nodup) (hsz : ds.length ≤ 10000) (hS : sysModules < s.heap.objs.size)
    (hQ : ∀ h' kvs, KV kvs ds → h'.DictOf (intKind prog w) s.heap.objs.size kvs → (∀ b o, s.heap.get? b = some o → h'.get? b = some o) → h'.objs.size = s.heap.objs.size + (ds.length + 16) / 17 → Q (.ref s.heap.objs.size) { s with heap := h', toks := s.toks + 3 * ds.length }) :
    wpAny (model prog w) A (dictDisplay (items ps)) Q E s := by
  obtain ⟨g0, e⟩ := display_eq (items ps)
  rw [e]
  have fin : ∀ m s', Laid w prog s ds m s' → wpAny (model prog w) A (match m with | some d => pure (.ref d) | none => newDict) Q E s' := by
    rintro m s' ⟨h, rfl, hk, ⟨rfl, _⟩ | ⟨_, rfl, hz, kvs, hkv, hd⟩⟩
    · exact absurd rfl hne
    · exact wpAny_pure (hQ h kvs hkv hd hk hz)
  refine wpAny_bind (wp_loop g0 hS g [] [] [] none s _ .nil ⟨s.heap, rfl, fun _ _ e => e, .inl ⟨rfl, rfl, rfl⟩⟩ (by simp) (by simp) (by simpa using hn) (by simpa using hsz) fun main' run' ds' dr' s' a1 a2 a3 a4 a5 => ?_)
  have a5 : ds' ++ dr' = ds := by simpa using a5
  subst a5
  cases dr' with
  | nil =>
    have hrl := a1.length
    have : run' = [] := List.length_eq_zero_iff.mp (by simpa using hrl)
    subst this
    rw [List.append_nil] at fin
    exact wpAny_bind (wpAny_pure (fin _ _ a2))
  | cons d dr' =>
    refine wpAny_bind (wp_flush a1 a2 a3 (by simp) (by omega) (by rw [← List.map_append]; exact hn) (by rw [← List.length_append]; exact hsz) hS fun m s'' hl => fin _ _ hl)
end
end Mine.Di
end D3_text
section Z0_text
open PySem PySem.W PySem.Calls PyProof.Rows
namespace Mine
/-- a post by a name: what stands below speaks of the name alone -/
theorem wpAny_hide {prog : Program} {w : World} {A : Around} {α : Type} {m : Sem α} {Q : α → Shared → Prop} {E : Value → Shared → Prop} {s : Shared}
    (h : ∀ (Q' : α → Shared → Prop) (E' : Value → Shared → Prop), (∀ a s', Q a s' → Q' a s') → (∀ e s', E e s' → E' e s') → wpAny (model prog w) A m Q' E' s) : wpAny (model prog w) A m Q E s :=
  h Q E (fun _ _ x => x) fun _ _ x => x
theorem wpAny_hideQ {prog : Program} {w : World} {A : Around} {α : Type} {m : Sem α} {Q : α → Shared → Prop} {E : Value → Shared → Prop} {s : Shared}
    (h : ∀ (Q' : α → Shared → Prop), (∀ a s', Q a s' → Q' a s') → wpAny (model prog w) A m Q' E s) : wpAny (model prog w) A m Q E s :=
  h Q fun _ _ x => x
end Mine
end Z0_text
section GrA_text
namespace Mine
namespace GR

/-! infinite words -/
noncomputable abbrev Word := Nat → Int

noncomputable def LexLT (u v : Word) : Prop := ∃ k, (∀ j, j < k → u j = v j) ∧ u k < v k
noncomputable def shift (c : Nat) (u : Word) : Word := fun k => u (k + c)
noncomputable def LexLE (u v : Word) : Prop := u = v ∨ LexLT u v

theorem LexLT.irrefl (u : Word) : ¬ LexLT u u := fun ⟨_, _, h⟩ => absurd h (Int.lt_irrefl _)
theorem LexLT.trans {u v w : Word} (a : LexLT u v) (b : LexLT v w) : LexLT u w := by
  obtain ⟨k, h1, h2⟩ := a
  obtain ⟨l, h3, h4⟩ := b
  rcases Nat.lt_trichotomy k l with h | h | h
  · exact ⟨k, fun j hj => (h1 j hj).trans (h3 j (by omega)), by rw [← h3 k h]; exact h2⟩
  · subst h; exact ⟨k, fun j hj => (h1 j hj).trans (h3 j hj), by omega⟩
  · exact ⟨l, fun j hj => (h1 j (by omega)).trans (h3 j hj), by rw [h1 l h]; exact h4⟩
theorem LexLT.asymm {u v : Word} (a : LexLT u v) : ¬ LexLT v u := fun b => (a.trans b).irrefl
theorem LexLE.antisymm {u v : Word} (a : LexLE u v) (b : LexLE v u) : u = v := by
  rcases a with a | a
  · exact a
  · rcases b with b | b
    · exact b.symm
    · exact absurd b a.asymm

/-! iterates of a map of places -/
noncomputable def it (o : Nat → Nat) : Nat → Nat → Nat
  | 0, i => i
  | k + 1, i => o (it o k i)
theorem it_add (o : Nat → Nat) (a : Nat) : ∀ (b i : Nat), it o (b + a) i = it o b (it o a i)
  | 0, i => by rw [Nat.zero_add]; rfl
  | b + 1, i => by rw [Nat.succ_add]; show o (it o (b + a) i) = o _; rw [it_add o a b i]
theorem it_succ' (o : Nat → Nat) (k i : Nat) : it o (k + 1) i = it o k (o i) := it_add o 1 k i

/-- o puts the places of r in the order of their figures, like ones as they come -/
structure Std (n : Nat) (r : Word) (o : Nat → Nat) : Prop where
  lt : ∀ i, i < n → o i < n
  mono : ∀ i j, i < j → j < n → r (o i) < r (o j) ∨ (r (o i) = r (o j) ∧ o i < o j)

theorem pigeon : ∀ (n m : Nat) (f : Nat → Nat), (∀ i, i < m → f i < n) → (∀ i j, i < j → j < m → f i ≠ f j) → m ≤ n
  | 0, m, f, h, _ => by
    rcases Nat.eq_zero_or_pos m with e | e
    · omega
    · exact absurd (h 0 e) (Nat.not_lt_zero _)
  | n + 1, 0, f, _, _ => Nat.zero_le _
  | n + 1, m + 1, f, h, inj => by
    refine Nat.succ_le_succ (pigeon n m (fun i => if f i = n then f m else f i) (fun i hi => ?_) fun i j hij hj => ?_)
    · show (if f i = n then f m else f i) < n
      have a := h i (by omega)
      have b := h m (by omega)
      have c := inj i m hi (by omega)
      split <;> omega
    · show (if f i = n then f m else f i) ≠ (if f j = n then f m else f j)
      have a := inj i j hij (by omega)
      have b := inj i m (by omega) (by omega)
      have c := inj j m hj (by omega)
      split <;> split <;> omega

section
variable {n : Nat} {r : Word} {o : Nat → Nat} (S : Std n r o)
include S

theorem Std.inj {i j : Nat} (hi : i < n) (hj : j < n) (h : o i = o j) : i = j := by
  rcases Nat.lt_trichotomy i j with q | q | q
  · have := S.mono i j q hj; rw [h] at this; omega
  · exact q
  · have := S.mono j i q hi; rw [h] at this; omega
theorem Std.it_lt {i : Nat} (hi : i < n) (k : Nat) : it o k i < n := by
  induction k with
  | zero => exact hi
  | succ k ih => exact S.lt _ ih
theorem Std.it_inj {i j : Nat} (hi : i < n) (hj : j < n) (k : Nat) (h : it o k i = it o k j) : i = j := by
  induction k with
  | zero => exact h
  | succ k ih => exact ih (S.inj (S.it_lt hi k) (S.it_lt hj k) h)

theorem Std.back {i : Nat} (hi : i < n) : ∃ k, 0 < k ∧ k ≤ n ∧ it o k i = i := by
  apply Classical.byContradiction
  intro no
  have : n + 1 ≤ n := pigeon n (n + 1) (fun k => it o k i) (fun k _ => S.it_lt hi k) fun a b hab hb e => by
    apply no
    refine ⟨b - a, by omega, by omega, ?_⟩
    have e2 : it o b i = it o a (it o (b - a) i) := by rw [← it_add]; congr 1; omega
    exact (S.it_inj hi (S.it_lt hi _) a ((show it o a i = it o b i from e).trans e2)).symm
  omega

/-- the ring's length at a place -/
theorem Std.period {i : Nat} (hi : i < n) : ∃ k, 0 < k ∧ k ≤ n ∧ it o k i = i ∧ ∀ j, 0 < j → j < k → it o j i ≠ i := by
  obtain ⟨k, h0, h1, h2⟩ := S.back hi
  have go : ∀ b, b ≤ k → (∃ q, 0 < q ∧ q ≤ b ∧ it o q i = i) → ∃ k, 0 < k ∧ k ≤ b ∧ it o k i = i ∧ ∀ j, 0 < j → j < k → it o j i ≠ i := by
    intro b
    induction b with
    | zero => intro _ ⟨q, a, b, _⟩; omega
    | succ b ih =>
      intro hb ⟨q, a, c, d⟩
      by_cases ex : ∃ q, 0 < q ∧ q ≤ b ∧ it o q i = i
      · obtain ⟨k', x1, x2, x3⟩ := ih (by omega) ex
        exact ⟨k', x1, by omega, x3⟩
      · refine ⟨q, a, c, d, fun j j0 jq e => ex ⟨j, j0, by omega, e⟩⟩
  obtain ⟨k', x1, x2, x3⟩ := go k (Nat.le_refl _) ⟨k, h0, Nat.le_refl _, h2⟩
  exact ⟨k', x1, by omega, x3⟩

theorem Std.step {i j : Nat} (hij : i < j) (hj : j < n) (K : Nat) : ((∀ k, k < K → r (it o (k + 1) i) = r (it o (k + 1) j)) ∧ it o K i < it o K j) ∨ ∃ k, k < K ∧ (∀ l, l < k → r (it o (l + 1) i) = r (it o (l + 1) j)) ∧ r (it o (k + 1) i) < r (it o (k + 1) j) := by
  induction K with
  | zero => exact .inl ⟨fun _ h => absurd h (Nat.not_lt_zero _), hij⟩
  | succ K ih =>
    rcases ih with ⟨a, b⟩ | ⟨k, a, b, c⟩
    · rcases S.mono _ _ b (S.it_lt hj K) with q | ⟨q1, q2⟩
      · exact .inr ⟨K, by omega, a, q⟩
      · refine .inl ⟨fun k hk => ?_, q2⟩
        rcases Nat.lt_or_ge k K with h | h
        · exact a k h
        · obtain rfl : k = K := by omega
          exact q1
    · exact .inr ⟨k, by omega, b, c⟩
end

/-- the endless word read from a place -/
noncomputable def U (r : Word) (o : Nat → Nat) (i : Nat) : Word := fun k => r (it o (k + 1) i)
theorem U_shift (r : Word) (o : Nat → Nat) (c i : Nat) : U r o (it o c i) = shift c (U r o i) := by
  funext k
  show r (it o (k + 1) (it o c i)) = r (it o (k + c + 1) i)
  rw [← it_add]; congr 2; omega

section
variable {n : Nat} {r : Word} {o : Nat → Nat} (S : Std n r o)
include S
theorem Std.U_le {i j : Nat} (hij : i < j) (hj : j < n) : LexLE (U r o i) (U r o j) := by
  by_cases h : ∃ k, U r o i k ≠ U r o j k
  · obtain ⟨k, hk⟩ := h
    rcases S.step hij hj (k + 1) with ⟨a, _⟩ | ⟨l, _, b, c⟩
    · exact absurd (a k (by omega)) hk
    · exact .inr ⟨l, b, c⟩
  · exact .inl (funext fun k => Classical.byContradiction fun q => h ⟨k, q⟩)
theorem Std.keep_lt {i j : Nat} (hij : i < j) (hj : j < n) (e : U r o i = U r o j) (K : Nat) : it o K i < it o K j := by
  rcases S.step hij hj K with ⟨_, b⟩ | ⟨k, _, _, c⟩
  · exact b
  · have := congrFun e k
    simp only [U] at this
    omega
/-- within one ring no two places read alike -/
theorem Std.prim {i c : Nat} (hi : i < n) (h : U r o i = U r o (it o c i)) : it o c i = i := by
  have eq : ∀ m, U r o (it o (m * c) i) = U r o i := fun m => by
    induction m with
    | zero => rw [Nat.zero_mul]; rfl
    | succ m ih =>
      have e : it o ((m + 1) * c) i = it o c (it o (m * c) i) := by rw [← it_add]; congr 1; rw [Nat.succ_mul]; omega
      rw [e, U_shift, ih, ← U_shift, ← h]
  have e1 : ∀ m, it o ((m + 1) * c) i = it o (m * c) (it o c i) := fun m => by rw [← it_add]; congr 1; rw [Nat.succ_mul]
  rcases Nat.lt_trichotomy i (it o c i) with q | q | q
  · exfalso
    have up : ∀ m, i + m ≤ it o (m * c) i := fun m => by
      induction m with
      | zero => rw [Nat.zero_mul]; exact Nat.le_refl _
      | succ m ih =>
        have := S.keep_lt q (S.it_lt hi c) h (m * c)
        rw [← e1] at this
        omega
    have := up n
    have := S.it_lt hi (n * c)
    omega
  · exact q.symm
  · exfalso
    have dn : ∀ m, it o (m * c) i + m ≤ i := fun m => by
      induction m with
      | zero => rw [Nat.zero_mul]; exact Nat.le_refl _
      | succ m ih =>
        have := S.keep_lt q hi h.symm (m * c)
        rw [← e1] at this
        omega
    have := dn n
    omega
end

/-! rings written as lists -/
/-- a list's figures, round without end -/
noncomputable def seq (l : List Int) : Word := fun k => l.getD (k % l.length) 0
theorem seq_add (l : List Int) (k : Nat) : seq l (k + l.length) = seq l k := by
  unfold seq; rw [Nat.add_mod_right]
theorem seq_mod (l : List Int) (k : Nat) : seq l (k % l.length) = seq l k := by
  unfold seq; rw [Nat.mod_mod]

/-- no less than any other turn of its figures -/
noncomputable def Lyn (l : List Int) : Prop := 0 < l.length ∧ ∀ c, 0 < c → c < l.length → LexLT (seq l) (shift c (seq l))

theorem seq_inj {l m : List Int} (hl : l.length = m.length) (h : seq l = seq m) : l = m := by
  apply List.ext_getElem hl
  intro i h1 h2
  have := congrFun h i
  unfold seq at this
  rw [Nat.mod_eq_of_lt h1, Nat.mod_eq_of_lt h2] at this
  simpa [List.getD_eq_getElem?_getD, h1, h2] using this

theorem seq_per (l : List Int) (k q : Nat) : seq l (k + q * l.length) = seq l k := by
  unfold seq; rw [Nat.add_mul_mod_self_right]

theorem Lyn.no_per {l : List Int} (L : Lyn l) {p : Nat} (h0 : 0 < p) (h1 : p < l.length) : ¬ ∀ k, seq l (k + p) = seq l k := fun h => by
  have e : shift p (seq l) = seq l := funext h
  have := L.2 p h0 h1
  rw [e] at this
  exact this.irrefl

/-- two least turns that read alike from some place are one -/
theorem Lyn.one {l m : List Int} (L : Lyn l) (M : Lyn m) {c : Nat} (hc : c < m.length) (h : shift c (seq m) = seq l) : c = 0 ∧ m = l := by
  have hp := L.1
  have hq := M.1
  have hk : ∀ k, seq m (k + c) = seq l k := fun k => congrFun h k
  have key : m.length = l.length := by
    rcases Nat.lt_trichotomy l.length m.length with q | q | q
    · exfalso
      refine M.no_per hp q fun k => ?_
      -- k + p ≡ (k + q*c - c) ..
      have e1 : seq m (k + c * m.length + l.length) = seq m (k + c * m.length) := by
        have hge : c ≤ c * m.length := Nat.le_mul_of_pos_right c hq
        have a := hk (k + c * m.length + l.length - c)
        have b := hk (k + c * m.length - c)
        rw [show k + c * m.length + l.length - c + c = k + c * m.length + l.length by omega] at a
        rw [show k + c * m.length - c + c = k + c * m.length by omega] at b
        rw [a, b, show k + c * m.length + l.length - c = k + c * m.length - c + l.length by omega, seq_add]
      rw [show k + c * m.length + l.length = (k + l.length) + c * m.length by omega, seq_per, seq_per] at e1
      exact e1
    · exact q.symm
    · exfalso
      refine L.no_per hq q fun k => ?_
      rw [← hk, ← hk, show k + m.length + c = k + c + m.length by omega, seq_add]
  rcases Nat.eq_zero_or_pos c with q | q
  · subst q
    exact ⟨rfl, seq_inj key h⟩
  · exfalso
    have a := M.2 c q hc
    rw [h] at a
    have b := L.2 (m.length - c) (by omega) (by omega)
    have e : shift (m.length - c) (seq l) = seq m := by
      funext k
      show seq l (k + (m.length - c)) = seq m k
      rw [← hk, show k + (m.length - c) + c = k + m.length by omega, seq_add]
    rw [e] at b
    exact a.asymm b

/-- two words of periods p and q that read alike for p + q figures read alike without end -/
theorem fine {u v : Word} {p q : Nat} (hp : 0 < p) (hq : 0 < q) (hu : ∀ k, u (k + p) = u k) (hv : ∀ k, v (k + q) = v k) (h : ∀ k, k < p + q → u k = v k) : u = v := by
  funext k
  induction k using Nat.strongRecOn with
  | ind k ih =>
    rcases Nat.lt_or_ge k (p + q) with a | a
    · exact h k a
    · have e1 : u k = u (k - p) := by rw [← hu (k - p), show k - p + p = k by omega]
      have e2 : v k = v (k - q) := by rw [← hv (k - q), show k - q + q = k by omega]
      have e3 : v (k - p) = v (k - p - q) := by rw [← hv (k - p - q), show k - p - q + q = k - p by omega]
      have e4 : u (k - q) = u (k - p - q) := by rw [← hu (k - p - q), show k - p - q + p = k - q by omega]
      rw [e1, e2, ih (k - p) (by omega), e3, ← ih (k - q) (by omega), e4, ih (k - p - q) (by omega)]

end GR
end Mine
end GrA_text
section GrB_text
namespace Mine
namespace GR

/-! the order of a row's places, as insort_right lays it -/
noncomputable def fig (row : List Int) : Word := fun i => row.getD i 0
noncomputable def ins (row : List Int) (order : List Nat) (p : Nat) : List Nat :=
  order.takeWhile (fun q => decide (fig row q ≤ fig row p)) ++ p :: order.dropWhile (fun q => decide (fig row q ≤ fig row p))
noncomputable def orderTo (row : List Int) (k : Nat) : List Nat := (List.range k).foldl (ins row) []
noncomputable def orderOf (row : List Int) : List Nat := orderTo row row.length

noncomputable def Before (r : Word) (a b : Nat) : Prop := r a < r b ∨ (r a = r b ∧ a < b)

theorem takeWhile_all {α : Type} {p : α → Bool} : ∀ {l : List α} {x : α}, x ∈ l.takeWhile p → p x = true ∧ x ∈ l
  | a :: l, x, h => by
    rw [List.takeWhile_cons] at h
    split at h
    · rename_i e
      rcases List.mem_cons.mp h with rfl | h
      · exact ⟨e, .head _⟩
      · exact ⟨(takeWhile_all h).1, .tail _ (takeWhile_all h).2⟩
    · cases h
theorem dropWhile_all {r : Word} {y : Int} : ∀ {l : List Nat}, l.Pairwise (Before r) → ∀ {x : Nat}, x ∈ l.dropWhile (fun q => decide (r q ≤ y)) → y < r x ∧ x ∈ l
  | a :: l, hp, x, h => by
    rw [List.dropWhile_cons] at h
    split at h
    · exact ⟨(dropWhile_all (List.pairwise_cons.mp hp).2 h).1, .tail _ (dropWhile_all (List.pairwise_cons.mp hp).2 h).2⟩
    · rename_i e
      have e' : y < r a := by simpa using e
      rcases List.mem_cons.mp h with rfl | h
      · exact ⟨e', .head _⟩
      · refine ⟨?_, .tail _ h⟩
        have := (List.pairwise_cons.mp hp).1 x h
        unfold Before at this
        omega

theorem orderTo_succ (row : List Int) (k : Nat) : orderTo row (k + 1) = ins row (orderTo row k) k := by
  unfold orderTo
  rw [List.range_succ, List.foldl_append]; rfl
theorem ins_perm (row : List Int) (l : List Nat) (p : Nat) : (ins row l p).Perm (l ++ [p]) := by
  unfold ins
  refine List.perm_middle.trans ?_
  rw [List.takeWhile_append_dropWhile]
  exact (List.perm_append_comm (l₁ := [p]) (l₂ := l))
theorem orderTo_perm (row : List Int) : ∀ k, (orderTo row k).Perm (List.range k)
  | 0 => List.Perm.nil
  | k + 1 => by
    rw [orderTo_succ, List.range_succ]
    exact (ins_perm row _ k).trans ((orderTo_perm row k).append_right [k])
theorem orderTo_sorted (row : List Int) : ∀ k, (orderTo row k).Pairwise (Before (fig row))
  | 0 => List.Pairwise.nil
  | k + 1 => by
    have ih := orderTo_sorted row k
    have lt : ∀ q ∈ orderTo row k, q < k := fun q hq => by
      have := (orderTo_perm row k).mem_iff.mp hq
      simpa using this
    rw [orderTo_succ]
    unfold ins
    rw [List.pairwise_append]
    have sub := ih
    rw [← List.takeWhile_append_dropWhile (p := fun q => decide (fig row q ≤ fig row k)) (l := orderTo row k), List.pairwise_append] at sub
    refine ⟨sub.1, List.pairwise_cons.mpr ⟨fun b hb => .inl (dropWhile_all ih hb).1, sub.2.1⟩, fun a ha b hb => ?_⟩
    obtain ⟨a1, a2⟩ := takeWhile_all ha
    have a1' : fig row a ≤ fig row k := by simpa using a1
    have := lt a a2
    rcases List.mem_cons.mp hb with rfl | hb
    · unfold Before; omega
    · exact sub.2.2 a ha b hb
theorem orderTo_length (row : List Int) (k : Nat) : (orderTo row k).length = k := by
  have := (orderTo_perm row k).length_eq
  simpa using this

noncomputable def ord (row : List Int) : Nat → Nat := fun i => (orderOf row).getD i 0
theorem orderOf_length (row : List Int) : (orderOf row).length = row.length := orderTo_length row _
theorem ord_eq {row : List Int} {i : Nat} (h : i < row.length) : ord row i = (orderOf row)[i]'(by rw [orderOf_length]; exact h) := by
  unfold ord
  rw [List.getD_eq_getElem?_getD, List.getElem?_eq_getElem (by rw [orderOf_length]; exact h)]; rfl
theorem map_ord (row : List Int) : (List.range row.length).map (ord row) = orderOf row := by
  refine List.ext_getElem (by simp [orderOf_length]) fun i h1 h2 => ?_
  rw [List.getElem_map, List.getElem_range, ord_eq (by simpa using h1)]
theorem std (row : List Int) : Std row.length (fig row) (ord row) where
  lt := fun i hi => by
    have : ord row i ∈ orderOf row := by rw [ord_eq hi]; exact List.getElem_mem _
    simpa using (orderTo_perm row row.length).mem_iff.mp this
  mono := fun i j hij hj => by
    rw [ord_eq (by omega), ord_eq hj]
    exact (List.pairwise_iff_getElem.mp (orderTo_sorted row row.length)) i j _ _ hij

/-! the rings -/
noncomputable def per (n : Nat) (o : Nat → Nat) (i : Nat) : Nat := ((List.range n).find? fun k => it o (k + 1) i == i).getD 0 + 1
noncomputable def isStart (n : Nat) (o : Nat → Nat) (s : Nat) : Bool := (List.range n).all fun c => decide (s ≤ it o c s)
noncomputable def starts (n : Nat) (o : Nat → Nat) (k : Nat) : List Nat := (List.range k).filter (isStart n o)
noncomputable def orb (n : Nat) (o : Nat → Nat) (s : Nat) : List Nat := (List.range (per n o s)).map fun c => it o c s
noncomputable def ringAt (r : Word) (n : Nat) (o : Nat → Nat) (s : Nat) : List Int := (List.range (per n o s)).map (U r o s)
noncomputable def ringsOf (row : List Int) : List (List Int) := (starts row.length (ord row) row.length).map (ringAt (fig row) row.length (ord row))

section
variable {n : Nat} {r : Word} {o : Nat → Nat} (S : Std n r o)
include S
theorem Std.per_spec {i : Nat} (hi : i < n) : 0 < per n o i ∧ per n o i ≤ n ∧ it o (per n o i) i = i ∧ ∀ j, 0 < j → j < per n o i → it o j i ≠ i := by
  obtain ⟨k, h0, h1, h2, h3⟩ := S.period hi
  have e : (List.range n).find? (fun k => it o (k + 1) i == i) = some (k - 1) := by
    rw [List.find?_range_eq_some]
    refine ⟨?_, by simp; omega, fun j hj => ?_⟩
    · rw [show k - 1 + 1 = k by omega, h2]; simp
    · have := h3 (j + 1) (by omega) (by omega)
      simpa using this
  have : per n o i = k := by
    unfold per; rw [e]; show k - 1 + 1 = k; omega
  rw [this]; exact ⟨h0, h1, h2, h3⟩
theorem Std.it_mod {i : Nat} (hi : i < n) (k : Nat) : it o (k % per n o i) i = it o k i := by
  obtain ⟨h0, _, h2, _⟩ := S.per_spec hi
  have go : ∀ q m, it o (m + q * per n o i) i = it o m i := fun q => by
    induction q with
    | zero => intro m; rw [Nat.zero_mul]; rfl
    | succ q ih => intro m; rw [Nat.succ_mul, ← Nat.add_assoc, it_add, h2, ih]
  have := go (k / per n o i) (k % per n o i)
  rw [Nat.mul_comm, Nat.mod_add_div] at this
  exact this.symm
theorem Std.start_iff {s : Nat} (hs : s < n) : isStart n o s = true ↔ ∀ c, s ≤ it o c s := by
  unfold isStart
  rw [List.all_eq_true]
  constructor
  · intro h c
    rw [← S.it_mod hs c]
    obtain ⟨h0, h1, _, _⟩ := S.per_spec hs
    have := h (c % per n o s) (by simp; exact Nat.lt_of_lt_of_le (Nat.mod_lt _ h0) h1)
    simpa using this
  · intro h c _
    simpa using h c
/-- each place lies in a ring, told from its least place -/
theorem Std.cover {i : Nat} (hi : i < n) : ∃ s c, s < n ∧ isStart n o s = true ∧ c < per n o s ∧ it o c s = i := by
  have : ∀ b, ∀ i, i < n → i ≤ b → ∃ s c, s < n ∧ (∀ k, s ≤ it o k s) ∧ it o c s = i := by
    intro b
    induction b with
    | zero =>
      intro i hi hb
      obtain rfl : i = 0 := by omega
      exact ⟨0, 0, hi, fun _ => Nat.zero_le _, rfl⟩
    | succ b ih =>
      intro i hi hb
      by_cases q : ∀ k, i ≤ it o k i
      · exact ⟨i, 0, hi, q, rfl⟩
      · have ⟨k, hk⟩ : ∃ k, ¬ i ≤ it o k i := Classical.byContradiction fun no => q fun k => Classical.byContradiction fun z => no ⟨k, z⟩
        obtain ⟨s, c, h1, h2, h3⟩ := ih (it o k i) (S.it_lt hi k) (by omega)
        obtain ⟨p0, _, p2, _⟩ := S.per_spec hi
        -- back to i
        refine ⟨s, (k * per n o i - k) + c, h1, h2, ?_⟩
        rw [it_add, h3, ← it_add, show k * per n o i - k + k = k * per n o i by
          have : k ≤ k * per n o i := Nat.le_mul_of_pos_right k p0
          omega, ← S.it_mod hi, Nat.mul_mod_left]
        rfl
  obtain ⟨s, c, h1, h2, h3⟩ := this i i hi (Nat.le_refl _)
  obtain ⟨p0, _, _, _⟩ := S.per_spec h1
  exact ⟨s, c % per n o s, h1, (S.start_iff h1).mpr h2, Nat.mod_lt _ p0, (S.it_mod h1 c).trans h3⟩
/-- a place lies in one ring alone, at one stand -/
theorem Std.apart {s t c d : Nat} (hs : s < n) (ht : t < n) (is : isStart n o s = true) (jt : isStart n o t = true) (h : it o c s = it o d t) : s = t := by
  have a := (S.start_iff hs).mp is
  have b := (S.start_iff ht).mp jt
  have go : ∀ {s t c d : Nat}, s < n → t < n → it o c s = it o d t → ∃ k, it o k t = s := by
    intro s t c d hs ht h
    obtain ⟨p0, _, _, _⟩ := S.per_spec hs
    refine ⟨(c * per n o s - c) + d, ?_⟩
    rw [it_add, ← h, ← it_add, show c * per n o s - c + c = c * per n o s by
      have : c ≤ c * per n o s := Nat.le_mul_of_pos_right c p0
      omega, ← S.it_mod hs, Nat.mul_mod_left]
    rfl
  obtain ⟨k, hk⟩ := go hs ht h
  obtain ⟨l, hl⟩ := go ht hs h.symm
  have := b k
  have := a l
  omega
theorem Std.orb_inj {s c d : Nat} (hs : s < n) (hc : c < per n o s) (hd : d < per n o s) (h : it o c s = it o d s) : c = d := by
  obtain ⟨p0, p1, p2, p3⟩ := S.per_spec hs
  have go : ∀ {c d : Nat}, c < d → d < per n o s → it o c s = it o d s → False := by
    intro c d hcd hd h
    have e : it o d s = it o c (it o (d - c) s) := by rw [← it_add]; congr 1; omega
    exact p3 (d - c) (by omega) (by omega) (S.it_inj hs (S.it_lt hs _) c (h.trans e)).symm
  rcases Nat.lt_trichotomy c d with q | q | q
  · exact (go q hd h).elim
  · exact q
  · exact (go q hc h.symm).elim

theorem Std.mem_starts {s k : Nat} : s ∈ starts n o k ↔ s < k ∧ isStart n o s = true := by
  unfold starts; rw [List.mem_filter, List.mem_range]
theorem Std.orbs_perm : ((starts n o n).flatMap (orb n o)).Perm (List.range n) := by
  rw [List.perm_ext_iff_of_nodup ?_ List.nodup_range]
  · intro i
    rw [List.mem_flatMap, List.mem_range]
    constructor
    · rintro ⟨s, hs, hi⟩
      rw [S.mem_starts] at hs
      unfold orb at hi
      obtain ⟨c, _, rfl⟩ := List.mem_map.mp hi
      exact S.it_lt hs.1 c
    · intro hi
      obtain ⟨s, c, h1, h2, h3, h4⟩ := S.cover hi
      exact ⟨s, S.mem_starts.mpr ⟨h1, h2⟩, List.mem_map.mpr ⟨c, by simpa using h3, h4⟩⟩
  · unfold List.Nodup
    rw [List.pairwise_flatMap]
    constructor
    · intro s hs
      rw [S.mem_starts] at hs
      unfold orb
      rw [List.pairwise_map, List.pairwise_iff_getElem]
      intro i j h1 h2 hij e
      rw [List.getElem_range, List.getElem_range] at e
      have := S.orb_inj hs.1 (by simpa using h1) (by simpa using h2) e
      omega
    · have nd : (starts n o n).Nodup := List.Pairwise.filter _ List.nodup_range
      refine List.Pairwise.imp_of_mem ?_ nd
      intro s t hs ht hne x hx y hy e
      subst e
      rw [S.mem_starts] at hs ht
      obtain ⟨c, _, hc⟩ := List.mem_map.mp hx
      obtain ⟨d, _, hd⟩ := List.mem_map.mp hy
      exact hne (S.apart hs.1 ht.1 hs.2 ht.2 (hc.trans hd.symm))

theorem Std.ring_seq {s : Nat} (hs : s < n) : seq (ringAt r n o s) = U r o s := by
  obtain ⟨p0, p1, p2, p3⟩ := S.per_spec hs
  funext k
  unfold seq
  have hl : (ringAt r n o s).length = per n o s := by simp [ringAt]
  rw [hl]
  have hm : k % per n o s < per n o s := Nat.mod_lt _ p0
  rw [List.getD_eq_getElem?_getD, List.getElem?_eq_getElem (by rw [hl]; exact hm)]
  simp only [ringAt, List.getElem_map, List.getElem_range, Option.getD_some, U]
  show r (o (it o (k % per n o s) s)) = r (o (it o k s))
  rw [S.it_mod hs]
theorem Std.ring_length (s : Nat) : (ringAt r n o s).length = per n o s := by simp [ringAt]
theorem Std.ring_lyn {s : Nat} (hs : s < n) (is : isStart n o s = true) : Lyn (ringAt r n o s) := by
  obtain ⟨p0, p1, p2, p3⟩ := S.per_spec hs
  refine ⟨by rw [S.ring_length]; exact p0, fun c c0 hc => ?_⟩
  rw [S.ring_length] at hc
  rw [S.ring_seq hs, ← U_shift]
  have a := (S.start_iff hs).mp is c
  have b := p3 c c0 hc
  rcases S.U_le (i := s) (j := it o c s) (by omega) (S.it_lt hs c) with q | q
  · exact absurd (S.prim hs q) b
  · exact q
end

theorem lyn_of_rings {row : List Int} {l : List Int} (h : l ∈ ringsOf row) : Lyn l := by
  unfold ringsOf at h
  obtain ⟨s, hs, rfl⟩ := List.mem_map.mp h
  rw [(std row).mem_starts] at hs
  exact (std row).ring_lyn hs.1 hs.2

end GR
end Mine
end GrB_text
section GrC_text
namespace Mine
namespace GR

/-! lists of ints, one before another -/
noncomputable def ltB : List Int → List Int → Bool
  | [], [] => false
  | [], _ :: _ => true
  | _ :: _, [] => false
  | a :: l, b :: m => if a = b then ltB l m else decide (a < b)
theorem ltB_tri : ∀ (l m : List Int), ltB l m = false → ltB m l = false → l = m
  | [], [], _, _ => rfl
  | [], _ :: _, h, _ => by simp [ltB] at h
  | _ :: _, [], _, h => by simp [ltB] at h
  | a :: l, b :: m, h, g => by
    unfold ltB at h g
    by_cases e : a = b
    · subst e
      simp only [if_true] at h g
      rw [ltB_tri l m h g]
    · rw [if_neg e] at h
      rw [if_neg (Ne.symm e)] at g
      simp only [decide_eq_false_iff_not] at h g
      omega
theorem ltB_range (N : Nat) : ∀ (f g : Word), ltB ((List.range N).map f) ((List.range N).map g) = true ↔ ∃ k, k < N ∧ (∀ j, j < k → f j = g j) ∧ f k < g k := by
  induction N with
  | zero => intro f g; simp [ltB]
  | succ N ih =>
    intro f g
    rw [List.range_succ_eq_map, List.map_cons, List.map_cons, List.map_map, List.map_map]
    unfold ltB
    by_cases e : f 0 = g 0
    · rw [if_pos e]
      rw [show (List.range N).map (f ∘ Nat.succ) = (List.range N).map (fun k => f (k + 1)) from rfl, show (List.range N).map (g ∘ Nat.succ) = (List.range N).map (fun k => g (k + 1)) from rfl, ih]
      constructor
      · rintro ⟨k, h1, h2, h3⟩
        refine ⟨k + 1, by omega, fun j hj => ?_, h3⟩
        cases j with
        | zero => exact e
        | succ j => exact h2 j (by omega)
      · rintro ⟨k, h1, h2, h3⟩
        cases k with
        | zero => omega
        | succ k => exact ⟨k, by omega, fun j hj => h2 (j + 1) (by omega), h3⟩
    · rw [if_neg e, decide_eq_true_eq]
      constructor
      · intro h; exact ⟨0, by omega, fun j hj => absurd hj (Nat.not_lt_zero _), h⟩
      · rintro ⟨k, h1, h2, h3⟩
        cases k with
        | zero => exact h3
        | succ k => exact absurd (h2 0 (by omega)) e

/-! the column -/
noncomputable def cut (N : Nat) (u : Word) : List Int := (List.range N).map u
noncomputable def lastOf (l : List Int) (c : Nat) : Int := seq l (c + l.length - 1)
noncomputable def turnsOf (lot : List (List Int)) (N : Nat) : List (List Int × Int) := lot.flatMap fun l => (List.range l.length).map fun c => (cut N (shift c (seq l)), lastOf l c)
noncomputable def ltP (a b : List Int × Int) : Bool := ltB a.1 b.1 || (a.1 == b.1 && decide (a.2 < b.2))
noncomputable def total (lot : List (List Int)) : Nat := (lot.map List.length).sum

theorem ltP_tri {a b : List Int × Int} (h : ltP a b = false) (g : ltP b a = false) : a = b := by
  unfold ltP at h g
  simp only [Bool.or_eq_false_iff, Bool.and_eq_false_iff, beq_eq_false_iff_ne, decide_eq_false_iff_not] at h g
  have e := ltB_tri _ _ h.1 g.1
  have h2 := h.2.resolve_left (fun q => q e)
  have g2 := g.2.resolve_left (fun q => q e.symm)
  exact Prod.ext e (by omega)

theorem cut_eq {N : Nat} {u v : Word} : cut N u = cut N v ↔ ∀ k, k < N → u k = v k := by
  unfold cut
  constructor
  · intro h k hk
    have := congrArg (fun l => l[k]?) h
    simpa [hk] using this
  · intro h
    exact List.map_congr_left fun k hk => h k (by simpa using hk)

/-- the rings of a row: their column is the row -/
theorem column_rings (row : List Int) (T : List (List Int × Int)) (hp : T.Perm (turnsOf (ringsOf row) (2 * row.length))) (hs : T.Pairwise fun a b => ltP b a = false) : T.map (·.2) = row := by
  have S := std row
  have key : T = (List.range row.length).map fun i => (cut (2 * row.length) (U (fig row) (ord row) i), fig row i) := by
    refine List.Perm.eq_of_pairwise (le := fun a b => ltP b a = false) (fun a b _ _ h g => ltP_tri g h) hs ?_ (hp.trans ?_)
    · rw [List.pairwise_map, List.pairwise_iff_getElem]
      intro i j h1 h2 hij
      rw [List.getElem_range, List.getElem_range]
      have hj : j < row.length := by simpa using h2
      have hi : i < row.length := by omega
      rcases S.U_le hij hj with e | e
      · -- alike: like lengths, so like last figures
        obtain ⟨p0, p1, p2, p3⟩ := S.per_spec hi
        obtain ⟨q0, q1, q2, q3⟩ := S.per_spec hj
        have hpq : per row.length (ord row) i = per row.length (ord row) j := by
          rcases Nat.lt_trichotomy (per row.length (ord row) i) (per row.length (ord row) j) with q | q | q
          · exfalso
            refine q3 _ p0 q (S.prim hj ?_)
            rw [U_shift, ← e, ← U_shift, p2]
          · exact q
          · exfalso
            refine p3 _ q0 q (S.prim hi ?_)
            rw [U_shift, e, ← U_shift, q2]
        have l1 : U (fig row) (ord row) i (per row.length (ord row) i - 1) = fig row i := by
          unfold U; rw [show per row.length (ord row) i - 1 + 1 = per row.length (ord row) i by omega, p2]
        have l2 : U (fig row) (ord row) j (per row.length (ord row) j - 1) = fig row j := by
          unfold U; rw [show per row.length (ord row) j - 1 + 1 = per row.length (ord row) j by omega, q2]
        rw [e, hpq, l2] at l1
        unfold ltP
        simp only [e, l1]
        have irr : ltB (cut (2 * row.length) (U (fig row) (ord row) j)) (cut (2 * row.length) (U (fig row) (ord row) j)) = false := by
          cases q : ltB (cut (2 * row.length) (U (fig row) (ord row) j)) (cut (2 * row.length) (U (fig row) (ord row) j)) with
          | false => rfl
          | true =>
            obtain ⟨k, _, _, h⟩ := (ltB_range _ _ _).mp q
            omega
        rw [irr]; simp
      · obtain ⟨k, h3, h4⟩ := e
        -- the first difference lies within the cut, or there is none in it
        by_cases hk : k < 2 * row.length
        · have no : ltB (cut (2 * row.length) (U (fig row) (ord row) j)) (cut (2 * row.length) (U (fig row) (ord row) i)) = false := by
            cases q : ltB (cut (2 * row.length) (U (fig row) (ord row) j)) (cut (2 * row.length) (U (fig row) (ord row) i)) with
            | false => rfl
            | true =>
              obtain ⟨l, _, a, b⟩ := (ltB_range _ _ _).mp q
              rcases Nat.lt_trichotomy k l with z | z | z
              · have := a k z; omega
              · subst z; omega
              · have := h3 l z; omega
          have ne : (cut (2 * row.length) (U (fig row) (ord row) j) == cut (2 * row.length) (U (fig row) (ord row) i)) = false := by
            rw [beq_eq_false_iff_ne]
            intro z
            have := cut_eq.mp z k hk
            omega
          unfold ltP
          simp only [no, ne]; rfl
        · exfalso
          obtain ⟨p0, p1, p2, _⟩ := S.per_spec hi
          obtain ⟨q0, q1, q2, _⟩ := S.per_spec hj
          have f := fine (u := U (fig row) (ord row) i) (v := U (fig row) (ord row) j) p0 q0
            (fun m => by have := congrFun (U_shift (fig row) (ord row) (per row.length (ord row) i) i) m; rw [p2] at this; exact this.symm)
            (fun m => by have := congrFun (U_shift (fig row) (ord row) (per row.length (ord row) j) j) m; rw [q2] at this; exact this.symm)
            (fun m hm => h3 m (by omega))
          rw [f] at h4
          omega
    · unfold turnsOf ringsOf
      rw [List.flatMap_map]
      have e : ((starts row.length (ord row) row.length).flatMap fun s => (List.range (ringAt (fig row) row.length (ord row) s).length).map fun c =>
            (cut (2 * row.length) (shift c (seq (ringAt (fig row) row.length (ord row) s))), lastOf (ringAt (fig row) row.length (ord row) s) c)) =
          ((starts row.length (ord row) row.length).flatMap (orb row.length (ord row))).map fun i => (cut (2 * row.length) (U (fig row) (ord row) i), fig row i) := by
        rw [List.map_flatMap]
        have cg : ∀ (l : List Nat) (f g : Nat → List (List Int × Int)), (∀ x ∈ l, f x = g x) → l.flatMap f = l.flatMap g := by
          intro l f g h
          induction l with
          | nil => rfl
          | cons a l ih => rw [List.flatMap_cons, List.flatMap_cons, h a (.head _), ih fun x hx => h x (.tail _ hx)]
        refine cg _ _ _ fun s hs => ?_
        rw [S.mem_starts] at hs
        obtain ⟨p0, p1, p2, _⟩ := S.per_spec hs.1
        unfold orb
        rw [List.map_map, S.ring_length]
        refine List.map_congr_left fun c hc => ?_
        have hc' : c < per row.length (ord row) s := by simpa using hc
        show (cut _ (shift c (seq _)), lastOf _ c) = (cut _ (U (fig row) (ord row) (it (ord row) c s)), fig row (it (ord row) c s))
        rw [S.ring_seq hs.1, U_shift]
        congr 1
        unfold lastOf
        rw [S.ring_seq hs.1, S.ring_length]
        show fig row (it (ord row) (c + per row.length (ord row) s - 1 + 1) s) = _
        rw [show c + per row.length (ord row) s - 1 + 1 = c + per row.length (ord row) s by omega, it_add, p2]
      rw [e]
      exact S.orbs_perm.map _
  rw [key, List.map_map]
  refine List.ext_getElem (by simp) fun i h1 h2 => ?_
  rw [List.getElem_map, List.getElem_range]
  show fig row i = _
  unfold fig
  rw [List.getD_eq_getElem?_getD, List.getElem?_eq_getElem h2]; rfl

theorem perm_map_inv {α β : Type} (f : α → β) : ∀ {T : List β} {P : List α}, T.Perm (P.map f) → ∃ P' : List α, P'.Perm P ∧ P'.map f = T
  | [], P, h => by
    have : P = [] := by
      have := h.length_eq
      rw [List.length_map] at this
      exact List.eq_nil_of_length_eq_zero this.symm
    subst this
    exact ⟨[], List.Perm.nil, rfl⟩
  | a :: T, P, h => by
    obtain ⟨p, hp, rfl⟩ := List.mem_map.mp (h.mem_iff.mp (.head _))
    obtain ⟨s, t, rfl⟩ := List.append_of_mem hp
    have h2 : (f p :: T).Perm (f p :: (s ++ t).map f) := h.trans (List.Perm.map f List.perm_middle)
    obtain ⟨P', e1, e2⟩ := perm_map_inv f ((List.perm_cons _).mp h2)
    exact ⟨p :: P', (List.Perm.cons _ e1).trans List.perm_middle.symm, by rw [List.map_cons, e2]⟩

theorem flatMap_perm {α β : Type} {f g : α → List β} : ∀ {l : List α}, (∀ x ∈ l, (f x).Perm (g x)) → (l.flatMap f).Perm (l.flatMap g)
  | [], _ => List.Perm.nil
  | a :: l, h => by
    rw [List.flatMap_cons, List.flatMap_cons]
    exact (h a (.head _)).append (flatMap_perm fun x hx => h x (.tail _ hx))

/-- the places of a lot -/
noncomputable def placesOf (lot : List (List Int)) : List (List Int × Nat) := lot.flatMap fun l => (List.range l.length).map fun c => (l, c)
theorem turns_places (lot : List (List Int)) (N : Nat) : turnsOf lot N = (placesOf lot).map fun p => (cut N (shift p.2 (seq p.1)), lastOf p.1 p.2) := by
  unfold turnsOf placesOf
  rw [List.map_flatMap]
  congr 1
  funext l
  rw [List.map_map]; rfl
theorem places_length : ∀ (lot : List (List Int)), (placesOf lot).length = total lot
  | [] => rfl
  | l :: lot => by
    have := places_length lot
    unfold placesOf total at *
    rw [List.flatMap_cons, List.length_append, List.map_cons, List.sum_cons, this]; simp
theorem mem_places {lot : List (List Int)} {p : List Int × Nat} (h : p ∈ placesOf lot) : p.1 ∈ lot ∧ p.2 < p.1.length ∧ p.1.length ≤ total lot := by
  unfold placesOf at h
  obtain ⟨l, hl, hp⟩ := List.mem_flatMap.mp h
  obtain ⟨c, hc, rfl⟩ := List.mem_map.mp hp
  refine ⟨hl, by simpa using hc, ?_⟩
  show l.length ≤ total lot
  clear h hp hc c
  induction lot with
  | nil => cases hl
  | cons a lot ih =>
    unfold total
    rw [List.map_cons, List.sum_cons]
    rcases List.mem_cons.mp hl with rfl | hl
    · omega
    · have := ih hl
      unfold total at this
      omega

noncomputable def pre (a : Int) (u : Word) : Word := fun k => match k with
  | 0 => a
  | k + 1 => u k
theorem pre_le {a b : Int} {u v : Word} (h : a < b ∨ (a = b ∧ LexLE u v)) : LexLE (pre a u) (pre b v) := by
  rcases h with h | ⟨rfl, h | h⟩
  · exact .inr ⟨0, fun j hj => absurd hj (Nat.not_lt_zero _), h⟩
  · exact .inl (by rw [h])
  · obtain ⟨k, h1, h2⟩ := h
    refine .inr ⟨k + 1, fun j hj => ?_, h2⟩
    cases j with
    | zero => rfl
    | succ j => exact h1 j (by omega)

theorem pre_last {l : List Int} {c : Nat} (h0 : 0 < l.length) : pre (lastOf l c) (shift c (seq l)) = shift (c + l.length - 1) (seq l) := by
  funext k
  cases k with
  | zero => show lastOf l c = seq l (0 + (c + l.length - 1)); rw [Nat.zero_add]; rfl
  | succ k =>
    show seq l (k + c) = seq l (k + 1 + (c + l.length - 1))
    rw [show k + 1 + (c + l.length - 1) = k + c + l.length by omega, seq_add]

theorem back_perm (l : List Int) : ((List.range l.length).map fun c => shift (c + l.length - 1) (seq l)).Perm ((List.range l.length).map fun c => shift c (seq l)) := by
  cases hl : l.length with
  | zero => exact List.Perm.nil
  | succ m =>
    have e1 : (List.range (m + 1)).map (fun c => shift (c + (m + 1) - 1) (seq l)) = shift m (seq l) :: (List.range m).map fun c => shift c (seq l) := by
      rw [List.range_succ_eq_map, List.map_cons, List.map_map]
      congr 1
      · congr 1; omega
      · refine List.map_congr_left fun c _ => ?_
        funext k
        show seq l (k + (c.succ + (m + 1) - 1)) = seq l (k + c)
        rw [show k + (c.succ + (m + 1) - 1) = k + c + l.length by omega, seq_add]
    rw [e1, List.range_succ, List.map_append]
    exact (List.perm_append_comm (l₁ := [shift m (seq l)]) (l₂ := (List.range m).map fun c => shift c (seq l)))

open Classical in
theorem count_places {w : List Int} (W : Lyn w) : ∀ {lot : List (List Int)}, (∀ l ∈ lot, Lyn l) → (placesOf lot).countP (fun p => decide (shift p.2 (seq p.1) = seq w)) = lot.count w
  | [], _ => rfl
  | l :: lot, h => by
    have ih := count_places W (lot := lot) fun x hx => h x (.tail _ hx)
    have L := h l (.head _)
    unfold placesOf at *
    rw [List.flatMap_cons, List.countP_append, ih, List.count_cons, Nat.add_comm]
    congr 1
    rw [List.countP_map]
    by_cases e : l = w
    · subst e
      rw [if_pos (by simp)]
      have : ∀ m, 0 < m → m ≤ l.length → (List.range m).countP ((fun p : List Int × Nat => decide (shift p.2 (seq p.1) = seq l)) ∘ fun c => (l, c)) = 1 := by
        intro m
        induction m with
        | zero => intro q; omega
        | succ m ihm =>
          intro _ hm
          rw [List.range_succ, List.countP_append]
          rcases Nat.eq_zero_or_pos m with z | z
          · subst z
            have : shift 0 (seq l) = seq l := rfl
            simp [this]
          · rw [ihm z (by omega)]
            have : ¬ shift m (seq l) = seq l := fun q => by have := (Lyn.one L L (by omega) q).1; omega
            simp [this]
      exact this _ L.1 (Nat.le_refl _)
    · rw [if_neg (by simpa using e), List.countP_eq_zero]
      intro c hc
      have hc' : c < l.length := by simpa using hc
      have : ¬ shift c (seq l) = seq w := fun q => e (Lyn.one W L hc' q).2
      simp [this]

/-- the lot of a column's rings is the lot -/
theorem rings_column (lot : List (List Int)) (hL : ∀ l ∈ lot, Lyn l) (T : List (List Int × Int)) (hp : T.Perm (turnsOf lot (2 * total lot))) (hs : T.Pairwise fun a b => ltP b a = false) :
    (ringsOf (T.map (·.2))).Perm lot := by
  rw [turns_places] at hp
  obtain ⟨P, hP, rfl⟩ := perm_map_inv _ hp
  have hlen : P.length = total lot := hP.length_eq.trans (places_length lot)
  have hm : ∀ p ∈ P, Lyn p.1 ∧ p.2 < p.1.length ∧ p.1.length ≤ total lot := fun p h => by
    have := mem_places (hP.mem_iff.mp h)
    exact ⟨hL _ this.1, this.2⟩
  rw [List.map_map]
  generalize hrow : P.map ((fun x : List Int × Int => x.2) ∘ fun p : List Int × Nat => (cut (2 * total lot) (shift p.2 (seq p.1)), lastOf p.1 p.2)) = row
  have hrl : row.length = P.length := by rw [← hrow, List.length_map]
  have S := std row
  let u : Nat → Word := fun i => (P[i]?.map fun p => shift p.2 (seq p.1)).getD fun _ => 0
  have hu : ∀ i (h : i < P.length), u i = shift P[i].2 (seq P[i].1) := fun i h => by
    show (P[i]?.map _).getD _ = _
    rw [List.getElem?_eq_getElem h]; rfl
  have hv : ∀ i (h : i < P.length), fig row i = lastOf P[i].1 P[i].2 := fun i h => by
    unfold fig
    subst hrow
    rw [List.getD_eq_getElem?_getD, List.getElem?_map, List.getElem?_eq_getElem h]; rfl
  -- sorted without end
  have F1 : ∀ i j, i < j → j < P.length → LexLE (u i) (u j) := fun i j hij hj => by
    have hi : i < P.length := by omega
    rw [List.pairwise_map, List.pairwise_iff_getElem] at hs
    have q := hs i j hi hj hij
    obtain ⟨Mi, ci, li⟩ := hm _ (List.getElem_mem hi)
    obtain ⟨Mj, cj, lj⟩ := hm _ (List.getElem_mem hj)
    rw [hu i hi, hu j hj]
    unfold ltP at q
    simp only [Bool.or_eq_false_iff] at q
    have q1 := q.1
    by_cases ex : ∃ k, k < 2 * total lot ∧ shift P[i].2 (seq P[i].1) k ≠ shift P[j].2 (seq P[j].1) k
    · have : ∀ b, (∃ k, k < b ∧ k < 2 * total lot ∧ shift P[i].2 (seq P[i].1) k ≠ shift P[j].2 (seq P[j].1) k) → ∃ k, k < 2 * total lot ∧ shift P[i].2 (seq P[i].1) k ≠ shift P[j].2 (seq P[j].1) k ∧ ∀ l, l < k → shift P[i].2 (seq P[i].1) l = shift P[j].2 (seq P[j].1) l := by
        intro b
        induction b with
        | zero => rintro ⟨k, h, _⟩; omega
        | succ b ih =>
          rintro ⟨k, h1, h2, h3⟩
          by_cases e2 : ∃ k, k < b ∧ k < 2 * total lot ∧ shift P[i].2 (seq P[i].1) k ≠ shift P[j].2 (seq P[j].1) k
          · exact ih e2
          · exact ⟨k, h2, h3, fun l hl => Classical.byContradiction fun z => e2 ⟨l, by omega, by omega, z⟩⟩
      obtain ⟨k, k1, k2⟩ := ex
      obtain ⟨k, k1, k2, k3⟩ := this (k + 1) ⟨k, by omega, k1, k2⟩
      rcases Int.lt_trichotomy (shift P[i].2 (seq P[i].1) k) (shift P[j].2 (seq P[j].1) k) with z | z | z
      · exact .inr ⟨k, k3, z⟩
      · exact absurd z k2
      · exfalso
        have : ltB (cut (2 * total lot) (shift P[j].2 (seq P[j].1))) (cut (2 * total lot) (shift P[i].2 (seq P[i].1))) = true :=
          (ltB_range _ _ _).mpr ⟨k, k1, fun l hl => (k3 l hl).symm, z⟩
        rw [this] at q1; cases q1
    · refine .inl (fine Mi.1 Mj.1 (fun k => ?_) (fun k => ?_) fun k hk => Classical.byContradiction fun z => ex ⟨k, by omega, z⟩)
      · show seq _ (k + _ + _) = seq _ (k + _)
        rw [show k + P[i].1.length + P[i].2 = k + P[i].2 + P[i].1.length by omega, seq_add]
      · show seq _ (k + _ + _) = seq _ (k + _)
        rw [show k + P[j].1.length + P[j].2 = k + P[j].2 + P[j].1.length by omega, seq_add]
  -- one turn back
  have F2 : ((List.range P.length).map fun i => pre (fig row i) (u i)).Perm ((List.range P.length).map u) := by
    have e1 : ((List.range P.length).map fun i => pre (fig row i) (u i)) = P.map fun p => shift (p.2 + p.1.length - 1) (seq p.1) := by
      refine List.ext_getElem (by simp) fun i h1 h2 => ?_
      have h : i < P.length := by simpa using h1
      rw [List.getElem_map, List.getElem_map, List.getElem_range, hu i h, hv i h]
      exact pre_last (hm _ (List.getElem_mem h)).1.1
    have e2 : (List.range P.length).map u = P.map fun p => shift p.2 (seq p.1) := by
      refine List.ext_getElem (by simp) fun i h1 h2 => ?_
      have h : i < P.length := by simpa using h1
      rw [List.getElem_map, List.getElem_map, List.getElem_range, hu i h]
    rw [e1, e2]
    refine (hP.map _).trans (List.Perm.trans ?_ (hP.map _).symm)
    unfold placesOf
    rw [List.map_flatMap, List.map_flatMap]
    refine flatMap_perm fun l _ => ?_
    rw [List.map_map, List.map_map]
    exact back_perm l
  have F3 : ∀ i, i < P.length → u i = pre (fig row (ord row i)) (u (ord row i)) := by
    have op : ((List.range P.length).map (ord row)).Perm (List.range P.length) := by
      rw [← hrl, map_ord]; exact orderTo_perm row _
    have pp : ((List.range P.length).map fun i => pre (fig row (ord row i)) (u (ord row i))).Perm ((List.range P.length).map u) := by
      have := (op.map fun i => pre (fig row i) (u i)).trans F2
      rwa [List.map_map] at this
    have eq : ((List.range P.length).map fun i => pre (fig row (ord row i)) (u (ord row i))) = (List.range P.length).map u := by
      refine List.Perm.eq_of_pairwise (le := LexLE) (fun a b _ _ h g => h.antisymm g) ?_ ?_ pp
      · rw [List.pairwise_map, List.pairwise_iff_getElem]
        intro i j h1 h2 hij
        rw [List.getElem_range, List.getElem_range]
        have hj : j < row.length := by rw [hrl]; simpa using h2
        refine pre_le ((S.mono i j hij hj).imp id fun ⟨a, b⟩ => ⟨a, F1 _ _ b (by rw [← hrl]; exact S.lt j hj)⟩)
      · rw [List.pairwise_map, List.pairwise_iff_getElem]
        intro i j h1 h2 hij
        rw [List.getElem_range, List.getElem_range]
        exact F1 i j hij (by simpa using h2)
    intro i hi
    have := congrArg (fun l => l[i]?) eq
    simp only [List.getElem?_map, List.getElem?_range hi, Option.map_some, Option.some.injEq] at this
    exact this.symm
  have F4 : ∀ i, i < P.length → u i = U (fig row) (ord row) i := by
    intro i hi
    funext k
    induction k generalizing i with
    | zero => rw [F3 i hi]; rfl
    | succ k ih =>
      rw [F3 i hi]
      show u (ord row i) k = fig row (it (ord row) (k + 1 + 1) i)
      rw [ih (ord row i) (by rw [← hrl]; exact S.lt i (by omega)), it_succ']; rfl
  -- counted
  rw [List.perm_iff_count]
  intro w
  by_cases W : Lyn w
  · rw [← count_places W hL, ← hP.countP_eq]
    have e1 : P.countP (fun p => @decide (shift p.2 (seq p.1) = seq w) (Classical.propDecidable _)) = (List.range row.length).countP fun i => @decide (U (fig row) (ord row) i = seq w) (Classical.propDecidable _) := by
      have : P = (List.range P.length).map fun i => (P[i]?).getD ([], 0) := by
        refine List.ext_getElem (by simp) fun i h1 h2 => ?_
        rw [List.getElem_map, List.getElem_range, List.getElem?_eq_getElem h1]; rfl
      rw [congrArg (List.countP fun p : List Int × Nat => @decide (shift p.2 (seq p.1) = seq w) (Classical.propDecidable _)) this, List.countP_map, hrl]
      refine List.countP_congr fun i hi => ?_
      have h : i < P.length := by simpa using hi
      simp only [Function.comp, decide_eq_true_eq]
      rw [← F4 i h, hu i h, List.getElem?_eq_getElem h]; rfl
    have e2 : (ringsOf row).count w = (List.range row.length).countP fun i => @decide (U (fig row) (ord row) i = seq w) (Classical.propDecidable _) := by
      unfold ringsOf starts
      rw [List.count_eq_countP, List.countP_map, List.countP_filter]
      refine List.countP_congr fun i hi => ?_
      have hi' : i < row.length := by simpa using hi
      simp only [Function.comp, Bool.and_eq_true, beq_iff_eq, decide_eq_true_eq]
      constructor
      · rintro ⟨a, _⟩
        rw [← a, S.ring_seq hi']
      · intro a
        obtain ⟨s, c, h1, h2, h3, h4⟩ := S.cover hi'
        have R := S.ring_lyn h1 h2
        have : shift c (seq (ringAt (fig row) row.length (ord row) s)) = seq w := by rw [S.ring_seq h1, ← U_shift, h4, a]
        obtain ⟨z1, z2⟩ := Lyn.one W R (by rw [S.ring_length]; exact h3) this
        subst z1
        obtain rfl : s = i := h4
        exact ⟨z2, h2⟩
    rw [e1, e2]
  · rw [List.count_eq_zero_of_not_mem fun h => W (lyn_of_rings h), List.count_eq_zero_of_not_mem fun h => W (hL _ h)]

end GR
end Mine
end GrC_text
section GrD_text
namespace Mine

/-- the octets of a number's figures -/
noncomputable def enc : List Nat → List Nat
  | [] => []
  | [d] => [d]
  | d :: e :: ds => (d + 64) :: enc (e :: ds)
noncomputable def valD (v : Nat) (ds : List Nat) : Nat := ds.foldl (fun v d => v * 64 + d) v
theorem enc_cons (c : Nat) (ds : List Nat) : enc (c :: ds) = (if ds = [] then c else c + 64) :: enc ds := by
  cases ds <;> simp [enc]
theorem enc_len : ∀ ds : List Nat, (enc ds).length = ds.length
  | [] => rfl
  | c :: ds => by rw [enc_cons]; simp [enc_len ds]
theorem enc_snoc (x : Nat) : ∀ l : List Nat, enc (l ++ [x]) = l.map (· + 64) ++ [x]
  | [] => rfl
  | c :: l => by
    rw [List.cons_append, enc_cons, if_neg (by simp), enc_snoc x l]
    rfl
theorem valD_snoc (v : Nat) (ds : List Nat) (d : Nat) : valD v (ds ++ [d]) = valD v ds * 64 + d := by simp [valD]
theorem valD_lt : ∀ (ds : List Nat) (v k : Nat), v < 64 ^ k → (∀ d ∈ ds, d < 64) → valD v ds < 64 ^ (k + ds.length)
  | [], v, k, h, _ => h
  | d :: ds, v, k, h, hd => by
    show valD (v * 64 + d) ds < _
    have h1 := hd d (.head _)
    have := valD_lt ds (v * 64 + d) (k + 1) (by rw [Nat.pow_succ]; omega) (fun x hx => hd x (.tail _ hx))
    rw [show k + (d :: ds).length = k + 1 + ds.length by simp; omega]
    exact this
noncomputable abbrev zs (l : List Nat) : List Int := l.map fun n : Nat => (n : Int)

/-- the figures of a number to the base 64 -/
noncomputable def digs (n : Nat) : List Int := if n = 0 then [] else digs (n / 64) ++ [((n % 64 : Nat) : Int)]
theorem digs_zero : digs 0 = [] := by rw [digs]; rfl
theorem digs_pos {n : Nat} (h : n ≠ 0) : digs n = digs (n / 64) ++ [((n % 64 : Nat) : Int)] := by rw [digs, if_neg h]
theorem digs_len : ∀ (k n : Nat), n < 64 ^ k → (digs n).length ≤ k
  | 0, n, h => by
    have : n = 0 := by simp at h; exact h
    subst this; rw [digs_zero]; simp
  | k + 1, n, h => by
    by_cases h0 : n = 0
    · subst h0; rw [digs_zero]; simp
    · rw [digs_pos h0, List.length_append]
      have := digs_len k (n / 64) (by rw [Nat.div_lt_iff_lt_mul (by decide)]; rw [Nat.pow_succ] at h; exact h)
      simp; exact this
theorem digs_step {v d : Nat} (hd : d < 64) (h : v * 64 + d ≠ 0) : digs (v * 64 + d) = digs v ++ [(d : Int)] := by
  rw [digs_pos h, show (v * 64 + d) / 64 = v by omega, show (v * 64 + d) % 64 = d by omega]
/-- a number of these figures, read again -/
theorem digs_valD : ∀ (ds : List Nat) (v : Nat), (∀ d ∈ ds, d < 64) → (v ≠ 0 ∨ ∀ d ∈ ds, 0 < d) → digs (valD v ds) = digs v ++ zs ds
  | [], v, _, _ => by show digs v = _; simp
  | d :: ds, v, h64, h0 => by
    have hd : d < 64 := h64 d (.head _)
    have hne : v * 64 + d ≠ 0 := by
      rcases h0 with h | h
      · omega
      · have := h d (.head _); omega
    show digs (valD (v * 64 + d) ds) = _
    rw [digs_valD ds (v * 64 + d) (fun x hx => h64 x (.tail _ hx)) (.inl hne), digs_step hd hne]
    simp

namespace GR
section
variable (rw_ : List Nat) (n : Nat) (o : Nat → Nat)
noncomputable def metTo (k : Nat) : List Nat := (starts n o k).flatMap (orb n o)
noncomputable def octN (s j : Nat) : Nat := if it o (j + 1) s = s then rw_.getD s 0 else rw_.getD (it o (j + 1) s) 0 + 64
noncomputable def octTo (k : Nat) : List Nat := (starts n o k).flatMap fun s => (List.range (per n o s)).map (octN rw_ o s)
noncomputable def ringN (s : Nat) : List Nat := (List.range (per n o s)).map fun c => rw_.getD (it o (c + 1) s) 0
end
noncomputable def numsOf (rw_ : List Nat) : List Nat := (starts rw_.length (ord (zs rw_)) rw_.length).map fun s => valD 0 (ringN rw_ rw_.length (ord (zs rw_)) s)

theorem starts_succ (n : Nat) (o : Nat → Nat) (k : Nat) : starts n o (k + 1) = starts n o k ++ (if isStart n o k = true then [k] else []) := by
  unfold starts
  rw [List.range_succ, List.filter_append]
  by_cases h : isStart n o k = true <;> simp [h]
theorem metTo_succ (n : Nat) (o : Nat → Nat) (k : Nat) : metTo n o (k + 1) = metTo n o k ++ (if isStart n o k = true then orb n o k else []) := by
  unfold metTo
  rw [starts_succ, List.flatMap_append]
  by_cases h : isStart n o k = true <;> simp [h]
theorem octTo_succ (rw_ : List Nat) (n : Nat) (o : Nat → Nat) (k : Nat) : octTo rw_ n o (k + 1) = octTo rw_ n o k ++ (if isStart n o k = true then (List.range (per n o k)).map (octN rw_ o k) else []) := by
  unfold octTo
  rw [starts_succ, List.flatMap_append]
  by_cases h : isStart n o k = true <;> simp [h]

section
variable {n : Nat} {r : Word} {o : Nat → Nat} (S : Std n r o)
include S
theorem Std.mem_met {k i : Nat} : i ∈ metTo n o k ↔ ∃ s c, s < k ∧ isStart n o s = true ∧ c < per n o s ∧ it o c s = i := by
  unfold metTo orb
  simp only [List.mem_flatMap, S.mem_starts, List.mem_map, List.mem_range]
  constructor
  · rintro ⟨s, ⟨h1, h2⟩, c, h3, h4⟩; exact ⟨s, c, h1, h2, h3, h4⟩
  · rintro ⟨s, c, h1, h2, h3, h4⟩; exact ⟨s, ⟨h1, h2⟩, c, h3, h4⟩
theorem Std.free {k c : Nat} (hk : k < n) (is : isStart n o k = true) (hc : c < per n o k) : it o c k ∉ metTo n o k ++ (List.range c).map fun j => it o j k := by
  intro h
  rcases List.mem_append.mp h with h | h
  · obtain ⟨s, d, h1, h2, h3, h4⟩ := S.mem_met.mp h
    have := S.apart (by omega) hk h2 is h4
    omega
  · obtain ⟨j, hj, e⟩ := List.mem_map.mp h
    have hj := List.mem_range.mp hj
    have := S.orb_inj hk (by omega) hc e
    omega
theorem Std.closed {k : Nat} (hk : k < n) : it o (per n o k) k ∈ metTo n o k ++ (List.range (per n o k)).map fun j => it o j k := by
  obtain ⟨p0, _, p2, _⟩ := S.per_spec hk
  rw [p2]
  exact List.mem_append_right _ (List.mem_map.mpr ⟨0, List.mem_range.mpr p0, rfl⟩)
theorem Std.taken {k : Nat} (hk : k < n) (is : ¬ isStart n o k = true) : k ∈ metTo n o k := by
  obtain ⟨s, c, h1, h2, h3, h4⟩ := S.cover hk
  refine S.mem_met.mpr ⟨s, c, ?_, h2, h3, h4⟩
  have := (S.start_iff h1).mp h2 c
  rw [h4] at this
  rcases Nat.lt_or_eq_of_le this with q | q
  · exact q
  · subst q; exact absurd h2 is
theorem Std.met_len : ∀ k, k ≤ n → (metTo n o k).length ≤ k * n
  | 0, _ => by simp [metTo, starts]
  | k + 1, hk => by
    rw [metTo_succ, List.length_append]
    have := Std.met_len k (by omega)
    have h2 := (S.per_spec (i := k) (by omega)).2.1
    rw [Nat.succ_mul]
    by_cases h : isStart n o k = true
    · rw [if_pos h]; simp [orb]; omega
    · rw [if_neg h]; simp; omega
theorem Std.oct_len (rw_ : List Nat) : ∀ k, k ≤ n → (octTo rw_ n o k).length ≤ k * n
  | 0, _ => by simp [octTo, starts]
  | k + 1, hk => by
    rw [octTo_succ, List.length_append]
    have := Std.oct_len rw_ k (by omega)
    have h2 := (S.per_spec (i := k) (by omega)).2.1
    rw [Nat.succ_mul]
    by_cases h : isStart n o k = true
    · rw [if_pos h]; simp; omega
    · rw [if_neg h]; simp; omega
theorem Std.oct_ring (rw_ : List Nat) {s : Nat} (hs : s < n) : (List.range (per n o s)).map (octN rw_ o s) = enc (ringN rw_ n o s) := by
  obtain ⟨p0, _, p2, p3⟩ := S.per_spec hs
  unfold ringN
  obtain ⟨q, hq⟩ : ∃ q, per n o s = q + 1 := ⟨per n o s - 1, by omega⟩
  rw [hq] at p2 p3 ⊢
  rw [List.range_succ, List.map_append, List.map_append, List.map_singleton, List.map_singleton, enc_snoc]
  congr 1
  · rw [List.map_map]
    refine List.map_congr_left fun j hj => ?_
    have hj := List.mem_range.mp hj
    show octN rw_ o s j = _
    unfold octN
    rw [if_neg (p3 (j + 1) (by omega) (by omega))]
    rfl
  · unfold octN
    rw [if_pos p2, p2]
end
theorem fig_zs (rw_ : List Nat) (i : Nat) : fig (zs rw_) i = ((rw_.getD i 0 : Nat) : Int) := by
  unfold fig
  simp only [List.getD, List.getElem?_map]
  cases rw_[i]? <;> simp
theorem ringN_at (rw_ : List Nat) (n : Nat) (o : Nat → Nat) (s : Nat) : zs (ringN rw_ n o s) = ringAt (fig (zs rw_)) n o s := by
  unfold ringN ringAt zs
  rw [List.map_map]
  refine List.map_congr_left fun c _ => ?_
  show _ = fig (zs rw_) (it o (c + 1) s)
  rw [fig_zs]
  rfl
theorem octTo_enc (rw_ : List Nat) {r : Word} {o : Nat → Nat} {n : Nat} (S : Std n r o) : octTo rw_ n o n = ((starts n o n).map (ringN rw_ n o)).flatMap enc := by
  unfold octTo
  rw [List.flatMap_map]
  have : ∀ l : List Nat, (∀ s ∈ l, s < n) → (l.flatMap fun s => (List.range (per n o s)).map (octN rw_ o s)) = l.flatMap fun a => enc (ringN rw_ n o a) := by
    intro l
    induction l with
    | nil => intro _; rfl
    | cons a l ih =>
      intro h
      rw [List.flatMap_cons, List.flatMap_cons, S.oct_ring rw_ (h a (.head _)), ih fun s hs => h s (.tail _ hs)]
  exact this _ fun s hs => (S.mem_starts.mp hs).1
/-- the numbers of a row's rings, each told by its figures -/
theorem digs_nums (rw_ : List Nat) (h64 : ∀ d ∈ rw_, d < 64) (h0 : ∀ d ∈ rw_, 0 < d) : (numsOf rw_).map digs = ringsOf (zs rw_) := by
  have hl : (zs rw_).length = rw_.length := by simp
  unfold numsOf ringsOf
  rw [hl, List.map_map]
  refine List.map_congr_left fun s hs => ?_
  have S := std (zs rw_)
  rw [hl] at S
  have hsn := (S.mem_starts.mp hs).1
  have hmem : ∀ d ∈ ringN rw_ rw_.length (ord (zs rw_)) s, d ∈ rw_ := by
    intro d hd
    unfold ringN at hd
    obtain ⟨c, _, rfl⟩ := List.mem_map.mp hd
    have hlt := S.it_lt hsn (c + 1)
    rw [List.getD, List.getElem?_eq_getElem hlt]
    exact List.getElem_mem _
  show digs (valD 0 (ringN rw_ rw_.length (ord (zs rw_)) s)) = _
  rw [digs_valD _ 0 (fun d hd => h64 d (hmem d hd)) (.inr fun d hd => h0 d (hmem d hd)), digs_zero, List.nil_append, ringN_at]
end GR
end Mine
end GrD_text
section Z2_text
open PySem PySem.W PySem.Calls PyProof.Rows
set_option maxRecDepth 100000
namespace Mine

noncomputable def known : List (Str × Option Value) := [("insort_right", some (.ref 40)), ("bisect_right", some (.ref 49)), ("_parse_varint", some (.ref 56)), ("_twin_re_1", some (.ref 61)), ("_twin_re_2", some (.ref 66)),
  ("CRLF", some (.str "\r\n" 382)), ("quotedata", some (.ref 73)), ("b1_set", some (.ref 81)), ("in_table_b1", some (.ref 91)), ("b3_exceptions", some (.ref 92)), ("map_table_b3", some (.ref 137)),
  ("_law_piece", some (.ref 144)), ("_law_sent", some (.ref 151)), ("_law_numbers", some (.ref 158)), ("_law_figures", some (.ref 165)), ("_law_lowest", some (.ref 172)), ("_law_column", some (.ref 177)), ("law", some (.ref 182)),
  ("len", none), ("range", none), ("next", none), ("iter", none), ("ord", none), ("chr", none), ("list", none), ("sum", none), ("sorted", none), ("StopIteration", none), ("ValueError", none)]
noncomputable def knownB : List (Str × Value) := [("len", .builtin "len"), ("range", .type "range"), ("next", .builtin "next"), ("iter", .builtin "iter"), ("ord", .builtin "ord"), ("chr", .builtin "chr"), ("list", .type "list"), ("sum", .builtin "sum"), ("sorted", .builtin "sorted"),
  ("StopIteration", .type "StopIteration")]

/-- what the text's top has laid (but the table of the lambda's codes) -/
structure Good (G : Heap) : Prop where
  lim : G.NoLimit
  glob : ∃ mg, G.Ns mainGlobals mg ∧ (∀ x v, known.lookup x = some v → mg x = v) ∧ G.BuiltinsAt mg 153
  blt : ∃ mb, G.Ns builtinsNs mb ∧ ∀ x v, knownB.lookup x = some v → mb x = some v
  t32 : G.get? 32 = some { cls := .type "tuple", data := .seq #[.int 0 284, .none] 0 }
  t41 : G.get? 41 = some { cls := .type "tuple", data := .seq #[.int 0 297, .none] 0 }
  f40 : FnAt G 40 2 (.ref 32) (.ref 33)
  f49 : FnAt G 49 3 (.ref 41) (.ref 42)
  f56 : FnAt G 56 5 .none .none
  f73 : FnAt G 73 10 .none .none
  f91 : FnAt G 91 13 .none .none
  f137 : FnAt G 137 15 .none .none
  f144 : FnAt G 144 17 .none .none
  f151 : FnAt G 151 18 .none .none
  f158 : ∃ o doc pm an ct, G.get? 158 = some o ∧ o.data = .func (fnOf (sName (stm 19)) (sName (stm 19)) (sParams (stm 19)) (sBody (stm 19)) (sScope (stm 19)) .none .none doc pm an (.ref 157) ct) ∧ G.CodeRec (.ref 157) (sName (stm 19))
  c157 : CodeHd G 157 153
  f165 : FnAt G 165 20 .none .none
  f172 : FnAt G 172 21 .none .none
  f177 : FnAt G 177 22 .none .none
  f182 : FnAt G 182 23 .none .none

theorem Good.keeps {G G' : Heap} (g : Good G) (k : Keep G G') : Good G' where
  lim := let ⟨mc, h1, h2⟩ := g.lim; ⟨mc, h1.keeps k, h2⟩
  glob := let ⟨mg, h1, h2, bm, o, b1, b2, b3, b4, b5, b6⟩ := g.glob; ⟨mg, h1.keeps k, h2, bm, o, b1, b2, b3, b4, k _ _ b5, b6⟩
  blt := let ⟨mg, h1, h2⟩ := g.blt; ⟨mg, h1.keeps k, h2⟩
  t32 := k _ _ g.t32
  t41 := k _ _ g.t41
  f40 := g.f40.keeps k
  f49 := g.f49.keeps k
  f56 := g.f56.keeps k
  f73 := g.f73.keeps k
  f91 := g.f91.keeps k
  f137 := g.f137.keeps k
  f144 := g.f144.keeps k
  f151 := g.f151.keeps k
  f158 := let ⟨o, doc, pm, an, ct, h1, h2, h3⟩ := g.f158; ⟨o, doc, pm, an, ct, k _ _ h1, h2, h3.keeps k⟩
  c157 := g.c157.keeps k
  f165 := g.f165.keeps k
  f172 := g.f172.keeps k
  f177 := g.f177.keeps k
  f182 := g.f182.keeps k

section
variable {w : World} {M : Model} {A : Around} {E : Value → Shared → Prop} {s : Shared} {h G : Heap} {tk : Nat} {env : Env} {name : Str} {scope : Scope} {L a : Addr} {cd : Value} {m : Str → Option Value} {news : List (Addr × Obj)}

theorem zglob {x : Str} {pos : Pos} {v : Value} {Q : Value → Shared → Prop} (g : Good G) (k : Keep G h) (hq : Q v (St s h tk)) (hx : known.lookup x = some (some v) := by rfl)
    (hk : env.scope.kind = .function := by rfl) (hl : env.kindOf x = some .globalImplicit := by rfl) (he : env.globals = mainGlobals := by rfl) (hd : (x == Str.ofString "__debug__") = false := by rfl) :
    wpAny M A (eval (.Name x pos) env) Q E (St s h tk) := by
  obtain ⟨mg, h1, h2, _⟩ := g.glob
  exact Name_function_global hk hl (loadGlobal_global (by rw [he]; exact h1.keeps k) (h2 _ _ hx) hq) hd
theorem zblt {x : Str} {pos : Pos} {v : Value} {Q : Value → Shared → Prop} (g : Good G) (k : Keep G h) (hq : Q v (St s h tk)) (hx : known.lookup x = some none := by rfl) (hy : knownB.lookup x = some v := by rfl)
    (hk : env.scope.kind = .function := by rfl) (hl : env.kindOf x = some .globalImplicit := by rfl) (he : env.globals = mainGlobals := by rfl) (hb : env.builtins = builtinsNs := by rfl) (hd : (x == Str.ofString "__debug__") = false := by rfl) :
    wpAny M A (eval (.Name x pos) env) Q E (St s h tk) := by
  obtain ⟨mg, h1, h2, _⟩ := g.glob
  obtain ⟨mb, h3, h4⟩ := g.blt
  exact Name_function_global hk hl (loadGlobal_builtin (by rw [he]; exact h1.keeps k) (h2 _ _ hx) (by rw [hb]; exact h3.keeps k) (h4 _ _ hy) hq) hd

/-- f(args): a def of the text, by position alone -/
theorem zcall {x : Str} {p pos : Pos} {e : Expr} {rest : List Expr} {f : Addr} {i : Nat} {dV kV : Value} {Q : Value → Shared → Prop} (g : Good G) (k : Keep G h) (hf : FnAt G f i dV kV)
    (hq : wpAny M A (spliced (backTo pos (starEach (e :: rest) env))) (fun vs s₁ => Keep G s₁.heap ∧ wpAny M A (call (.ref f) vs) Q E s₁) E (St s h tk))
    (hx : known.lookup x = some (some (.ref f)) := by rfl)
    (hk : env.scope.kind = .function := by rfl) (hl : env.kindOf x = some .globalImplicit := by rfl) (he : env.globals = mainGlobals := by rfl) (hd : (x == Str.ofString "__debug__") = false := by rfl)
    (h1 : starEach (e :: rest) env = (false, eval e env) :: starEach rest env := by rfl)
    (h2 : eval (.Call (.Name x p) (e :: rest) [] pos) env = (do callWith pos (← eval (.Name x p) env) [] (backTo pos (starEach (e :: rest) env)) (backToKw pos (keywordEach [] env))) := by rfl) :
    wpAny M A (eval (.Call (.Name x p) (e :: rest) [] pos) env) Q E (St s h tk) := by
  refine Call_ (zglob g k ?_ hx hk hl he hd) h2
  obtain ⟨o, doc, pm, an, cdv, ct, g1, g2, g3⟩ := hf
  exact callWith_def g2 (wpAny_mono hq (fun vs s₁ h₁ => ⟨h₁.1 _ _ g1, h₁.2⟩) fun _ _ x => x) h1

/-- len(x) and its like: one argument, by position -/
theorem zcallB {x : Str} {p pos : Pos} {e : Expr} {rest : List Expr} {id : String} {Q : Value → Shared → Prop} (g : Good G) (k : Keep G h)
    (hq : wpAny M A (spliced (backTo pos (starEach (e :: rest) env))) (fun vs s₁ => wpAny M A (call (.builtin id) vs) Q E s₁) E (St s h tk))
    (hx : known.lookup x = some none := by rfl) (hy : knownB.lookup x = some (.builtin id) := by rfl)
    (hk : env.scope.kind = .function := by rfl) (hl : env.kindOf x = some .globalImplicit := by rfl) (he : env.globals = mainGlobals := by rfl) (hb : env.builtins = builtinsNs := by rfl) (hd : (x == Str.ofString "__debug__") = false := by rfl)
    (h1 : starEach (e :: rest) env = (false, eval e env) :: starEach rest env := by rfl)
    (h3 : (backTo pos (starEach (e :: rest) env)).any (·.1) = false := by rfl)
    (h2 : eval (.Call (.Name x p) (e :: rest) [] pos) env = (do callWith pos (← eval (.Name x p) env) [] (backTo pos (starEach (e :: rest) env)) (backToKw pos (keywordEach [] env))) := by rfl) :
    wpAny M A (eval (.Call (.Name x p) (e :: rest) [] pos) env) Q E (St s h tk) := by
  refine Call_ (zblt g k ?_ hx hy hk hl he hb hd) h2
  refine callWith_builtin h3 ?_
  have hb2 : ∃ t ts, backTo pos (starEach (e :: rest) env) = (false, t) :: ts := by rw [h1]; exact ⟨_, _, rfl⟩
  obtain ⟨t, ts, ht⟩ := hb2
  rw [ht] at hq ⊢
  exact Calls.evalArgs_plain hq
/-- range(n) and its like -/
theorem zcallT {x : Str} {p pos : Pos} {e : Expr} {rest : List Expr} {T : String} {Q : Value → Shared → Prop} (g : Good G) (k : Keep G h)
    (hq : wpAny M A (spliced (backTo pos (starEach (e :: rest) env))) (fun vs s₁ => wpAny M A (call (.type T) vs) Q E s₁) E (St s h tk))
    (hx : known.lookup x = some none := by rfl) (hy : knownB.lookup x = some (.type T) := by rfl)
    (hk : env.scope.kind = .function := by rfl) (hl : env.kindOf x = some .globalImplicit := by rfl) (he : env.globals = mainGlobals := by rfl) (hb : env.builtins = builtinsNs := by rfl) (hd : (x == Str.ofString "__debug__") = false := by rfl)
    (h1 : starEach (e :: rest) env = (false, eval e env) :: starEach rest env := by rfl)
    (h3 : (backTo pos (starEach rest env)).any (·.1) = false := by rfl)
    (h2 : eval (.Call (.Name x p) (e :: rest) [] pos) env = (do callWith pos (← eval (.Name x p) env) [] (backTo pos (starEach (e :: rest) env)) (backToKw pos (keywordEach [] env))) := by rfl) :
    wpAny M A (eval (.Call (.Name x p) (e :: rest) [] pos) env) Q E (St s h tk) :=
  Call_ (zblt g k (PyProof.Rows.callWith_type1 hq h1 h3) hx hy hk hl he hb hd) h2
end

theorem fdiv_nat (a b : Nat) : Int.fdiv (a : Int) (b : Int) = ((a / b : Nat) : Int) := by rw [Int.fdiv_eq_ediv_of_nonneg _ (by omega)]; rfl
theorem fmod_nat (a b : Nat) : Int.fmod (a : Int) (b : Int) = ((a % b : Nat) : Int) := by rw [Int.fmod_eq_emod_of_nonneg _ (by omega)]; rfl
section
variable {w : World} {M : Model} {A : Around} {E : Value → Shared → Prop} {s : Shared} {h G : Heap} {tk : Nat} {name : Str} {scope : Scope} {L a : Addr} {cd : Value} {cl : List (Str × Addr)} {m : Str → Option Value} {news : List (Addr × Obj)}
theorem zldX {x : Str} {pos : Pos} {v : Value} {Q : Value → Shared → Prop} (C : Cx G L h m news) (hm : m x = some v) (hq : Q v (St s h tk))
    (hk : scope.kind = .function := by rfl) (hl : (envX name scope L a cd cl).kindOf x = some .local := by rfl) (hd : (x == Str.ofString "__debug__") = false := by rfl) :
    wpAny M A (eval (.Name x pos) (envX name scope L a cd cl)) Q E (St s h tk) := nameX_L (s := St s h tk) C.fr hm hq hk hl hd
theorem zstX {x : Str} {v : Value} {Q : Unit → Shared → Prop} (C : Cx G L h m news)
    (hq : ∀ h' tk', Cx G L h' (fun y => if y = x then some v else m y) news → Q () (St s h' tk'))
    (hk : scope.kind = .function := by rfl) (hl : (envX name scope L a cd cl).kindOf x = some .local := by rfl) :
    wpAny M A (storeName (envX name scope L a cd cl) x v) Q E (St s h tk) :=
  storeX_L (s := St s h tk) C.fr C.nw (fun h' F' N' => hq _ _ (C.back0 F' N')) hk hl
theorem zfree {x : Str} {pos : Pos} {v : Value} {c : Addr} {env : Env} {Q : Value → Shared → Prop} (hv : h.IsCell c (some v)) (hc : env.cells.lookup x = some c) (hq : Q v (St s h tk))
    (hk : env.scope.kind = .function := by rfl) (hl : env.kindOf x = some .free := by rfl) (hb : (x == ("__debug__" : Str)) = false := by decide) (hn : (x == ("__classdict__" : Str)) = false := by decide) :
    wpAny M A (eval (.Name x pos) env) Q E (St s h tk) := wpAny_Name (wpAny_loadName_free hk hl hc hv hq hn) hb
theorem zcell {x : Str} {pos : Pos} {v : Value} {c : Addr} {env : Env} {Q : Value → Shared → Prop} (hv : h.IsCell c (some v)) (hc : env.cells.lookup x = some c) (hq : Q v (St s h tk))
    (hk : env.scope.kind = .function := by rfl) (hl : env.kindOf x = some .cell := by rfl) (hb : (x == ("__debug__" : Str)) = false := by decide) :
    wpAny M A (eval (.Name x pos) env) Q E (St s h tk) := wpAny_Name (wpAny_loadName_cell hk hl hc hv hq) hb
end

section
variable {prog : Program} {w : World} {A : Around} {E : Value → Shared → Prop} {s : Shared} {h : Heap} {tk : Nat}
theorem zfdiv {x y : Int} {t u : Tok} {Q : Value → Shared → Prop} (a b : Nat) (hx : x = a) (hy : y = b) (hb : b ≠ 0) (hb2 : b < 1000000) (hq : ∀ t' tk', Q (.int ((a / b : Nat) : Int) t') (St s h tk')) :
    wpAny (model prog w) A (binaryOp .FloorDiv (.int x t) (.int y u)) Q E (St s h tk) := by
  subst hx hy
  refine floordiv_int (s := St s h tk) (by omega) ?_ (.inl (PyProof.noPylong_small (by omega)))
  rw [fdiv_nat]
  exact hq _ _
theorem zfmod {x y : Int} {t u : Tok} {Q : Value → Shared → Prop} (a b : Nat) (hx : x = a) (hy : y = b) (hb : b ≠ 0) (hq : ∀ t' tk', Q (.int ((a % b : Nat) : Int) t') (St s h tk')) :
    wpAny (model prog w) A (binaryOp .Mod (.int x t) (.int y u)) Q E (St s h tk) := by
  subst hx hy
  refine mod_int' (s := St s h tk) (by omega) ?_
  rw [fmod_nat]
  exact hq _ _
theorem zadd {x y : Int} {t u : Tok} {Q : Value → Shared → Prop} (z : Int) (hz : x + y = z) (hq : ∀ t' tk', Q (.int z t') (St s h tk')) :
    wpAny (model prog w) A (binaryOp .Add (.int x t) (.int y u)) Q E (St s h tk) := by
  subst hz
  exact add_int (s := St s h tk) (hq _ _)
theorem zsub {x y : Int} {t u : Tok} {Q : Value → Shared → Prop} (z : Int) (hz : x - y = z) (hq : ∀ t' tk', Q (.int z t') (St s h tk')) :
    wpAny (model prog w) A (binaryOp .Sub (.int x t) (.int y u)) Q E (St s h tk) := by
  subst hz
  exact sub_int (s := St s h tk) (hq _ _)
theorem zlen_list {l : Addr} {its : Array Value} {Q : Value → Shared → Prop} (n : Nat) (hl : h.IsList l its) (hn : its.size = n) (hn2 : n < 2 ^ 60) (hq : ∀ t' tk', Q (.int (n : Int) t') (St s h tk')) :
    wpAny (model prog w) A (call (.builtin "len") [.ref l]) Q E (St s h tk) := by
  subst hn
  exact call_len_list (s := St s h tk) hl (by omega) (hq _ _)
/-- l[i] -/
theorem zitem {value slice : PySem.Expr} {l : Addr} {its : Array Value} {x : Int} {t : Tok} {v : Value} {Q : Value → Shared → Prop} (i : Nat) (hl : h.IsList l its) (hx : x = i) (hi : its[i]? = some v) (hi2 : i < 2 ^ 60) (hq : Q v (St s h tk))
    (hs : subscripted slice false (.ref l) (.int x t) = operate [.ref l, .int x t] (getItem (.ref l) (.int x t)) := by rfl) :
    wpAny (model prog w) A (subscriptTail value slice (.ref l) (.int x t)) Q E (St s h tk) := by
  subst hx
  exact tail_any (s := St s h tk) hl.typeIs slot_list_getitem.lookup (wpAny_getItem_list hl (by omega) (by omega) (by simpa using hi) hq) hs
end

/-- a list of these ints stands at a -/
noncomputable def Ints (h : Heap) (a : Addr) (l : List Int) : Prop := ∃ its n, h.get? a = some (listOf its n) ∧ IntsAre its.toList l
theorem Ints.keeps {h h' : Heap} {a : Addr} {l : List Int} (x : Ints h a l) (k : Keep h h') : Ints h' a l := let ⟨its, n, e, i⟩ := x; ⟨its, n, k _ _ e, i⟩
theorem ints_len {vs : List Value} {ns : List Int} (h : IntsAre vs ns) : vs.length = ns.length := by
  induction h with
  | nil => rfl
  | cons _ _ _ ih => simp [ih]
theorem ints_append {vs us : List Value} {ns ms : List Int} (h : IntsAre vs ns) (g : IntsAre us ms) : IntsAre (vs ++ us) (ns ++ ms) := by
  induction h with
  | nil => exact g
  | cons n t _ ih => exact .cons n t ih

section
variable {prog : Program} {w : World} {M : Model} {A : Around} {E : Value → Shared → Prop} {s : Shared} {h G : Heap} {tk : Nat} {env : Env} {name : Str} {scope : Scope} {L a b : Addr} {cd : Value} {m : Str → Option Value} {news : List (Addr × Obj)}
theorem isList_of {its : Array Value} {n : Nat} (e : h.get? a = some (listOf its n)) : h.IsList a its := ⟨_, e, rfl, _, rfl⟩
theorem ilk {h h' : Heap} {its : Array Value} (x : h.IsList a its) (k : Keep h h') : h'.IsList a its := x.at fun o e => k _ _ e
theorem zadd_lists {its its2 : Array Value} {Q : Value → Shared → Prop} (C : Cx G L h m news) (h1 : h.IsList a its) (h2 : h.IsList b its2)
    (hq : ∀ l h' tk', Cx G L h' m ((l, listOf (its.toList ++ its2.toList).toArray 0) :: news) → Q (.ref l) (St s h' tk')) (hsz : its.size + its2.size ≤ sizeLine := by size_fits) :
    wpAny (model prog w) A (binaryOp .Add (.ref a) (.ref b)) Q E (St s h tk) := by
  exact add_arrays (s := St s h tk) C.fr C.nw h1 h2 (fun h' F' N' => hq _ _ _ (C.back F' N' get_top)) hsz
end
end Mine
end Z2_text
section Z4_text
open PySem PySem.W PySem.Calls PyProof.Rows
set_option maxRecDepth 100000
namespace Mine

noncomputable def sInner : Stmt → List Stmt
  | .For _ _ b _ _ => b
  | .While _ b _ _ => b
  | .If _ b _ _ => b
  | .Try b _ _ _ _ => b
  | _ => []
noncomputable def sExpr : Stmt → PySem.Expr
  | .Expr e _ => e
  | .Assign _ e _ => e
  | .Return (some e) _ => e
  | _ => .Constant .none 0 default
noncomputable def eKw : PySem.Expr → PySem.Expr
  | .Call _ _ (k :: _) _ => k.value
  | e => e
noncomputable def lamE : PySem.Expr := eKw (sExpr ((sInner ((sBody (stm 19))[1]?.getD (.Pass default))).head?.getD (.Pass default)))
noncomputable def lamParams : PySem.Expr → Arguments
  | .Lambda p _ _ _ => p
  | _ => ⟨[], [], none, [], [], none, []⟩
noncomputable def lamBody : PySem.Expr → PySem.Expr
  | .Lambda _ b _ _ => b
  | e => e
noncomputable def lamScope : PySem.Expr → Scope
  | .Lambda _ _ s _ => s
  | _ => pw.main.scope
noncomputable def lamPos : PySem.Expr → Pos
  | .Lambda _ _ _ p => p
  | _ => default

/-- a key function stands at kf: the lambda of _law_numbers over the list at ra -/
noncomputable def KeyAt (h : Heap) (kf ra : Addr) : Prop :=
  ∃ (qual : Str) (c : Addr) (pm : Value) (c' : Addr) (ctv : Value), h.get? kf = some (kla_obj "<lambda>" qual (lamParams lamE) (lamBody lamE) (lamScope lamE) [("row", c)] pm c' ctv) ∧ h.CodeRec (.ref c') qual ∧ h.IsCell c (some (.ref ra))
theorem KeyAt.keeps {h h' : Heap} {kf ra : Addr} (x : KeyAt h kf ra) (k : Keep h h') : KeyAt h' kf ra :=
  let ⟨qual, c, pm, c', ctv, h1, h2, h3⟩ := x; ⟨qual, c, pm, c', ctv, k _ _ h1, h2.keeps k, h3.keeps k⟩

theorem lam_call {w : World} {A : Around} {s : Shared} {R : Result → Shared → Prop} {kf ra : Addr} {its : Array Value} {i : Nat} {t : Tok} {x : Value} (hA : Room 900 A) (hlim : s.heap.NoLimit)
    (hkf : KeyAt s.heap kf ra) (hl : s.heap.IsList ra its) (hi : its[i]? = some x) (hi2 : i < 2 ^ 63)
    (h : ∀ h' tk, Keep s.heap h' → R (.ok (.ret x)) (St s h' tk)) :
    codeAny (model pw w) A (.call (.ref kf) ⟨[.int i t], []⟩) R s := by
  have e1 : ∀ x ∈ (lamScope lamE).names, x.2 ≠ .cell := by decide +kernel
  obtain ⟨qual, c, pm, c', ctv, h1, h2, h3⟩ := hkf
  refine kla_callFunE (by unfold recursionLimit; have := hA.2.1; omega) h1 rfl rfl rfl rfl h2 ?_
  refine BindsTo.of_eq (binds := [("spot", .int i t)]) rfl _ _ _ _ ?_
  refine wpAny_newFunctionEnv e1 (by simp; decide +kernel) (fun h₁ hns hsb => ⟨hlim.fresh _ hsb, ?_⟩) rfl
  have hk₁ : Keep s.heap h₁ := fun b o e => hsb.extBut b o (Nat.ne_of_lt (Heap.lt_size e)) (Heap.get?_push_of_some _ e)
  have C : Cx s.heap s.heap.objs.size h₁ _ [] := ⟨hns, hk₁, get_top, by simp, by simp⟩
  refine kla_codeExpr (wpAny_mono (E := fun _ _ => False) ?_ (fun _ _ x => x) fun _ _ x => x.elim)
  show wpAny _ _ (eval (lamBody lamE) (envX qual (lamScope lamE) s.heap.objs.size kf (.ref c') [("row", c)])) _ _ (St s _ _)
  refine Subscript_ (zfree (h3.keeps hk₁) rfl (zldX C rfl ?_))
  refine tail_any (ilk hl hk₁).typeIs slot_list_getitem.lookup (wpAny_getItem_list (ilk hl hk₁) (by omega) (by omega) (by simpa using hi) ?_) (by rfl)
  exact h _ _ C.keep
end Mine
end Z4_text
section Z5_text
open PySem PySem.W PySem.Calls PyProof.Rows
set_option maxRecDepth 100000
namespace Mine

section
variable {prog : Program} {w : World} {A : Around} {E : Value → Shared → Prop} {s : Shared} {h : Heap} {tk : Nat} {L : Addr}
theorem zinsertZ {l : Addr} {its : Array Value} {n k : Nat} {x : Int} {u v : Tok} {y : Int} {Q : Value → Shared → Prop} (hx : x = (k : Int)) (hl : h.get? l = some (listOf its n)) (hk : k ≤ its.size) (hsz : its.size < 100000)
    (hq : ∀ h', Heap.SameBut l h h' → (∃ j, h'.get? l = some (listOf ((its.toList.take k ++ .int y v :: its.toList.drop k).toArray) j)) → Q .none (St s h' tk)) :
    wpAny (model prog w) A (call (.builtin "list.insert") [.ref l, .int x u, .int y v]) Q E (St s h tk) := by
  have hfit : ¬(!PySem.Builtin.List.listFitsIndex x) = true := by
    have e : PySem.Builtin.List.listFitsIndex x = true := by
      simp only [PySem.Builtin.List.listFitsIndex, Bool.and_eq_true, decide_eq_true_eq]
      omega
    rw [e]; decide
  have hsl : its.size ≤ sizeLine := by rw [sizeLine_eq]; omega
  have g := PySem.AutoListH.list_insert_list_int_int_1 l its n x u y v hfit hsl
  have e2 : ((its.extract 0 k).push (Value.int y v) ++ its.extract k) = (its.toList.take k ++ .int y v :: its.toList.drop k).toArray := by
    apply Array.ext'
    simp [Array.toList_extract]
    exact List.take_of_length_le (by simp)
  have e3 : ∃ j, Obj.mapSeq (fun xs => have k := if x < 0 then (x + ((xs.size : Nat) : Int)).toNat else min x.toNat xs.size; (xs.extract 0 k).push (Value.int y v) ++ xs.extract k) (listOf its n) = listOf (its.toList.take k ++ .int y v :: its.toList.drop k).toArray j := by
    have hm : (if x < 0 then (x + ((its.size : Nat) : Int)).toNat else min x.toNat its.size) = k := by
      rw [if_neg (by omega)]; omega
    simp only [Obj.mapSeq, hm, e2]
    exact ⟨_, rfl⟩
  obtain ⟨j, e3⟩ := e3
  refine call_meets (s := St s h tk) PySem.F.slot_list_insert ⟨_, hl, rfl⟩ PySem.F.entry_list_insert (PySem.F.args_list_insert_3 _ _ _) g ⟨hl, ?_⟩
  refine hq _ (Heap.SameBut.update ..) ⟨j, ?_⟩
  rw [Heap.get?_update_self _ hl (by rw [e3]; rfl), e3]
end

/-- the key of the i-th place that is laid -/
noncomputable def kAt (row : List Int) (ord : List Nat) (i : Nat) : Int := row.getD (ord.getD i 0) 0

theorem bis_call {w : World} {A : Around} {s : Shared} {R : Result → Shared → Prop} {kf la ra : Addr} {os rs : Array Value} {ord : List Nat} {row : List Int} {x : Int} {tx t0 : Tok} (hA : Room 880 A) (g : Good s.heap)
    (hkf : KeyAt s.heap kf ra) (hla : s.heap.IsList la os) (hra : s.heap.IsList ra rs) (hos : IntsAre os.toList (zs ord)) (hrs : IntsAre rs.toList row)
    (hin : ∀ p ∈ ord, p < row.length) (hlen : ord.length < 1000) (hrl : row.length < 1000) (hsort : ∀ i j, i ≤ j → j < ord.length → kAt row ord i ≤ kAt row ord j)
    (h : ∀ (r : Nat) h' tk t, Keep s.heap h' → r ≤ ord.length → (∀ i, i < r → kAt row ord i ≤ x) → (∀ i, r ≤ i → i < ord.length → x < kAt row ord i) → R (.ok (.ret (.int r t))) (St s h' tk)) :
    codeAny (model pw w) A (.call (.ref 49) ⟨[.ref la, .int x tx, .int 0 t0, .none], [("key", .ref kf)]⟩) R s := by
  refine enter (binds := [("a", .ref la), ("x", .int x tx), ("lo", .int 0 t0), ("hi", .none), ("key", .ref kf)]) (by unfold recursionLimit; have := hA.2.1; omega) g.lim g.f49 (fun _ _ _ _ _ => BindsTo.of_defaults rfl g.t41 rfl rfl rfl) (by decide +kernel) (by simp; decide +kernel) rfl rfl rfl fun h₁ cd F => ?_
  have C := Cx.of_fr F
  have hA' := hA.deeper (envOf (sName (stm 3)) (sScope (stm 3)) s.heap.objs.size 49 cd)
  have hosz : os.size = ord.length := by have := hos.length; simpa using this
  refine wpAny_mono (E := fun _ _ => False) ?_ (fun _ _ x => x) fun _ _ x => x.elim
  refine wpAny_hide fun Q0 E0 hQ0 _ => ?_
  refine wpAny_execs_cons (wpAny_If (wpAny_isTrue_Compare1 (zld (s := s) C (by walk_at "lk") (zint fun _ _ => lt_int (wpAny_truthy_bool (split_dec (fun hp => absurd hp (by decide)) fun _ => ?_))))))
  refine wpAny_execs_nil ?_
  refine wpAny_execs_cons (wpAny_If (wpAny_isTrue_Compare1 (zld (s := s) C (by walk_at "lk") (Constant_none (wpAny_is_self rfl (wpAny_truthy_bool (ite_tt ?_)))))))
  refine wpAny_execs_cons (wpAny_Assign_Name (zcallB (s := s) g C.keep (args_cons (zld C (by walk_at "lk") (args_nil (zlen_list ord.length (ilk hla C.keep) hosz (by omega) fun t1 tk1 => zst C fun h2 tk2 C => ?_))))))
  refine wpAny_execs_nil ?_
  refine wpAny_execs_cons (wpAny_If (wpAny_isTrue_Compare1 (zld (s := s) C (by walk_at "lk") (Constant_none (is_ref_none (wpAny_truthy_bool (ite_ff ?_)))))))
  refine wpAny_execs_cons (wpAny_While ?_)
  obtain ⟨W, hW⟩ : ∃ W : Nat → Shared → Prop, ∀ k s', W k s' ↔ (∃ (h' : Heap) (tk : Nat) (mp : Str → Option Value) (lo hi : Nat) (t1 t2 : Tok), s' = St s h' tk ∧
      Cx s.heap s.heap.objs.size h' mp [] ∧ mp "a" = some (.ref la) ∧ mp "x" = some (.int x tx) ∧ mp "lo" = some (.int lo t1) ∧ mp "hi" = some (.int hi t2) ∧ mp "key" = some (.ref kf) ∧ lo ≤ hi ∧ hi ≤ ord.length ∧
      (∀ i, i < lo → kAt row ord i ≤ x) ∧ (∀ i, hi ≤ i → i < ord.length → x < kAt row ord i) ∧ k = hi - lo) := ⟨_, fun _ _ => Iff.rfl⟩
  refine codeAny_whileLoop W ?_ ord.length ((hW _ _).mpr ⟨_, _, _, 0, ord.length, _, _, rfl, C, rfl, rfl, rfl, rfl, rfl, Nat.zero_le _, Nat.le_refl _, fun i hi => absurd hi (by omega), fun i h1 h2 => absurd h1 (by omega), rfl⟩)
  rintro k s' hWk
  obtain ⟨h', tk, mp, lo, hi, u1, u2, rfl, C, m1, m2, m3, m4, m5, i1, i2, i3, i4, rfl⟩ := (hW _ _).mp hWk
  refine wpAny_hide fun Q1 E1 hQ1 _ => ?_
  refine wpAny_isTrue_Compare1 (zld C m3 (zld C m4 (lt_int (wpAny_truthy_bool (hQ1 _ _ (split_dec (fun hp => ?_) fun hp => ?_))))))
  · refine wpAny_hide fun Q2 E2 hQ2 _ => ?_
    have hlt : lo < hi := by omega
    have hmid : (lo + hi) / 2 < ord.length := by omega
    obtain ⟨p, hp1⟩ : ∃ p, ord[(lo + hi) / 2]? = some p := ⟨_, List.getElem?_eq_getElem hmid⟩
    have hpr : p < row.length := hin p (List.mem_of_getElem? hp1)
    obtain ⟨q, hq1⟩ : ∃ q, row[p]? = some q := ⟨_, List.getElem?_eq_getElem hpr⟩
    have hkq : kAt row ord ((lo + hi) / 2) = q := by simp [kAt, List.getD, hp1, hq1]
    obtain ⟨tp, hp2⟩ := hos.get ((lo + hi) / 2) p (by simp [hp1])
    obtain ⟨tq, hq2⟩ := hrs.get p q hq1
    refine wpAny_execs_cons (wpAny_Assign_Name (wpAny_BinOp (wpAny_BinOp (zld C m3 (zld C m4 (zadd ((lo + hi : Nat) : Int) (by omega) fun _ _ => zint fun _ _ => zfdiv (lo + hi) 2 rfl rfl (by decide) (by decide) fun _ _ => zst C fun h2 tk2 C => ?_))))))
    have hkf2 := hkf.keeps C.keep
    obtain ⟨qual, c, pm, c', ctv, k1, k2, k3⟩ := hkf
    refine wpAny_execs_cons (wpAny_If (wpAny_isTrue_Compare1 (zld (s := s) C (by walk_at "lk") (Call_ (zld C (by walk_at "lk") (callWith_def (o := kla_obj "<lambda>" qual (lamParams lamE) (lamBody lamE) (lamScope lamE) [("row", c)] pm c' ctv) rfl ?_)))))) 
    refine args_cons (Subscript_ (zld (s := s) C (by walk_at "lk") (zld C (by walk_at "lk") (zitem ((lo + hi) / 2) (ilk hla C.keep) rfl (by simpa using hp2) (by omega) (args_nil ⟨C.keep _ _ k1, ?_⟩)))))
    refine wpAny_call (lam_call (s := St s h2 _) (hA'.mono (by decide)) (g.lim.keeps C.keep) hkf2 (ilk hra C.keep) (by simpa using hq2) (by omega) fun h3 tk3 k3 => ?_)
    have C := C.keeps k3
    refine lt_int (wpAny_truthy_bool (split_dec (fun hp => ?_) fun hp => ?_))
    · refine wpAny_execs_cons (wpAny_Assign_Name (zld (s := s) C (by walk_at "lk") (zst C fun h4 tk4 C => ?_)))
      refine wpAny_execs_nil (wpAny_execs_nil ?_)
      refine hQ2 _ _ ⟨(lo + hi) / 2 - lo, ?_, (hW _ _).mpr ⟨h4, tk4, _, lo, (lo + hi) / 2, u1, _, rfl, C, ?_, ?_, ?_, rfl, ?_, by omega, by omega, i3, ?_, rfl⟩⟩
      · omega
      · walk_at "lk"
      · walk_at "lk"
      · walk_at "lk"
      · walk_at "lk"
      · intro i h1 h2
        have := hsort _ i h1 h2
        omega
    · refine wpAny_execs_cons (wpAny_Assign_Name (wpAny_BinOp (zld (s := s) C (by walk_at "lk") (zint fun _ _ => zadd (((lo + hi) / 2 + 1 : Nat) : Int) (by omega) fun _ _ => zst C fun h4 tk4 C => ?_))))
      refine wpAny_execs_nil (wpAny_execs_nil ?_)
      refine hQ2 _ _ ⟨hi - ((lo + hi) / 2 + 1), ?_, (hW _ _).mpr ⟨h4, tk4, _, (lo + hi) / 2 + 1, hi, _, u2, rfl, C, ?_, ?_, rfl, ?_, ?_, by omega, by omega, ?_, i4, rfl⟩⟩
      · omega
      · walk_at "lk"
      · walk_at "lk"
      · walk_at "lk"
      · walk_at "lk"
      · intro i h1
        have := hsort i ((lo + hi) / 2) (by omega) hmid
        omega
  · have hlh : lo = hi := by omega
    subst hlh
    refine wpAny_execs_nil (wpAny_execs_nil ?_)
    refine wpAny_execs_cons (wpAny_Return_some (zld (s := s) C m3 ?_))
    exact hQ0 _ _ (h _ _ _ _ C.keep i2 i3 i4)
end Mine
end Z5_text
section Z6_text
open PySem PySem.W PySem.Calls PyProof.Rows
set_option maxRecDepth 100000
namespace Mine

section
variable {w : World} {M : Model} {A : Around} {E : Value → Shared → Prop} {s : Shared} {h G : Heap} {tk : Nat} {env : Env} {name : Str} {scope : Scope} {L a : Addr} {cd : Value} {m : Str → Option Value} {news : List (Addr × Obj)}
/-- f(args, key=e): a def of the text -/
theorem zcallK {x : Str} {p pos kp : Pos} {e ve : PySem.Expr} {rest : List PySem.Expr} {key : Str} {f : Addr} {i : Nat} {dV kV : Value} {Q : Value → Shared → Prop} (g : Good G) (k : Keep G h) (hf : FnAt G f i dV kV)
    (hq : wpAny M A (spliced (backTo pos (starEach (e :: rest) env))) (fun vs s₁ => wpAny M A (eval ve env) (fun kv s₂ => Keep G s₂.heap ∧ wpAny M A (call (.ref f) vs [(key, kv)]) Q E s₂) E s₁) E (St s h tk))
    (hx : known.lookup x = some (some (.ref f)) := by rfl)
    (hk : env.scope.kind = .function := by rfl) (hl : env.kindOf x = some .globalImplicit := by rfl) (he : env.globals = mainGlobals := by rfl) (hd : (x == Str.ofString "__debug__") = false := by rfl)
    (h1 : backTo pos (starEach (e :: rest) env) = (false, eval e env) :: backTo pos (starEach rest env) := by rfl)
    (h2 : eval (.Call (.Name x p) (e :: rest) [⟨some key, ve, kp⟩] pos) env = (do callWith pos (← eval (.Name x p) env) [] (backTo pos (starEach (e :: rest) env)) (backToKw pos (keywordEach [⟨some key, ve, kp⟩] env))) := by rfl)
    (h3 : backToKw pos (keywordEach [⟨some key, ve, kp⟩] env) = [(some key, do let v ← eval ve env; standAt pos; pure v)] := by rfl) :
    wpAny M A (eval (.Call (.Name x p) (e :: rest) [⟨some key, ve, kp⟩] pos) env) Q E (St s h tk) := by
  rw [h2]
  refine wpAny_bind (zglob g k ?_ hx hk hl he hd)
  obtain ⟨o, doc, pm, an, cdv, ct, g1, g2, g3⟩ := hf
  refine callWith_def_kw (o := o) g2 ?_
  rw [h3]
  rw [h1] at hq ⊢
  refine evalArgs_kw rfl (wpAny_mono hq (fun vs s₁ h₁ => ?_) fun _ _ x => x)
  refine wpAny_evalAll_cons (wpAny_bind (wpAny_mono h₁ (fun kv s₂ h₂ => wpAny_bind (wpAny_standAt (wpAny_pure ?_))) fun _ _ x => x))
  exact wpAny_evalAll_nil ⟨h₂.1 _ _ g1, h₂.2⟩

/-- o.name(args): a method of a built-in type -/
theorem zmeth {prog : Program} {s : Shared} {o e : PySem.Expr} {x : Str} {apos pos : Pos} {rest : List PySem.Expr} {T id : String} {Q : Value → Shared → Prop} (plain : PlainAttrs T) (slot : Slot T x id) (ty : typeOf (.builtin id) = pure (.type "method_descriptor"))
    (hq : wpAny (model prog w) A (eval o env) (fun ov s₁ => s₁.TypeIs ov T ∧ (∀ a : Addr, ov = .ref a → ∃ ob, s₁.heap.get? a = some ob ∧ ob.dict = none) ∧
      wpAny (model prog w) A (spliced (backTo pos (starEach (e :: rest) env))) (fun vs s₂ => wpAny (model prog w) A (call (.builtin id) (ov :: vs)) Q E s₂) E s₁) E s)
    (hb : attributeBase o x env (eval o env) = eval o env := by rfl)
    (hn : (((backTo pos (starEach (e :: rest) env)).all fun x => !x.1) && ((backToKw pos (keywordEach [] env)).all fun x => x.1.isSome) && decide (((e :: rest).length + ([] : List Keyword).length + if ([] : List Keyword).isEmpty = true then 0 else 1) < 30)) = true := by rfl)
    (hl : (apos.endLine == pos.line) = true := by rfl)
    (h1 : starEach (e :: rest) env = (false, eval e env) :: starEach rest env := by rfl)
    (h3 : (backTo pos (starEach (e :: rest) env)).any (·.1) = false := by rfl) :
    wpAny (model prog w) A (eval (.Call (.Attribute o x apos) (e :: rest) [] pos) env) Q E s := by
  refine wpAny_Call_method hb hn hl plain slot ty (wpAny_mono hq (fun ov s₁ h₁ => ⟨h₁.1, h₁.2.1, ?_⟩) fun _ _ x => x)
  refine callWith_builtin h3 ?_
  have h2 := h₁.2.2
  have hb2 : ∃ t ts, backTo pos (starEach (e :: rest) env) = (false, t) :: ts := by rw [h1]; exact ⟨_, _, rfl⟩
  obtain ⟨t, ts, ht⟩ := hb2
  rw [ht] at h2 ⊢
  exact Calls.evalArgs_plain h2
end

theorem ins_call {w : World} {A : Around} {s : Shared} {R : Result → Shared → Prop} {kf la ra : Addr} {os rs : Array Value} {n : Nat} {ord : List Nat} {row : List Int} {p : Nat} {tp : Tok} (hA : Room 870 A) (g : Good s.heap)
    (hkf : KeyAt s.heap kf ra) (hla : s.heap.get? la = some (listOf os n)) (hra : s.heap.IsList ra rs) (hos : IntsAre os.toList (zs ord)) (hrs : IntsAre rs.toList row)
    (hin : ∀ p ∈ ord, p < row.length) (hp : p < row.length) (hlen : ord.length < 1000) (hrl : row.length < 1000) (hsort : ∀ i j, i ≤ j → j < ord.length → kAt row ord i ≤ kAt row ord j)
    (h : ∀ (r : Nat) h' tk, (∀ b o, b ≠ la → s.heap.get? b = some o → h'.get? b = some o) → r ≤ ord.length → (∀ i, i < r → kAt row ord i ≤ row.getD p 0) → (∀ i, r ≤ i → i < ord.length → row.getD p 0 < kAt row ord i) →
      (∃ os' j, h'.get? la = some (listOf os' j) ∧ IntsAre os'.toList (zs (ord.take r ++ p :: ord.drop r))) → R (.ok (.ret .none)) (St s h' tk)) :
    codeAny (model pw w) A (.call (.ref 40) ⟨[.ref la, .int p tp], [("key", .ref kf)]⟩) R s := by
  refine enter (binds := [("a", .ref la), ("x", .int p tp), ("lo", .int 0 284), ("hi", .none), ("key", .ref kf)]) (by unfold recursionLimit; have := hA.2.1; omega) g.lim g.f40 (fun _ _ _ _ _ => BindsTo.of_defaults rfl g.t32 rfl rfl rfl) (by decide +kernel) (by simp; decide +kernel) rfl rfl rfl fun h₁ cd F => ?_
  have C := Cx.of_fr F
  have hA' := hA.deeper (envOf (sName (stm 2)) (sScope (stm 2)) s.heap.objs.size 40 cd)
  have hosz : os.size = ord.length := by have := hos.length; simpa using this
  obtain ⟨q, hq1⟩ : ∃ q, row[p]? = some q := ⟨_, List.getElem?_eq_getElem hp⟩
  obtain ⟨tq, hq2⟩ := hrs.get p q hq1
  have hq3 : row.getD p 0 = q := by simp [List.getD, hq1]
  have hkf1 := hkf
  obtain ⟨qual, c, pm, c', ctv, k1, k2, k3⟩ := hkf
  refine wpAny_mono (E := fun _ _ => False) ?_ (fun _ _ x => x) fun _ _ x => x.elim
  refine wpAny_execs_cons (wpAny_If (wpAny_isTrue_Compare1 (zld (s := s) C (by walk_at "lk") (Constant_none (is_ref_none (wpAny_truthy_bool (ite_ff ?_)))))))
  refine wpAny_execs_cons (wpAny_Assign_Name (zcallK (s := s) g C.keep g.f49 ?_))
  refine args_cons (zld (s := s) C (by walk_at "lk") (args_cons ?_))
  refine Call_ (zld (s := s) C (by walk_at "lk") (callWith_def (o := kla_obj "<lambda>" qual (lamParams lamE) (lamBody lamE) (lamScope lamE) [("row", c)] pm c' ctv) rfl (args_cons (zld (s := s) C (by walk_at "lk") (args_nil ⟨C.keep _ _ k1, ?_⟩)))))
  refine wpAny_call (lam_call (s := St s h₁ _) (hA'.mono (by decide)) (g.lim.keeps C.keep) (hkf1.keeps C.keep) (ilk hra C.keep) (by simpa using hq2) (by omega) fun h3 tk3 kp3 => ?_)
  have C := C.keeps kp3
  refine args_cons (zld (s := s) C (by walk_at "lk") (args_cons (zld (s := s) C (by walk_at "lk") (args_nil (zld (s := s) C (by walk_at "lk") ⟨C.keep, ?_⟩)))))
  refine wpAny_call (bis_call (s := St s h3 _) (hA'.mono (by decide)) (g.keeps C.keep) (hkf1.keeps C.keep) (isList_of (C.keep _ _ hla)) (ilk hra C.keep) hos hrs hin hlen hrl hsort fun r h4 tk4 t4 kp4 b1 b2 b3 => ?_)
  have C := C.keeps kp4
  refine zst (s := s) C fun h5 tk5 C => ?_
  refine wpAny_execs_nil ?_
  have hla5 := C.keep _ _ hla
  refine wpAny_execs_cons (wpAny_Expr (zmeth PySem.F.plainAttrs_list PySem.F.slot_list_insert PySem.F.type_list_insert ?_))
  refine zld (s := s) (v := .ref la) C (by walk_at "lk") ⟨⟨_, hla5, rfl⟩, fun a e => ⟨_, by cases e; exact hla5, rfl⟩, ?_⟩
  refine args_cons (zld (s := s) C (by walk_at "lk") (args_cons (zld (s := s) C (by walk_at "lk") (args_nil (zinsertZ (k := r) rfl hla5 (by omega) (by omega) fun h6 sb hj => ?_)))))
  refine wpAny_execs_nil ?_
  refine h r h6 _ (fun b o hb e => sb.extBut b o hb (C.keep _ _ e)) b1 (fun i hi => hq3 ▸ b2 i hi) (fun i h1 h2 => hq3 ▸ b3 i h1 h2) ?_
  obtain ⟨j, hj⟩ := hj
  refine ⟨_, j, hj, ?_⟩
  show IntsAre (os.toList.take r ++ .int p tp :: os.toList.drop r) _
  have e1 := hos.take r
  have e2 := hos.drop r
  rw [← List.map_take] at e1
  rw [← List.map_drop] at e2
  show IntsAre _ ((ord.take r ++ p :: ord.drop r).map fun n : Nat => (n : Int))
  rw [List.map_append, List.map_cons]
  exact IntsAre.append e1 (.cons _ _ e2)
end Mine
end Z6_text
section Z10_text
open PySem PySem.W PySem.Calls PyProof.Rows
set_option maxRecDepth 100000
namespace Mine

noncomputable def rit (x left : Nat) : Obj := { cls := .type "range_iterator", dict := none, data := .fields #[rawInt x, rawInt left, rawInt 1], slots := #[] }

section
variable {prog : Program} {w : World} {A : Around} {s : Shared} {R : Result → Shared → Prop} {env : Env} {G h : Heap} {tk : Nat} {I : Addr} {m : Str → Option Value} {news : List (Addr × Obj)}

theorem zrange {E : Value → Shared → Prop} {L : Addr} (a b n : Nat) {t : Tok} {x y : Int} {u : Tok} {Q : Value → Shared → Prop} (C : Cx G L h m news) (hx : x = a) (hy : y = b) (hn : n = b - a) (hb : b < 100000) (ha : a < 100000)
    (hq : ∀ h' tk' I, Cx G L h' m ((I, rit a n) :: news) → Q (.ref I) (St s h' tk')) :
    wpAny (model prog w) A (call (.type "range") [.int x t, .int y u]) (fun x s₁ => wpAny (model prog w) A (pyIter x) Q E s₁) E (St s h tk) := by
  subst hx hy hn
  refine call_range_2 (s := St s h tk) ?_
  refine wpAny_pyIter_range (a := a) (b := b) (c := 1) (Heap.get?_push_size _ rfl) (small_one (by omega) (by omega) (by omega) (by omega)) ?_
  refine hq _ _ _ (C.fresh (a := (h.push _).objs.size) (o := rit a (b - a)) ?_ ?_ ?_)
  · refine get_above ?_
    rw [Heap.size_push]
    exact Nat.le_succ _
  · exact fun b o e => Heap.get?_push_of_some _ (Heap.get?_push_of_some _ e)
  · rw [rangeSize_nat]
    refine (Heap.get?_push_size _ rfl).trans ?_
    rw [show (((b : Int) - (a : Int)).toNat : Nat) = b - a by omega]
    rfl
theorem zrange1 {E : Value → Shared → Prop} {L : Addr} (n : Nat) {t : Tok} {x : Int} {Q : Value → Shared → Prop} (C : Cx G L h m news) (hx : x = n) (hn : n < 100000)
    (hq : ∀ h' tk' I, Cx G L h' m ((I, rit 0 n) :: news) → Q (.ref I) (St s h' tk')) :
    wpAny (model prog w) A (call (.type "range") [.int x t]) (fun x s₁ => wpAny (model prog w) A (pyIter x) Q E s₁) E (St s h tk) := by
  subst hx
  refine call_range_1 (s := St s h tk) ?_
  refine wpAny_pyIter_range (a := 0) (b := n) (c := 1) (Heap.get?_push_size _ rfl) (small_one (by omega) (by omega) (by omega) (by omega)) ?_
  refine hq _ _ _ (C.fresh (a := (h.push _).objs.size) (o := rit 0 n) ?_ ?_ ?_)
  · refine get_above ?_
    rw [Heap.size_push]
    exact Nat.le_succ _
  · exact fun b o e => Heap.get?_push_of_some _ (Heap.get?_push_of_some _ e)
  · rw [rangeSize_nat]
    refine (Heap.get?_push_size _ rfl).trans ?_
    rw [show (((n : Int) - (0 : Int)).toNat : Nat) = n by omega]
    rfl
/-- iter(l), or the for's own -/
theorem zpyIter {E : Value → Shared → Prop} {L l : Addr} {items : Array Value} {Q : Value → Shared → Prop} (C : Cx G L h m news) (hl : h.IsList l items)
    (hq : ∀ h' tk' I oI, Cx G L h' m ((I, oI) :: news) → oI.cls = .type "list_iterator" → oI.data = .fields #[.ref l, .int (0 : Nat) 0] → Q (.ref I) (St s h' tk')) :
    wpAny (model prog w) A (pyIter (.ref l)) Q E (St s h tk) :=
  wpAny_pyIter_list (s := St s h tk) hl (hq _ _ _ _ (C.fresh (a := h.objs.size) get_top (fun b o e => Heap.get?_push_of_some _ e) (Heap.get?_push_size _ rfl)) rfl rfl)
theorem zforRange {x : Str} {px : Pos} {body : List Stmt} (a n : Nat) (J : Nat → Heap → (Str → Option Value) → List (Addr × Obj) → Prop) (hh : A.handled = none)
    (C : Cx G env.locals h m ((I, rit a n) :: news)) (h0 : J 0 G m news)
    (step : ∀ i G h m news tk t, i < n → J i G m news → Cx G env.locals h (fun y => if y = x then some (.int ((a + i : Nat) : Int) t) else m y) ((I, rit (a + i + 1) (n - i - 1)) :: news) →
      wpAny (model prog w) A (execs body env) (fun fl s' => match fl with
        | .next | .cont => ∃ G' h' m' news' tk', s' = St s h' tk' ∧ Cx G' env.locals h' m' ((I, rit (a + i + 1) (n - i - 1)) :: news') ∧ J (i + 1) G' m' news'
        | .brk => False
        | .ret v => R (.ok (.ret v)) s') (fun _ _ => False) (St s h tk))
    (done : ∀ G h m news tk, J n G m news → Cx G env.locals h m news → R (.ok .next) (St s h tk))
    (hl : env.kindOf x = some .local := by rfl) (hp : (env.scope.kind == .class || (env.scope.kind == .module && env.locals != env.globals)) = false := by rfl) :
    codeAny (model prog w) A (.forLoop (.Name x px) (.ref I) body [] env) R (St s h tk) := by
  refine codeAny_forLoop (fun k s' => ∃ i G h m news tk, i ≤ n ∧ k = n - i ∧ s' = St s h tk ∧ Cx G env.locals h m ((I, rit (a + i) (n - i)) :: news) ∧ J i G m news) ?_ n ⟨0, G, h, m, news, tk, Nat.zero_le _, rfl, rfl, C, h0⟩
  rintro k s' ⟨i, G, h, m, news, tk, hi, rfl, rfl, C, hJ⟩
  by_cases hlt : i < n
  · have hit : IsRangeIter h I ((a + i : Nat) : Int) ((n - i : Nat) : Int) 1 := C.hd
    refine wpAny_pyNext_range_item (s := St s h tk) hit (by omega) fun h1 hit1 sb => ?_
    have C := C.up (Up.here (o' := rit (a + i + 1) (n - i - 1))) (fun b o hb e => sb.extBut b o hb e) (by
      rw [show h1.get? I = _ from hit1]
      have e1 : ((a + i : Nat) : Int) + 1 = ((a + i + 1 : Nat) : Int) := by omega
      have e2 : ((n - i : Nat) : Int) - 1 = ((n - i - 1 : Nat) : Int) := by omega
      rw [e1, e2]; rfl)
    refine wpAny_assign_Name (zstE (s := s) C (fun h2 tk2 C => ?_) hl hp)
    refine wpAny_mono (step i G h2 m news tk2 _ hlt hJ C) (fun fl s' hs => ?_) fun _ _ x => x.elim
    cases fl with
    | next =>
      obtain ⟨G', h', m', news', tk', rfl, C', hJ'⟩ := hs
      exact ⟨_, by omega, i + 1, G', h', m', news', tk', hlt, rfl, rfl, C', hJ'⟩
    | cont =>
      obtain ⟨G', h', m', news', tk', rfl, C', hJ'⟩ := hs
      exact ⟨_, by omega, i + 1, G', h', m', news', tk', hlt, rfl, rfl, C', hJ'⟩
    | brk => exact hs.elim
    | ret v => exact hs
  · have hin : i = n := by omega
    subst hin
    have hit : IsRangeIter h I ((a + i : Nat) : Int) ((i - i : Nat) : Int) 1 := C.hd
    refine wpAny_pyNext_range_end (s := St s h tk) hh hit (by omega) fun h1 eb => ?_
    refine wpAny_execs_nil ?_
    exact done G h1 m news tk hJ (C.drop eb)

theorem zforList {x : Str} {px : Pos} {body : List Stmt} {l : Addr} {items : Array Value} {oI : Obj} (J : Nat → Heap → (Str → Option Value) → List (Addr × Obj) → Prop) (hh : A.handled = none)
    (C : Cx G env.locals h m ((I, oI) :: news)) (hc : oI.cls = .type "list_iterator") (hd : oI.data = .fields #[.ref l, .int (0 : Nat) 0]) (h0 : J 0 G m news) (hJl : ∀ i G m news, J i G m news → G.IsList l items)
    (step : ∀ i v G h m news tk oI, items[i]? = some v → J i G m news → Cx G env.locals h (fun y => if y = x then some v else m y) ((I, oI) :: news) →
      wpAny (model prog w) A (execs body env) (fun fl s' => match fl with
        | .next | .cont => ∃ G' h' m' news' tk', s' = St s h' tk' ∧ Cx G' env.locals h' m' ((I, oI) :: news') ∧ J (i + 1) G' m' news'
        | .brk => False
        | .ret v => R (.ok (.ret v)) s') (fun _ _ => False) (St s h tk))
    (done : ∀ G h m news tk, J items.size G m news → Cx G env.locals h m news → R (.ok .next) (St s h tk))
    (hl : env.kindOf x = some .local := by rfl) (hp : (env.scope.kind == .class || (env.scope.kind == .module && env.locals != env.globals)) = false := by rfl) :
    codeAny (model prog w) A (.forLoop (.Name x px) (.ref I) body [] env) R (St s h tk) := by
  refine codeAny_forLoop (fun k s' => ∃ i G h m news tk oI, i ≤ items.size ∧ k = items.size - i ∧ s' = St s h tk ∧ Cx G env.locals h m ((I, oI) :: news) ∧ oI.cls = .type "list_iterator" ∧ oI.data = .fields #[.ref l, .int (i : Nat) 0] ∧ J i G m news) ?_ items.size ⟨0, G, h, m, news, tk, oI, Nat.zero_le _, rfl, rfl, C, hc, hd, h0⟩
  rintro k s' ⟨i, G, h, m, news, tk, oI, hi, rfl, rfl, C, hc, hd, hJ⟩
  have hlst := ilk (hJl _ _ _ _ hJ) C.keep
  by_cases hlt : i < items.size
  · refine wpAny_pyNext_list_item (s := St s h tk) (x := items[i]) ⟨oI, C.hd, hc, hd⟩ hlst (by simp [hlt]) fun h1 hit1 sb => ?_
    obtain ⟨o1, ho1, hc1, hd1⟩ := hit1
    have C := C.up Up.here (fun b o hb e => sb.extBut b o hb e) ho1
    refine wpAny_assign_Name (zstE (s := s) C (fun h2 tk2 C => ?_) hl hp)
    refine wpAny_mono (step i _ G h2 m news tk2 _ (by simp [hlt]) hJ C) (fun fl s' hs => ?_) fun _ _ x => x.elim
    cases fl with
    | next =>
      obtain ⟨G', h', m', news', tk', rfl, C', hJ'⟩ := hs
      exact ⟨_, by omega, i + 1, G', h', m', news', tk', _, hlt, rfl, rfl, C', hc1, hd1, hJ'⟩
    | cont =>
      obtain ⟨G', h', m', news', tk', rfl, C', hJ'⟩ := hs
      exact ⟨_, by omega, i + 1, G', h', m', news', tk', _, hlt, rfl, rfl, C', hc1, hd1, hJ'⟩
    | brk => exact hs.elim
    | ret v => exact hs
  · have hin : i = items.size := by omega
    subst hin
    refine wpAny_pyNext_list_end (s := St s h tk) hh ⟨oI, C.hd, hc, hd⟩ hlst (by simp) fun h1 eb => ?_
    refine wpAny_execs_nil ?_
    exact done G h1 m news tk hJ (C.drop eb)
end
end Mine
end Z10_text
section C1_text
open PySem PySem.W PySem.Calls PyProof.Rows
set_option maxRecDepth 100000
namespace Mine

/-- which turns are taken -/
noncomputable def took (p : Nat → Bool) (i : Nat) : List Nat := (List.range i).filter p
theorem took_succ (p : Nat → Bool) (i : Nat) : took p (i + 1) = took p i ++ (if p i = true then [i] else []) := by
  unfold took
  rw [List.range_succ, List.filter_append]
  by_cases h : p i = true <;> simp [h]
theorem took_len (p : Nat → Bool) (i : Nat) : (took p i).length ≤ i := by
  have := List.length_filter_le p (List.range i)
  simpa [took] using this

/-- what has been made anew lies still from now on -/
theorem Cx.freezeF {G h h' : Heap} {L : Addr} {m : Str → Option Value} {news : List (Addr × Obj)} (C : Cx G L h m news) (k : Keep h h') :
    ∃ G', Cx G' L h' m news ∧ Keep G G' ∧ (∀ b o, h.get? b = none → h'.get? b = some o → G'.get? b = some o) := by
  obtain ⟨G', C', kG, hold⟩ := (C.keeps k).freeze
  refine ⟨G', C', kG, fun b o hn e => hold b o e ?_ ?_⟩
  · rintro rfl
    obtain ⟨o, es, ep, e, r⟩ := C.ns
    rw [hn] at e; cases e
  · intro p hp q
    have := (C.led p hp).1
    rw [q, hn] at this; cases this
/-- the ledger's first objects lie still from now on -/
theorem Cx.layN {G h : Heap} {L : Addr} {m : Str → Option Value} {news : List (Addr × Obj)} (C : Cx G L h m news) (k : Nat) :
    ∃ G', Cx G' L h m (news.drop k) ∧ Keep G G' ∧ ∀ p ∈ news.take k, G'.get? p.1 = some p.2 := by
  obtain ⟨G', C', kG, hold⟩ := (C.dropN k).freeze
  refine ⟨G', C', kG, fun p hp => ?_⟩
  have hm : p ∈ news := List.mem_of_mem_take hp
  refine hold _ _ (C.led p hm).1 (C.led p hm).2.1 fun q hq e => ?_
  have hnd := C.nd
  rw [← List.take_append_drop k news, List.map_append, List.nodup_append] at hnd
  exact hnd.2.2 p.1 (List.mem_map_of_mem hp) q.1 (List.mem_map_of_mem hq) e.symm
theorem Cx.perm {G h : Heap} {L : Addr} {m : Str → Option Value} {news news' : List (Addr × Obj)} (C : Cx G L h m news) (p : news'.Perm news) : Cx G L h m news' :=
  ⟨C.ns, C.keep, C.gl, fun q hq => C.led q (p.mem_iff.mp hq), (p.map _).nodup_iff.mpr C.nd⟩
theorem Cx.inner {G h h' : Heap} {L Cc : Addr} {oL : Obj} {m m' : Str → Option Value} {news : List (Addr × Obj)} (C : Cx G L h m news) (k : Keep h h') (hc : h.get? Cc = none) (hn : h'.Ns Cc m') (hL : h.get? L = some oL) : Cx G Cc h' m' ((L, oL) :: news) := by
  refine ⟨hn, C.keep.tr k, ?_, ?_, ?_⟩
  · cases hg : G.get? Cc with
    | none => rfl
    | some o => rw [C.keep _ _ hg] at hc; cases hc
  · intro p hp
    rcases List.mem_cons.mp hp with rfl | hp
    · refine ⟨k _ _ hL, ?_, C.gl⟩
      rintro e
      have e : L = Cc := e
      rw [e, hc] at hL
      cases hL
    · refine ⟨k _ _ (C.led p hp).1, ?_, (C.led p hp).2.2⟩
      intro e
      have := (C.led p hp).1
      rw [e, hc] at this
      cases this
  · refine List.nodup_cons.mpr ⟨?_, C.nd⟩
    intro hm
    obtain ⟨p, hp, e⟩ := List.mem_map.mp hm
    exact (C.led p hp).2.1 e
theorem Cx.outer {G h : Heap} {L Cc : Addr} {oL : Obj} {m m' : Str → Option Value} {news : List (Addr × Obj)} (C : Cx G Cc h m' ((L, oL) :: news)) (hn : h.Ns L m) : ∃ oC, Cx G L h m ((Cc, oC) :: news) := by
  obtain ⟨oC, es, ep, e, r⟩ := C.ns
  have hL := C.led _ (.head _)
  have nd := List.nodup_cons.mp C.nd
  refine ⟨oC, hn, C.keep, hL.2.2, ?_, ?_⟩
  · intro p hp
    rcases List.mem_cons.mp hp with rfl | hp
    · exact ⟨e, Ne.symm hL.2.1, C.gl⟩
    · refine ⟨(C.led p (.tail _ hp)).1, ?_, (C.led p (.tail _ hp)).2.2⟩
      intro q
      exact nd.1 (List.mem_map.mpr ⟨p, hp, q⟩)
  · refine List.nodup_cons.mpr ⟨?_, nd.2⟩
    intro hm
    obtain ⟨p, hp, q⟩ := List.mem_map.mp hm
    exact (C.led p (.tail _ hp)).2.1 q

section
variable {w : World} {A : Around} {E : Value → Shared → Prop} {s : Shared} {env : Env} {G h : Heap} {tk : Nat} {L I : Addr} {m : Str → Option Value} {news : List (Addr × Obj)}

/-- the comprehension's loop -/
theorem zcompLoop {elt iter : PySem.Expr} {x : Str} {px : Pos} {ifs : List PySem.Expr} {scope : Scope} {pos : Pos} {D : Addr} {fp : List Addr} {n : Nat} {P : Nat → Value → Prop} {S : Nat → Heap → Prop} {cenv : Env} {oI : Obj}
    {R : Result → Shared → Prop} (W : Walks pw w A I fp [I] n P S) (p : Nat → Bool) (F : Heap → Nat → Value → Prop) (hF : ∀ G G' i v, Keep G G' → F G i v → F G' i v)
    (hlive : ∀ i h, S i h → ∃ o, h.get? I = some o) (hfp : ∀ b ∈ fp, b = I ∨ ∃ o, G.get? b = some o) (hx : cenv.kindOf x = some .local) (hp : (cenv.scope.kind == .class || (cenv.scope.kind == .module && cenv.locals != cenv.globals)) = false)
    (C : Cx G cenv.locals h m ((I, oI) :: (D, listOf #[] 0) :: news)) (hS : S 0 h) (hn : n < 100000)
    (step : ∀ i v G2 h2 tk2 m2 news2 E', i < n → P i v → Keep G G2 → Cx G2 cenv.locals h2 m2 news2 → m2 x = some v →
      wpAny (model pw w) A (forIn ifs true fun c r => if r = true then do let ok ← isTrue c cenv (eval c cenv); pure (ForInStep.yield ok) else pure (ForInStep.yield r))
        (fun ok s₃ => ok = p i ∧ ∃ G3 h3 tk3 m3, s₃ = St s h3 tk3 ∧ Keep G2 G3 ∧ Cx G3 cenv.locals h3 m3 news2 ∧ m3 x = some v ∧ (ok = true →
          wpAny (model pw w) A (eval elt cenv) (fun y s₄ => ∃ G4 h4 tk4 m4, s₄ = St s h4 tk4 ∧ Keep G3 G4 ∧ Cx G4 cenv.locals h4 m4 news2 ∧ F G4 i y) E' s₃)) E' (St s h2 tk2))
    (hR : ∀ G' h' tk' m' ys j, Keep G G' → Cx G' cenv.locals h' m' ((D, listOf ys j) :: news) → Paired (F G') (took p n) ys.toList → R (.ok .next) (St s h' tk')) :
    codeAny (model pw w) A (.compLoop (.ListComp elt [⟨.Name x px, iter, ifs, 0⟩] scope pos) 0 (.ref I) (.ref D) cenv) R (St s h tk) := by
  obtain ⟨V, hV⟩ : ∃ V : Nat → Shared → Prop, ∀ k s', V k s' ↔ (∃ i G' h' tk' m' ys j oI', i ≤ n ∧ s' = St s h' tk' ∧ Keep G G' ∧ Cx G' cenv.locals h' m' ((I, oI') :: (D, listOf ys j) :: news) ∧ S i h' ∧ Paired (F G') (took p i) ys.toList ∧ k = n - i) := ⟨_, fun _ _ => Iff.rfl⟩
  refine codeAny_compLoop_tests V ?_ n ((hV _ _).mpr ⟨0, G, h, tk, m, #[], 0, oI, Nat.zero_le _, rfl, Keep.rfl', C, hS, .nil, rfl⟩)
  rintro k s' hVk
  obtain ⟨i, G1, h1, tk1, m1, ys, j, oI1, hi, rfl, kG, C, hS, hys, rfl⟩ := (hV _ _).mp hVk
  have hfp1 : ∀ b ∈ fp, b = I ∨ ∃ o, G1.get? b = some o := fun b hb => (hfp b hb).imp id fun ⟨o, e⟩ => ⟨o, kG _ _ e⟩
  by_cases hlt : i < n
  · refine W.item i (St s h1 tk1) _ _ hlt hS fun v h2 tk2 hv hS2 k2 => ?_
    obtain ⟨oI2, hI2⟩ := hlive _ _ hS2
    have C := C.up .here (fun b o hb e => k2 b o (by simpa using hb) e) hI2
    have hfr : ∀ h' m' G2 ys' j', Keep G1 G2 → Cx G2 cenv.locals h' m' ((I, oI2) :: (D, listOf ys' j') :: news) → S (i + 1) h' := by
      intro h' m' G2 ys' j' kG2 C2
      refine W.frame _ _ _ hS2 fun b hb o e => ?_
      rcases hfp1 b hb with rfl | ⟨o', e'⟩
      · rw [hI2] at e
        cases e
        exact (C2.led (b, oI2) (by simp)).1
      · have e2 := C.keep _ _ e'
        rw [e] at e2
        cases e2
        exact C2.keep _ _ (kG2 _ _ e')
    refine wpAny_assign_Name (zstE (s := s) C (fun h3 tk3 C => ?_) hx hp)
    refine wpAny_mono (step i v G1 h3 tk3 _ _ _ hlt hv kG C (if_pos rfl)) (fun ok s₃ hs => ?_) fun _ _ x => x
    obtain ⟨rfl, G3, h4, tk4, m4, rfl, kG3, C, hm4, hel⟩ := hs
    by_cases hpi : p i = true
    · rw [if_pos hpi]
      refine wpAny_mono (hel hpi) (fun y s₄ hs => ?_) fun _ _ x => x
      obtain ⟨G4, h5, tk5, m5, rfl, kG4, C, hy⟩ := hs
      have hysz : ys.size ≤ i := by
        have h1 := hys.length
        have h2 := took_len p i
        simp at h1
        omega
      refine append_at (s := St s h5 tk5) (C.led (D, listOf ys j) (by simp)).1 (fun h6 sb hD6 => ?_) (by rw [sizeLine_eq]; omega)
      have C := C.up (.there .here) (fun b o hb e => sb.extBut b o hb e) hD6
      have kk := (kG3.tr kG4)
      refine ⟨n - (i + 1), by omega, (hV _ _).mpr ⟨i + 1, G4, h6, tk5, m5, _, _, oI2, hlt, rfl, kG.tr kk, C, hfr _ _ _ _ _ kk C, ?_, rfl⟩⟩
      rw [took_succ, if_pos hpi, Array.toList_push]
      exact (hys.mono fun _ _ f => hF _ _ _ _ kk f).snoc hy
    · rw [if_neg hpi]
      refine ⟨n - (i + 1), by omega, (hV _ _).mpr ⟨i + 1, G3, h4, tk4, m4, ys, j, oI2, hlt, rfl, kG.tr kG3, C, hfr _ _ _ _ _ kG3 C, ?_, rfl⟩⟩
      rw [took_succ, if_neg hpi, List.append_nil]
      exact hys.mono fun _ _ f => hF _ _ _ _ kG3 f
  · have hin : i = n := by omega
    subst hin
    refine W.done (St s h1 tk1) _ _ hS fun h2 tk2 k2 => ?_
    exact hR G1 h2 tk2 m1 ys j kG (C.drop fun b o hb e => k2 b o (by simpa using hb) e) hys

/-- what an element's evaluation shows -/
noncomputable def StepOk (w : World) (A : Around) (s : Shared) (G : Heap) (x : Str) (ifs : List PySem.Expr) (elt : PySem.Expr) (p : Nat → Bool) (F : Heap → Nat → Value → Prop) (n : Nat) (P : Nat → Value → Prop) (cenv : Env) : Prop :=
  ∀ i v G2 h2 tk2 m2 news2 E', i < n → P i v → Keep G G2 → Cx G2 cenv.locals h2 m2 news2 → m2 x = some v →
      wpAny (model pw w) A (forIn ifs true fun c r => if r = true then do let ok ← isTrue c cenv (eval c cenv); pure (ForInStep.yield ok) else pure (ForInStep.yield r))
        (fun ok s₃ => ok = p i ∧ ∃ G3 h3 tk3 m3, s₃ = St s h3 tk3 ∧ Keep G2 G3 ∧ Cx G3 cenv.locals h3 m3 news2 ∧ m3 x = some v ∧ (ok = true →
          wpAny (model pw w) A (eval elt cenv) (fun y s₄ => ∃ G4 h4 tk4 m4, s₄ = St s h4 tk4 ∧ Keep G3 G4 ∧ Cx G4 cenv.locals h4 m4 news2 ∧ F G4 i y) E' s₃)) E' (St s h2 tk2)

theorem zcompBlock {elt iter : PySem.Expr} {x : Str} {px : Pos} {ifs : List PySem.Expr} {scope : Scope} {pos : Pos} {fp : List Addr} {n : Nat} {P : Nat → Value → Prop} {S : Nat → Heap → Prop} {oI : Obj}
    {RR : Value → Env → Result → Shared → Prop} (W : Walks pw w A I fp [I] n P S) (p : Nat → Bool) (F : Heap → Nat → Value → Prop) (hF : ∀ G G' i v, Keep G G' → F G i v → F G' i v)
    (hlive : ∀ i h, S i h → ∃ o, h.get? I = some o) (hfp : ∀ b ∈ fp, b = I ∨ ∃ o, G.get? b = some o) (hx : scope.names.lookup x = some .local) (hcell : ∀ y ∈ scope.names, y.2 ≠ .cell) (hkind : scope.kind = .function)
    (C : Cx G L h m ((I, oI) :: news)) (hS : S 0 h) (hn : n < 100000)
    (step : ∀ Cc, StepOk w A s G x ifs elt p F n P (compEnv scope Cc env))
    (hRR : ∀ D Cc G' h' tk' ys j oC mC, Keep G G' → Cx G' L h' m ((Cc, oC) :: (D, listOf ys j) :: news) → h'.Ns Cc mC → Paired (F G') (took p n) ys.toList → RR (.ref D) (compEnv scope Cc env) (.ok .next) (St s h' tk')) :
    wpAny (model pw w) A (newList []) (fun acc s₃ =>
      wpAny (model pw w) A (newFunctionEnv scope env.globals [] [] env.qual none .none (some env)) (fun cenv s₄ =>
        codeAny (model pw w) A (.compStart (.ListComp elt [⟨.Name x px, iter, ifs, 0⟩] scope pos) 0 (.ref I) acc { cenv with scope := scope }) (RR acc { cenv with scope := scope }) s₄) E s₃) E (St s h tk) := by
  refine znewList (s := s) C fun D h2 tk2 C2 => ?_
  refine wpAny_newFunctionEnv (s := St s h2 tk2) hcell (by intro y hy; simp at hy) (fun h3 hns hsb => ?_) hkind
  have k : Keep h2 h3 := fun b o e => hsb.extBut b o (Nat.ne_of_lt (Heap.lt_size e)) (Heap.get?_push_of_some _ e)
  obtain ⟨oL, es, ep, eL, r⟩ := C2.ns
  have C3 := C2.inner k get_top hns eL
  have C4 := C3.perm (news' := (I, oI) :: (D, listOf #[] 0) :: (L, oL) :: news) (by
    refine List.Perm.trans ?_ (List.Perm.swap _ _ _)
    refine List.Perm.trans (List.Perm.swap _ _ _) ?_
    refine .cons _ ?_
    exact List.Perm.swap _ _ _)
  have hS3 : S 0 h3 := W.frame _ _ _ hS fun b hb o e => by
    rcases hfp b hb with rfl | ⟨o', e'⟩
    · have e1 := (C.led _ (.head _)).1
      have e1 : h.get? b = some oI := e1
      rw [e] at e1
      cases e1
      exact (C4.led (b, oI) (.head _)).1
    · have e2 := C.keep _ _ e'
      rw [e] at e2
      cases e2
      exact C4.keep _ _ e'
  have loop : ∀ s4 : Shared, s4 = St s h3 (tk2 + ([] : List (Str × Value)).length) → codeAny (model pw w) A (.compLoop (.ListComp elt [⟨.Name x px, iter, ifs, 0⟩] scope pos) 0 (.ref I) (.ref D) (compEnv scope h2.objs.size env)) (RR (.ref D) (compEnv scope h2.objs.size env)) s4 := by
    rintro s4 rfl
    refine zcompLoop (s := s) (cenv := compEnv scope h2.objs.size env) W p F hF hlive hfp hx (by simp [compEnv, hkind]) C4 hS3 hn (step _) ?_
    intro G' h' tk' m' ys j kG C5 hys
    have hns5 : h'.Ns L m := C2.ns.at' fun o e => by
      rw [eL] at e
      cases e
      exact (C5.led (L, oL) (by simp)).1
    obtain ⟨oC, C6⟩ := (C5.perm (List.Perm.swap _ _ _)).outer hns5
    exact hRR D h2.objs.size G' h' tk' ys j oC m' kG C6 C5.ns hys
  exact codeAny_compStart_list (loop _ rfl) (W.self 0 _ _ _ hS3 (loop _ rfl))
end
end Mine
end C1_text
section C2_text
open PySem PySem.W PySem.Calls PyProof.Rows
set_option maxRecDepth 100000
namespace Mine

section
variable {w : World} {A : Around} {E : Value → Shared → Prop} {s : Shared} {env : Env}

/-- where a comprehension's source has been asked for its iterator -/
noncomputable def CompAt (w : World) (A : Around) (E : Value → Shared → Prop) (env : Env) (elt : PySem.Expr) (x : Str) (px : Pos) (iter : PySem.Expr) (ifs : List PySem.Expr) (scope : Scope) (pos : Pos) (Q : Value → Shared → Prop) (it : Value) (s₂ : Shared) : Prop :=
  wpAny (model pw w) A (newList []) (fun acc s₃ =>
      wpAny (model pw w) A (newFunctionEnv scope env.globals [] [] env.qual none .none (some env)) (fun cenv s₄ =>
        codeAny (model pw w) A (.compStart (.ListComp elt [⟨.Name x px, iter, ifs, 0⟩] scope pos) 0 it acc { cenv with scope := scope })
          (fun r s' => ∃ m, s'.heap.Ns cenv.locals m ∧ ∀ h', Heap.SameBut cenv.locals s'.heap h' →
            match r with | .ok _ => Q acc { s' with heap := h' } | .error x => wpAny (model pw w) A (passOn "comprehension.variables-let-go" x { cenv with scope := scope }) Q E { s' with heap := h' }) s₄) E s₃) E s₂
theorem zListComp {elt iter : PySem.Expr} {x : Str} {px : Pos} {ifs : List PySem.Expr} {scope : Scope} {pos : Pos} {Q : Value → Shared → Prop}
    (h : wpAny (model pw w) A (eval iter env) (fun xv s₁ => wpAny (model pw w) A (pyIter xv) (fun it s₂ => CompAt w A E env elt x px iter ifs scope pos Q it s₂) E s₁) E s)
    (hfree : ∀ x ∈ scope.names, x.2 ≠ .free := by decide +kernel) (hkind : scope.kind = .function := by rfl) (hnames : ∀ x ∈ scope.names, x.2 = .local → scope.names.lookup x.1 = some .local := by decide +kernel)
    (hs : ∀ x, foldedSetIterable iter env x = pure x := by intro _; rfl) :
    wpAny (model pw w) A (eval (.ListComp elt [⟨.Name x px, iter, ifs, 0⟩] scope pos) env) Q E s := wpAny_ListComp hfree hkind hnames h hs

noncomputable def CompUse (w : World) (A : Around) (E : Value → Shared → Prop) (env : Env) (elt : PySem.Expr) (x : Str) (px : Pos) (iter : PySem.Expr) (ifs : List PySem.Expr) (scope : Scope) (pos : Pos) (u : Value → Sem Unit) (Q : Value → Shared → Prop) (it : Value) (s₂ : Shared) : Prop :=
  wpAny (model pw w) A (newList []) (fun acc s₃ =>
      wpAny (model pw w) A (newFunctionEnv scope env.globals [] [] env.qual none .none (some env)) (fun cenv s₄ =>
        codeAny (model pw w) A (.compStart (.ListComp elt [⟨.Name x px, iter, ifs, 0⟩] scope pos) 0 it acc { cenv with scope := scope }) (fun r s' => match r with
          | .ok _ => wpAny (model pw w) A (u acc) (fun _ s'' => ∃ m, s''.heap.Ns cenv.locals m ∧ ∀ h', Heap.SameBut cenv.locals s''.heap h' → Q .none { s'' with heap := h' }) E s'
          | .error x => ∃ m, s'.heap.Ns cenv.locals m ∧ ∀ h', Heap.SameBut cenv.locals s'.heap h' → wpAny (model pw w) A (passOn "comprehension.variables-let-go" x { cenv with scope := scope }) Q E { s' with heap := h' }) s₄) E s₃) E s₂
theorem zAssignComp {elt iter : PySem.Expr} {x y : Str} {px py : Pos} {ifs : List PySem.Expr} {scope : Scope} {pos spos : Pos} {Q : Flow → Shared → Prop}
    (h : wpAny (model pw w) A (eval iter env) (fun xv s₁ => wpAny (model pw w) A (pyIter xv) (fun it s₂ => CompUse w A E env elt x px iter ifs scope pos (assign (.Name y py) env) (fun _ s' => Q .next s') it s₂) E s₁) E s)
    (hsw : swapsWith (.ListComp elt [⟨.Name x px, iter, ifs, 0⟩] scope pos) (some (.Name y py)) spos.line env = pure true := by rfl)
    (hfree : ∀ x ∈ scope.names, x.2 ≠ .free := by decide +kernel) (hkind : scope.kind = .function := by rfl) (hnames : ∀ x ∈ scope.names, x.2 = .local → scope.names.lookup x.1 = some .local := by decide +kernel)
    (hs : ∀ x, foldedSetIterable iter env x = pure x := by intro _; rfl) :
    wpAny (model pw w) A (exec (.Assign [.Name y py] (.ListComp elt [⟨.Name x px, iter, ifs, 0⟩] scope pos) spos) env) Q E s := by
  rw [exec_Assign_Name_used _ _ _ _ hsw]
  refine wpAny_bind (wpAny_standAt (wpAny_bind ?_))
  show wpAny _ A (do let _ ← comprehension (.ListComp elt [⟨.Name x px, iter, ifs, 0⟩] scope pos) scope env _ (newList []) false (eval iter env) (some (assign (.Name y py) env))) _ _ s
  exact wpAny_bind (wpAny_mono (wpAny_comprehension_use (Q := fun _ s' => Q .next s') rfl hs hfree hkind hnames h) (fun _ s' hq => wpAny_pure (wpAny_pure hq)) fun _ _ e => e)
end

section
variable {w : World} {A : Around} {E : Value → Shared → Prop} {s : Shared} {env : Env} {G h : Heap} {tk : Nat} {L I : Addr} {m : Str → Option Value} {news : List (Addr × Obj)}
theorem zcompEnd {elt iter : PySem.Expr} {x : Str} {px : Pos} {ifs : List PySem.Expr} {scope : Scope} {pos : Pos} {fp : List Addr} {n : Nat} {P : Nat → Value → Prop} {S : Nat → Heap → Prop} {oI : Obj} {Q : Value → Shared → Prop}
    (p : Nat → Bool) (F : Heap → Nat → Value → Prop) (hF : ∀ G G' i v, Keep G G' → F G i v → F G' i v) (W : Walks pw w A I fp [I] n P S)
    (hlive : ∀ i h, S i h → ∃ o, h.get? I = some o) (hfp : ∀ b ∈ fp, b = I ∨ ∃ o, G.get? b = some o)
    (C : Cx G L h m ((I, oI) :: news)) (hS : S 0 h) (hn : n < 100000)
    (step : ∀ Cc, StepOk w A s G x ifs elt p F n P (compEnv scope Cc env))
    (hq : ∀ D G' h' tk' ys j, Keep G G' → Cx G' L h' m ((D, listOf ys j) :: news) → Paired (F G') (took p n) ys.toList → Q (.ref D) (St s h' tk'))
    (hx : scope.names.lookup x = some .local := by rfl) (hcell : ∀ y ∈ scope.names, y.2 ≠ .cell := by decide +kernel) (hkind : scope.kind = .function := by rfl) :
    CompAt w A E env elt x px iter ifs scope pos Q (.ref I) (St s h tk) := by
  refine zcompBlock (s := s) (RR := fun acc cenv r s' => ∃ m, s'.heap.Ns cenv.locals m ∧ ∀ h', Heap.SameBut cenv.locals s'.heap h' →
            match r with | .ok _ => Q acc { s' with heap := h' } | .error x => wpAny (model pw w) A (passOn "comprehension.variables-let-go" x cenv) Q E { s' with heap := h' }) W p F hF hlive hfp hx hcell hkind C hS hn step ?_
  intro D Cc G' h' tk' ys j oC mC kG C2 hns hys
  refine ⟨mC, hns, fun h'' sb => ?_⟩
  exact hq D G' h'' tk' ys j kG (C2.drop fun b o hb e => sb.extBut b o hb e) hys
theorem zcompEndU {elt iter : PySem.Expr} {x y : Str} {px py : Pos} {ifs : List PySem.Expr} {scope : Scope} {pos : Pos} {fp : List Addr} {n : Nat} {P : Nat → Value → Prop} {S : Nat → Heap → Prop} {oI : Obj} {Q : Shared → Prop}
    (p : Nat → Bool) (F : Heap → Nat → Value → Prop) (hF : ∀ G G' i v, Keep G G' → F G i v → F G' i v) (W : Walks pw w A I fp [I] n P S)
    (hlive : ∀ i h, S i h → ∃ o, h.get? I = some o) (hfp : ∀ b ∈ fp, b = I ∨ ∃ o, G.get? b = some o)
    (C : Cx G env.locals h m ((I, oI) :: news)) (hS : S 0 h) (hn : n < 100000)
    (step : ∀ Cc, StepOk w A s G x ifs elt p F n P (compEnv scope Cc env))
    (hq : ∀ D G' h' tk' ys j, Keep G G' → Cx G' env.locals h' (fun z => if z = y then some (.ref D) else m z) ((D, listOf ys j) :: news) → Paired (F G') (took p n) ys.toList → Q (St s h' tk'))
    (hx : scope.names.lookup x = some .local := by rfl) (hcell : ∀ y ∈ scope.names, y.2 ≠ .cell := by decide +kernel) (hkind : scope.kind = .function := by rfl)
    (hy : env.kindOf y = some .local := by rfl) (hp : (env.scope.kind == .class || (env.scope.kind == .module && env.locals != env.globals)) = false := by rfl) :
    CompUse w A E env elt x px iter ifs scope pos (assign (.Name y py) env) (fun _ s' => Q s') (.ref I) (St s h tk) := by
  refine zcompBlock (s := s) (RR := fun acc cenv r s' => match r with
          | .ok _ => wpAny (model pw w) A (assign (.Name y py) env acc) (fun _ s'' => ∃ m, s''.heap.Ns cenv.locals m ∧ ∀ h', Heap.SameBut cenv.locals s''.heap h' → Q { s'' with heap := h' }) E s'
          | .error x => ∃ m, s'.heap.Ns cenv.locals m ∧ ∀ h', Heap.SameBut cenv.locals s'.heap h' → wpAny (model pw w) A (passOn "comprehension.variables-let-go" x cenv) (fun _ s' => Q s') E { s' with heap := h' }) W p F hF hlive hfp hx hcell hkind C hS hn step ?_
  intro D Cc G' h' tk' ys j oC mC kG C2 hns hys
  refine wpAny_assign_Name (zstE (s := s) C2 (fun h2 tk2 C3 => ?_) hy hp)
  have hCc := C2.hd
  have hCc3 := C3.hd
  refine ⟨mC, hns.at' fun o e => ?_, fun h'' sb => ?_⟩
  · have hCc : h'.get? Cc = some oC := hCc
    have e : h'.get? Cc = some o := e
    rw [hCc] at e
    cases e
    exact hCc3
  · exact hq D G' h'' tk2 ys j kG (C3.drop fun b o hb e => sb.extBut b o hb e) hys

/-- the source: a list that lies still -/
theorem zsrcList {l : Addr} {items : Array Value} {Q : Value → Shared → Prop} (hh : A.handled = none) (C : Cx G L h m news) (hl : G.IsList l items)
    (hq : ∀ h' tk' I oI S, Cx G L h' m ((I, oI) :: news) → Walks pw w A I [I, l] [I] items.size (fun i v => items[i]? = some v) S → (∀ i h, S i h → ∃ o, h.get? I = some o) → (∀ b ∈ [I, l], b = I ∨ ∃ o, G.get? b = some o) → S 0 h' → Q (.ref I) (St s h' tk')) :
    wpAny (model pw w) A (pyIter (.ref l)) Q E (St s h tk) := by
  refine zpyIter (s := s) C (ilk hl C.keep) fun h' tk' I oI C2 o1 o2 => ?_
  obtain ⟨ol, e1, e2, e3⟩ := hl
  have hne : l ≠ I := by
    intro q
    have hI := (C2.led _ (.head _)).2.2
    have hI : G.get? I = none := hI
    rw [← q, e1] at hI
    cases hI
  refine hq h' tk' I oI _ C2 (Walks.list hh I l hne items) (fun i h hS => let ⟨⟨o, e, _⟩, _⟩ := hS; ⟨o, e⟩) (fun b hb => ?_) ⟨⟨oI, C2.hd, o1, o2⟩, ⟨ol, C2.keep _ _ e1, e2, e3⟩⟩
  rcases List.mem_cons.mp hb with rfl | hb
  · exact .inl rfl
  · rw [List.mem_singleton] at hb
    subst hb
    exact .inr ⟨ol, e1⟩
/-- the source: a text -/
theorem zsrcStr {x : Str} {t : Tok} {Q : Value → Shared → Prop} (hh : A.handled = none) (C : Cx G L h m news)
    (hq : ∀ h' tk' I oI S, Cx G L h' m ((I, oI) :: news) → Walks pw w A I [I] [I] x.cps.size (SignAt x) S → (∀ i h, S i h → ∃ o, h.get? I = some o) → (∀ b ∈ [I], b = I ∨ ∃ o, G.get? b = some o) → S 0 h' → Q (.ref I) (St s h' tk')) :
    wpAny (model pw w) A (pyIter (.str x t)) Q E (St s h tk) := by
  have C2 : ∀ o : Obj, o.isFreed = false → Cx G L (h.push o) m ((h.objs.size, o) :: news) := fun o ho => C.fresh get_top (fun b o e => Heap.get?_push_of_some _ e) (Heap.get?_push_size _ ho)
  cases ha : x.cps.all (· < 128)
  · exact wpAny_pyIter_wide (s := St s h tk) ha (hq _ _ _ _ _ (C2 _ rfl) (Walks.strWide hh _ x t) (fun i h hS => let ⟨o, e, _⟩ := hS; ⟨o, e⟩) (fun b hb => .inl (by simpa using hb)) ⟨_, Heap.get?_push_size _ rfl, rfl, rfl⟩)
  · exact wpAny_pyIter_ascii (s := St s h tk) ha (hq _ _ _ _ _ (C2 _ rfl) (Walks.strAscii hh _ x t) (fun i h hS => let ⟨o, e, _⟩ := hS; ⟨o, e⟩) (fun b hb => .inl (by simpa using hb)) ⟨_, Heap.get?_push_size _ rfl, rfl, rfl⟩)
end
end Mine
end C2_text
section L1_text
open PySem PySem.W PySem.Calls PyProof.Rows
set_option maxRecDepth 100000
namespace Mine
open PySem.AutoSeq1 (wpAny_loadPart')
open PySem.MeetsSeq PySem.MeetsSeq3

/-- lists of ints in the order of their words; le: or alike -/
noncomputable def lexB (le : Bool) : List Int → List Int → Bool
  | [], [] => le
  | [], _ :: _ => true
  | _ :: _, [] => false
  | x :: xs, y :: ys => if x = y then lexB le xs ys else decide (x < y)

noncomputable abbrev lobj (items : Array Value) (n : Nat) : Obj := { cls := .type "list", dict := none, data := .seq items n, slots := #[] }

set_option maxHeartbeats 1000000 in
theorem lt_loop (l b : Addr) (items items2 : Array Value) (n n2 : Nat) (xs ys : List Int) (h1 : IntsAre items.toList xs) (h2 : IntsAre items2.toList ys) (k : Nat) :
    ∀ i : Nat, items.size - i = k → Meets (Builtin.«list.__eq__.loop» ⟨[.ref l, .ref b, rawInt i, rawInt 0], []⟩)
      (fun _ R s => s.heap.get? l = some (lobj items n) ∧ s.heap.get? b = some (lobj items2 n2) ∧ i ≤ items.size ∧ i ≤ items2.size ∧
        R (.ok (.ret (.bool (lexB false (xs.drop i) (ys.drop i))))) s) := by
  have l1 : items.size = xs.length := by simpa using h1.length
  have l2 : items2.size = ys.length := by simpa using h2.length
  induction k with
  | zero =>
    intro i hk prog w A R s h
    obtain ⟨hp, g, d, tk, os⟩ := s; obtain ⟨hl, hb, hi, hi', h⟩ := h
    have e : i = items.size := by omega
    wp_walk using wpAny_loadPart' hl, wpAny_loadPart' hb
    have hi1 : items[((i : Nat) : Int).toNat]? = none := by simp; omega
    rw [hi1]
    wp_walk using wpAny_loadPart' hl, wpAny_loadPart' hb
    show R (.ok (.ret (.bool (decide (items.size < items2.size))))) _
    have hd : xs.drop i = [] := by simp; omega
    rw [hd] at h
    cases hy : ys.drop i with
    | nil =>
      rw [hy] at h
      have : ys.length ≤ i := by simpa using hy
      rw [decide_eq_false (by omega)]
      exact h
    | cons y r =>
      rw [hy] at h
      have : ¬ ys.length ≤ i := fun q => by rw [List.drop_eq_nil_of_le q] at hy; cases hy
      rw [decide_eq_true (by omega)]
      exact h
  | succ k ih =>
    intro i hk prog w A R s h
    obtain ⟨hp, g, d, tk, os⟩ := s; obtain ⟨hl, hb, hi, hi', h⟩ := h
    have hlt : i < xs.length := by omega
    have hdx : xs.drop i = xs[i] :: xs.drop (i + 1) := List.drop_eq_getElem_cons hlt
    obtain ⟨t1, e1⟩ := h1.get i xs[i] (by simp [hlt])
    have hi1 : items[((i : Nat) : Int).toNat]? = some (.int xs[i] t1) := by simpa using e1
    have hc : ((i : Int) + 1) = ((i + 1 : Nat) : Int) := by push_cast; rfl
    by_cases hlt2 : i < ys.length
    · have hdy : ys.drop i = ys[i] :: ys.drop (i + 1) := List.drop_eq_getElem_cons hlt2
      obtain ⟨t2, e2⟩ := h2.get i ys[i] (by simp [hlt2])
      have hi2 : items2[((i : Nat) : Int).toNat]? = some (.int ys[i] t2) := by simpa using e2
      rw [hdx, hdy] at h
      wp_walk using wpAny_loadPart' hl, wpAny_loadPart' hb
      rw [hi1, hi2]
      refine wpAny_bind (wpAny_eqBool_int ?_)
      by_cases hxy : xs[i] = ys[i]
      · have e : (xs[i] == ys[i]) = true := by simp [hxy]
        rw [e]
        simp only [lexB, hxy, if_true] at h
        wp_walk
        rw [hc]
        exact ⟨plainId_quiet plain_eq_loop _, codeAny_builtin entry_eq_loop (by
          rw [Around.under_plainId plain_eq_loop _]
          exact ih (i + 1) (by omega) prog w A R _ ⟨hl, hb, by omega, by omega, h⟩)⟩
      · have e : (xs[i] == ys[i]) = false := by simp [hxy]
        rw [e]
        simp only [lexB, hxy, if_false] at h
        wp_walk using wpAny_loadPart' hl, wpAny_loadPart' hb
        rw [hi1, hi2]
        show wpAny _ _ (compareOp .Lt _ _ >>= _) _ _ _
        refine wpAny_bind (lt_int ?_)
        exact wpAny_pure h
    · have hi2 : items2[((i : Nat) : Int).toNat]? = none := by simp; omega
      have hdy : ys.drop i = [] := List.drop_eq_nil_of_le (by omega)
      rw [hdx, hdy] at h
      wp_walk using wpAny_loadPart' hl, wpAny_loadPart' hb
      rw [hi1, hi2]
      wp_walk using wpAny_loadPart' hl, wpAny_loadPart' hb
      show R (.ok (.ret (.bool (decide (items.size < items2.size))))) _
      rw [decide_eq_false (by omega)]
      exact h
set_option maxHeartbeats 1000000 in
theorem le_loop (l b : Addr) (items items2 : Array Value) (n n2 : Nat) (xs ys : List Int) (h1 : IntsAre items.toList xs) (h2 : IntsAre items2.toList ys) (k : Nat) :
    ∀ i : Nat, items.size - i = k → Meets (Builtin.«list.__eq__.loop» ⟨[.ref l, .ref b, rawInt i, rawInt 1], []⟩)
      (fun _ R s => s.heap.get? l = some (lobj items n) ∧ s.heap.get? b = some (lobj items2 n2) ∧ i ≤ items.size ∧ i ≤ items2.size ∧
        R (.ok (.ret (.bool (lexB true (xs.drop i) (ys.drop i))))) s) := by
  have l1 : items.size = xs.length := by simpa using h1.length
  have l2 : items2.size = ys.length := by simpa using h2.length
  induction k with
  | zero =>
    intro i hk prog w A R s h
    obtain ⟨hp, g, d, tk, os⟩ := s; obtain ⟨hl, hb, hi, hi', h⟩ := h
    have e : i = items.size := by omega
    wp_walk using wpAny_loadPart' hl, wpAny_loadPart' hb
    have hi1 : items[((i : Nat) : Int).toNat]? = none := by simp; omega
    rw [hi1]
    wp_walk using wpAny_loadPart' hl, wpAny_loadPart' hb
    show R (.ok (.ret (.bool (decide (items.size ≤ items2.size))))) _
    have hd : xs.drop i = [] := by simp; omega
    rw [hd] at h
    cases hy : ys.drop i with
    | nil =>
      rw [hy] at h
      have : ys.length ≤ i := by simpa using hy
      rw [decide_eq_true (by omega)]
      exact h
    | cons y r =>
      rw [hy] at h
      have : ¬ ys.length ≤ i := fun q => by rw [List.drop_eq_nil_of_le q] at hy; cases hy
      rw [decide_eq_true (by omega)]
      exact h
  | succ k ih =>
    intro i hk prog w A R s h
    obtain ⟨hp, g, d, tk, os⟩ := s; obtain ⟨hl, hb, hi, hi', h⟩ := h
    have hlt : i < xs.length := by omega
    have hdx : xs.drop i = xs[i] :: xs.drop (i + 1) := List.drop_eq_getElem_cons hlt
    obtain ⟨t1, e1⟩ := h1.get i xs[i] (by simp [hlt])
    have hi1 : items[((i : Nat) : Int).toNat]? = some (.int xs[i] t1) := by simpa using e1
    have hc : ((i : Int) + 1) = ((i + 1 : Nat) : Int) := by push_cast; rfl
    by_cases hlt2 : i < ys.length
    · have hdy : ys.drop i = ys[i] :: ys.drop (i + 1) := List.drop_eq_getElem_cons hlt2
      obtain ⟨t2, e2⟩ := h2.get i ys[i] (by simp [hlt2])
      have hi2 : items2[((i : Nat) : Int).toNat]? = some (.int ys[i] t2) := by simpa using e2
      rw [hdx, hdy] at h
      wp_walk using wpAny_loadPart' hl, wpAny_loadPart' hb
      rw [hi1, hi2]
      refine wpAny_bind (wpAny_eqBool_int ?_)
      by_cases hxy : xs[i] = ys[i]
      · have e : (xs[i] == ys[i]) = true := by simp [hxy]
        rw [e]
        simp only [lexB, hxy, if_true] at h
        wp_walk
        rw [hc]
        exact ⟨plainId_quiet plain_eq_loop _, codeAny_builtin entry_eq_loop (by
          rw [Around.under_plainId plain_eq_loop _]
          exact ih (i + 1) (by omega) prog w A R _ ⟨hl, hb, by omega, by omega, h⟩)⟩
      · have e : (xs[i] == ys[i]) = false := by simp [hxy]
        rw [e]
        simp only [lexB, hxy, if_false] at h
        wp_walk using wpAny_loadPart' hl, wpAny_loadPart' hb
        rw [hi1, hi2]
        show wpAny _ _ (compareOp .LtE _ _ >>= _) _ _ _
        refine wpAny_bind (le_int ?_)
        rw [show decide (xs[i] ≤ ys[i]) = decide (xs[i] < ys[i]) from decide_eq_decide.mpr (by omega)]
        exact wpAny_pure h
    · have hi2 : items2[((i : Nat) : Int).toNat]? = none := by simp; omega
      have hdy : ys.drop i = [] := List.drop_eq_nil_of_le (by omega)
      rw [hdx, hdy] at h
      wp_walk using wpAny_loadPart' hl, wpAny_loadPart' hb
      rw [hi1, hi2]
      wp_walk using wpAny_loadPart' hl, wpAny_loadPart' hb
      show R (.ok (.ret (.bool (decide (items.size ≤ items2.size))))) _
      rw [decide_eq_false (by omega)]
      exact h

theorem list_lt_meets (l b : Addr) (items items2 : Array Value) (n n2 : Nat) (xs ys : List Int) (h1 : IntsAre items.toList xs) (h2 : IntsAre items2.toList ys) :
    Meets (Builtin.«list.__lt__» ⟨[.ref l, .ref b], []⟩)
      (fun _ R s => s.heap.get? l = some (lobj items n) ∧ s.heap.get? b = some (lobj items2 n2) ∧ R (.ok (.ret (.bool (lexB false xs ys)))) s) := by
  intro prog w A R s h
  obtain ⟨hp, g, d, tk, os⟩ := s; obtain ⟨hl, hb, h⟩ := h
  have f3 := PySem.AutoSeq1.sub_list_list
  wp_walk using wpAny_loadPart' hl, wpAny_loadPart' hb
  exact ⟨plainId_quiet plain_eq_loop _, codeAny_builtin entry_eq_loop (by
    rw [Around.under_plainId plain_eq_loop _]
    exact lt_loop l b items items2 n n2 xs ys h1 h2 _ 0 rfl prog w A R _ ⟨hl, hb, Nat.zero_le _, Nat.zero_le _, by simpa using h⟩)⟩
theorem list_le_meets (l b : Addr) (items items2 : Array Value) (n n2 : Nat) (xs ys : List Int) (h1 : IntsAre items.toList xs) (h2 : IntsAre items2.toList ys) :
    Meets (Builtin.«list.__le__» ⟨[.ref l, .ref b], []⟩)
      (fun _ R s => s.heap.get? l = some (lobj items n) ∧ s.heap.get? b = some (lobj items2 n2) ∧ R (.ok (.ret (.bool (lexB true xs ys)))) s) := by
  intro prog w A R s h
  obtain ⟨hp, g, d, tk, os⟩ := s; obtain ⟨hl, hb, h⟩ := h
  have f3 := PySem.AutoSeq1.sub_list_list
  wp_walk using wpAny_loadPart' hl, wpAny_loadPart' hb
  exact ⟨plainId_quiet plain_eq_loop _, codeAny_builtin entry_eq_loop (by
    rw [Around.under_plainId plain_eq_loop _]
    exact le_loop l b items items2 n n2 xs ys h1 h2 _ 0 rfl prog w A R _ ⟨hl, hb, Nat.zero_le _, Nat.zero_le _, by simpa using h⟩)⟩
section
variable {prog : Program} {w : World} {A : Around} {E : Value → Shared → Prop} {s : Shared} {l b : Addr} {items items2 : Array Value} {n n2 : Nat} {xs ys : List Int}
theorem lists_lt {Q : Value → Shared → Prop} (hu : A.units < 9000) (hl : s.heap.get? l = some (lobj items n)) (hb : s.heap.get? b = some (lobj items2 n2)) (h1 : IntsAre items.toList xs) (h2 : IntsAre items2.toList ys)
    (hq : Q (.bool (lexB false xs ys)) s) : wpAny (model prog w) A (compareOp .Lt (.ref l) (.ref b)) Q E s := by
  refine wpAny_richCompare_same_room (op := .Lt) ⟨_, hl, rfl⟩ ⟨_, hb, rfl⟩ PySem.F.slot_list_lt ?_ (Nat.lt_trans hu (by decide))
  exact call_meets PySem.F.slot_list_lt ⟨_, hl, rfl⟩ PySem.F.entry_list_lt (PySem.F.args_list_lt_2 _ _) (list_lt_meets l b items items2 n n2 xs ys h1 h2) ⟨hl, hb, by simp, hq⟩
theorem lists_le {Q : Value → Shared → Prop} (hu : A.units < 9000) (hl : s.heap.get? l = some (lobj items n)) (hb : s.heap.get? b = some (lobj items2 n2)) (h1 : IntsAre items.toList xs) (h2 : IntsAre items2.toList ys)
    (hq : Q (.bool (lexB true xs ys)) s) : wpAny (model prog w) A (compareOp .LtE (.ref l) (.ref b)) Q E s := by
  refine wpAny_richCompare_same_room (op := .LtE) ⟨_, hl, rfl⟩ ⟨_, hb, rfl⟩ PySem.F.slot_list_le ?_ (Nat.lt_trans hu (by decide))
  exact call_meets PySem.F.slot_list_le ⟨_, hl, rfl⟩ PySem.F.entry_list_le (PySem.F.args_list_le_2 _ _) (list_le_meets l b items items2 n n2 xs ys h1 h2) ⟨hl, hb, by simp, hq⟩
end
end Mine
end L1_text
section L2_text
open PySem PySem.W PySem.Calls PyProof.Rows
set_option maxRecDepth 100000
namespace Mine
open PySem.MeetsSeq

noncomputable def isI (x : Int) : Value → Bool
  | .int a _ => a == x
  | _ => false
theorem any_isI {x : Int} {vs : List Value} {ns : List Int} (h : IntsAre vs ns) : vs.any (isI x) = decide (x ∈ ns) := by
  induction h with
  | nil => simp
  | cons n t hr ih =>
    rw [List.any_cons, ih]
    show ((n == x) || _) = _
    by_cases e : n = x
    · subst e; simp
    · have e2 : ¬ x = n := fun q => e q.symm
      simp [e, e2]
section
variable {prog : Program} {w : World} {A : Around} {E : Value → Shared → Prop} {s : Shared} {l : Addr} {items : Array Value} {n : Nat} {xs : List Int}
theorem zcontains {x : Int} {u : Tok} {Q : Value → Shared → Prop} (hl : s.heap.get? l = some (lobj items n)) (hi : IntsAre items.toList xs) (hq : Q (.bool (decide (x ∈ xs))) s) :
    wpAny (model prog w) A (call (.builtin "list.__contains__") [.ref l, .int x u]) Q E s := by
  refine call_meets PySem.F.slot_list_contains ⟨_, hl, rfl⟩ PySem.F.entry_list_contains (PySem.F.args_list_contains_2 _ _) (list_contains l items n (.int x u) (isI x) ?_) ⟨hl, ?_⟩
  · intro y hy
    obtain ⟨a, t, rfl⟩ := hi.all y (by simpa using hy)
    exact EqGives.int a x t u
  · have e : items.any (isI x) = decide (x ∈ xs) := by
      rw [← any_isI hi]; simp
    rw [e]
    exact hq
theorem znotin {x : Int} {u : Tok} {Q : Value → Shared → Prop} (hl : s.heap.get? l = some (lobj items n)) (hi : IntsAre items.toList xs) (hq : Q (.bool (!decide (x ∈ xs))) s) :
    wpAny (model prog w) A (compareOp .NotIn (.int x u) (.ref l)) Q E s :=
  PyProof.Rows.NotIn_slot ⟨_, hl, rfl⟩ PySem.F.slot_list_contains (zcontains hl hi (wpAny_truthy_bool hq))
end
end Mine
end L2_text
section S1_text
open PySem PySem.W PySem.Calls PyProof.Rows
set_option maxRecDepth 100000
namespace Mine
namespace SO

section
variable (lt : Nat → Nat → Bool) (n : Nat)
noncomputable def KG {α : Type} : KasT α → (α → Prop) → Prop
  | .ret a, P => P a
  | .ask i j k, P => i < n ∧ j < n ∧ KG (k (lt i j)) P
end
section
variable {lt : Nat → Nat → Bool} {n : Nat}
theorem KG.mono {α : Type} {P P' : α → Prop} (h : ∀ a, P a → P' a) : ∀ t : KasT α, KG lt n t P → KG lt n t P'
  | .ret a, x => h a x
  | .ask _ _ k, x => ⟨x.1, x.2.1, KG.mono h (k _) x.2.2⟩
theorem KG.bind {α β : Type} {f : α → KasT β} {P : β → Prop} : ∀ t : KasT α, KG lt n t (fun a => KG lt n (f a) P) → KG lt n (t.bind f) P
  | .ret _, x => x
  | .ask _ _ k, x => ⟨x.1, x.2.1, KG.bind (k _) x.2.2⟩
theorem KG.wp {α : Type} {cmp : Nat → Nat → (Bool → Shared → Prop) → Shared → Prop} {s : Shared} (hc : ∀ i j (C : Bool → Shared → Prop), i < n → j < n → C (lt i j) s → cmp i j C s) {Q : α → Shared → Prop} :
    ∀ t : KasT α, KG lt n t (fun a => Q a s) → t.kasWp cmp Q s
  | .ret _, x => x
  | .ask i j k, x => hc i j _ x.1 x.2.1 (KG.wp hc (k _) x.2.2)

noncomputable abbrev g (p : Array Nat) (i : Nat) : Nat := p.getD i 0
theorem g_eq (p : Array Nat) (i : Nat) : g p i = (p[i]?).getD 0 := by simp [g]
theorem g_rev {p : Array Nat} {i j : Nat} (hj : j ≤ p.size) (k : Nat) : g (kas_rev p i j) k = if i ≤ k ∧ k < j then g p (i + j - 1 - k) else g p k := by
  unfold kas_rev
  rw [g_eq, getElem?_mirror_all hj, g_eq, g_eq]
  split <;> rfl
theorem g_bubble {p : Array Nat} {src d : Nat} (hs : src < p.size) (hd : d ≤ src) (k : Nat) : g (bubble p src d) k = if k = src - d then g p src else if src - d < k ∧ k ≤ src then g p (k - 1) else g p k := by
  rw [g_eq, getElem?_bubble hs d hd, g_eq, g_eq, g_eq]
  repeat' split
  all_goals rfl

/-- the places 0..n-1 in some order -/
noncomputable def Al (n : Nat) (p : Array Nat) : Prop := p.Perm (List.range n).toArray
theorem Al.size {p : Array Nat} (a : Al n p) : p.size = n := by have := a.size_eq; simpa using this
theorem Al.below {p : Array Nat} (a : Al n p) (h0 : 0 < n) (i : Nat) : g p i < n := by
  rw [g_eq]
  cases e : p[i]? with
  | none => exact h0
  | some x =>
    have hm : x ∈ p := Array.mem_of_getElem? e
    have := a.mem_iff.mp hm
    simpa using this
theorem Al.rev {p : Array Nat} (a : Al n p) (i j : Nat) : Al n (kas_rev p i j) := (mirror_perm p i j _).trans a
theorem Al.bubble {p : Array Nat} (a : Al n p) (i d : Nat) : Al n (bubble p i d) := (bubble_perm p i d).trans a

noncomputable def le (lt : Nat → Nat → Bool) (a b : Nat) : Prop := lt b a = false
noncomputable def Srt (lt : Nat → Nat → Bool) (p : Array Nat) (k : Nat) : Prop := ∀ i j, i ≤ j → j < k → le lt (g p i) (g p j)
noncomputable def Dsc (lt : Nat → Nat → Bool) (p : Array Nat) (k : Nat) : Prop := ∀ i j, i ≤ j → j < k → le lt (g p j) (g p i)

structure Ord (lt : Nat → Nat → Bool) : Prop where
  rf : ∀ a, le lt a a
  tr : ∀ a b c, le lt a b → le lt b c → le lt a c
  as : ∀ a b, lt a b = true → le lt a b

variable (O : Ord lt) (h0 : 0 < n)
include O h0

theorem asc_ok {p : Array Nat} (a : Al n p) : ∀ (f m : Nat), 1 ≤ m → m + f ≤ n → Srt lt p m → KG lt n (kas_asc p f m) (fun r => m ≤ r ∧ r ≤ m + f ∧ Srt lt p r ∧ (r < m + f → lt (g p r) (g p (r - 1)) = true))
  | 0, m, _, _, hs => ⟨Nat.le_refl _, Nat.le_refl _, hs, fun h => absurd h (by omega)⟩
  | f + 1, m, hm, hf, hs => by
    refine ⟨a.below h0 _, a.below h0 _, ?_⟩
    cases hc : lt (p.getD m 0) (p.getD (m - 1) 0) with
    | true =>
      try dsimp only
      rw [if_pos rfl]
      exact ⟨Nat.le_refl _, by omega, hs, fun _ => hc⟩
    | false =>
      try dsimp only
      rw [if_neg (by simp)]
      refine KG.mono (fun r hr => ?_) _ (asc_ok a f (m + 1) (by omega) (by omega) fun i j hij hj => ?_)
      · exact ⟨by omega, by omega, hr.2.2.1, fun h => hr.2.2.2 (by omega)⟩
      · rcases Nat.lt_or_ge j m with q | q
        · exact hs i j hij q
        · have hjm : j = m := by omega
          subst hjm
          rcases Nat.lt_or_eq_of_le hij with q2 | q2
          · exact O.tr _ _ _ (hs i (j - 1) (by omega) (by omega)) hc
          · rw [q2]; exact O.rf _

theorem place_ok {p : Array Nat} (a : Al n p) {k : Nat} (hs : Srt lt p k) : ∀ (f l r : Nat), l ≤ r → r ≤ k → r - l ≤ f → (∀ i, i < l → le lt (g p i) (g p k)) → (∀ i, r ≤ i → i < k → le lt (g p k) (g p i)) →
    KG lt n (kas_place p k f l r) (fun x => x ≤ k ∧ (∀ i, i < x → le lt (g p i) (g p k)) ∧ (∀ i, x ≤ i → i < k → le lt (g p k) (g p i)))
  | 0, l, r, hlr, hr, hf, h1, h2 => by
    have : l = r := by omega
    subst this
    exact ⟨hr, h1, h2⟩
  | f + 1, l, r, hlr, hr, hf, h1, h2 => by
    unfold kas_place
    by_cases hge : l ≥ r
    · try dsimp only
      rw [if_pos hge]
      have : l = r := by omega
      subst this
      exact ⟨hr, h1, h2⟩
    · try dsimp only
      rw [if_neg hge]
      refine ⟨a.below h0 _, a.below h0 _, ?_⟩
      cases hc : lt (p.getD k 0) (p.getD ((l + r) / 2) 0) with
      | true =>
        try dsimp only
        rw [if_pos rfl]
        refine place_ok a hs f l ((l + r) / 2) (by omega) (by omega) (by omega) h1 fun i hi hik => ?_
        exact O.tr _ _ _ (O.as _ _ hc) (hs _ _ hi hik)
      | false =>
        try dsimp only
        rw [if_neg (by simp)]
        refine place_ok a hs f ((l + r) / 2 + 1) r (by omega) hr (by omega) (fun i hi => ?_) h2
        exact O.tr _ _ _ (hs _ _ (by omega) (by omega)) hc

theorem bin_ok : ∀ (f : Nat) (p : Array Nat) (k : Nat), Al n p → k + f = n → Srt lt p k → KG lt n (kas_bin f p k) (fun p' => Al n p' ∧ Srt lt p' n)
  | 0, p, k, a, hk, hs => ⟨a, by rw [← hk]; exact hs⟩
  | f + 1, p, k, a, hk, hs => by
    refine KG.bind _ (KG.mono (fun l hl => ?_) _ (place_ok O h0 a hs k 0 k (Nat.zero_le _) (Nat.le_refl _) (by omega) (fun i hi => absurd hi (by omega)) (fun i h1 h2 => absurd h1 (by omega))))
    obtain ⟨l1, l2, l3⟩ := hl
    have hsz := a.size
    refine bin_ok f _ (k + 1) (a.bubble _ _) (by omega) fun i j hij hj => ?_
    rw [g_bubble (by omega) (by omega), g_bubble (by omega) (by omega)]
    have hkl : k - (k - l) = l := by omega
    rw [hkl]
    by_cases i1 : i = l
    · try dsimp only
      rw [if_pos i1]
      by_cases j1 : j = l
      · try dsimp only
        rw [if_pos j1]; exact O.rf _
      · try dsimp only
        rw [if_neg j1, if_pos ⟨by omega, by omega⟩]
        exact l3 _ (by omega) (by omega)
    · try dsimp only
      rw [if_neg i1]
      by_cases i2 : l < i ∧ i ≤ k
      · try dsimp only
        rw [if_pos i2, if_neg (by omega), if_pos ⟨by omega, by omega⟩]
        exact hs _ _ (by omega) (by omega)
      · try dsimp only
        rw [if_neg i2]
        by_cases j1 : j = l
        · try dsimp only
          rw [if_pos j1]; exact l2 _ (by omega)
        · try dsimp only
          rw [if_neg j1]
          by_cases j2 : l < j ∧ j ≤ k
          · try dsimp only
            rw [if_pos j2]; exact hs _ _ (by omega) (by omega)
          · try dsimp only
            rw [if_neg j2]; exact hs _ _ hij (by omega)

/-- the last q + 1 of the first m are alike -/
noncomputable def Tail (lt : Nat → Nat → Bool) (p : Array Nat) (m q : Nat) : Prop := ∀ i, m - 1 - q ≤ i → i < m → le lt (g p i) (g p (m - 1))

omit h0 in
theorem rev_tail {p : Array Nat} (a : Al n p) {m q : Nat} (hq : q < m) (hm : m ≤ n) (hd : Dsc lt p m) (ht : Tail lt p m q) : ∀ k, k < m → le lt (g p k) (g (kas_rev p (m - (q + 1)) m) k) ∧ le lt (g (kas_rev p (m - (q + 1)) m) k) (g p k) := by
  intro k hk
  rw [g_rev (by rw [a.size]; exact hm)]
  by_cases h : m - (q + 1) ≤ k ∧ k < m
  · try dsimp only
    rw [if_pos h]
    have h2 : m - 1 - q ≤ m - (q + 1) + m - 1 - k := by omega
    have h3 : m - (q + 1) + m - 1 - k < m := by omega
    refine ⟨O.tr _ _ _ (ht k (by omega) hk) (hd _ _ (by omega) (by omega)), O.tr _ _ _ (ht _ h2 h3) (hd _ _ (by omega) (by omega))⟩
  · try dsimp only
    rw [if_neg h]; exact ⟨O.rf _, O.rf _⟩
omit h0 in
theorem rev_dsc {p : Array Nat} (a : Al n p) {m q : Nat} (hq : q < m) (hm : m ≤ n) (hd : Dsc lt p m) (ht : Tail lt p m q) : Dsc lt (kas_rev p (m - (q + 1)) m) m := by
  intro i j hij hj
  have e1 := rev_tail O a hq hm hd ht i (by omega)
  have e2 := rev_tail O a hq hm hd ht j hj
  exact O.tr _ _ _ (O.tr _ _ _ e2.2 (hd i j hij hj)) e1.1

omit h0 in
theorem dsc_step {p : Array Nat} {m : Nat} (hm : 1 ≤ m) (hd : Dsc lt p m) (hc : le lt (g p m) (g p (m - 1))) : Dsc lt p (m + 1) := by
  intro i j hij hj
  rcases Nat.lt_or_ge j m with q | q
  · exact hd i j hij q
  · have : j = m := by omega
    subst this
    rcases Nat.lt_or_eq_of_le hij with q2 | q2
    · exact O.tr _ _ _ hc (hd i (j - 1) (by omega) (by omega))
    · rw [q2]; exact O.rf _

theorem desc_ok : ∀ (f : Nat) (p : Array Nat) (m q : Nat), Al n p → 1 ≤ m → m + f ≤ n → q < m → Dsc lt p m → Tail lt p m q →
    KG lt n (kas_desc f p m q) (fun r => Al n r.1 ∧ 1 ≤ r.2.1 ∧ r.2.1 ≤ n ∧ r.2.2 < r.2.1 ∧ Dsc lt r.1 r.2.1 ∧ Tail lt r.1 r.2.1 r.2.2)
  | 0, p, m, q, a, hm, hf, hq, hd, ht => ⟨a, hm, by omega, hq, hd, ht⟩
  | f + 1, p, m, q, a, hm, hf, hq, hd, ht => by
    refine ⟨a.below h0 _, a.below h0 _, ?_⟩
    cases hc : lt (p.getD m 0) (p.getD (m - 1) 0) with
    | true =>
      try dsimp only
      rw [if_pos rfl]
      have hle : le lt (g p m) (g p (m - 1)) := O.as _ _ hc
      by_cases hq0 : q > 0
      · try dsimp only
        rw [if_pos hq0]
        have d1 := rev_dsc O a hq (by omega) hd ht
        have e := rev_tail O a hq (by omega) hd ht (m - 1) (by omega)
        have em : g (kas_rev p (m - (q + 1)) m) m = g p m := by rw [g_rev (by rw [a.size]; omega), if_neg (by omega)]
        refine desc_ok f _ (m + 1) 0 (a.rev _ _) (by omega) (by omega) (by omega) (dsc_step O hm d1 ?_) ?_
        · rw [em]; exact O.tr _ _ _ hle e.1
        · intro i h1 h2
          have : i = m + 1 - 1 := by omega
          rw [this]; exact O.rf _
      · try dsimp only
        rw [if_neg hq0]
        refine desc_ok f p (m + 1) 0 a (by omega) (by omega) (by omega) (dsc_step O hm hd hle) ?_
        intro i h1 h2
        have : i = m + 1 - 1 := by omega
        rw [this]; exact O.rf _
    | false =>
      try dsimp only
      rw [if_neg (by simp)]
      refine ⟨a.below h0 _, a.below h0 _, ?_⟩
      cases hc2 : lt (p.getD (m - 1) 0) (p.getD m 0) with
      | true => try dsimp only
                rw [if_pos rfl]; exact ⟨a, hm, (show m ≤ n by omega), hq, hd, ht⟩
      | false =>
        try dsimp only
        rw [if_neg (by simp)]
        refine desc_ok f p (m + 1) (q + 1) a (by omega) (by omega) (by omega) (dsc_step O hm hd hc2) ?_
        intro i h1 h2
        rcases Nat.lt_or_ge i m with h3 | h3
        · exact O.tr _ _ _ (ht i (by omega) h3) hc
        · have : i = m + 1 - 1 := by omega
          rw [this]; exact O.rf _

theorem tail3_ok {p : Array Nat} {m : Nat} (a : Al n p) (h1 : 1 ≤ m) (hm : m ≤ n) (hd : Dsc lt p m) : KG lt n (kas_tail3 m n p) (fun r => Al n r.2 ∧ 1 ≤ r.1 ∧ r.1 ≤ n ∧ Srt lt r.2 r.1) := by
  have hs : Srt lt (kas_rev p 0 m) m := by
    intro i j hij hj
    rw [g_rev (by rw [a.size]; exact hm), g_rev (by rw [a.size]; exact hm), if_pos ⟨by omega, by omega⟩, if_pos ⟨by omega, hj⟩]
    exact hd _ _ (by omega) (by omega)
  refine KG.bind _ (KG.mono (fun r hr => ?_) _ (asc_ok O h0 (a.rev 0 m) (n - m) m h1 (by omega) hs))
  exact ⟨a.rev 0 m, by omega, by omega, hr.2.2.1⟩
theorem descPart_ok {p : Array Nat} {m : Nat} (a : Al n p) (h1 : 1 ≤ m) (hm : m + 1 ≤ n) (hd : Dsc lt p (m + 1)) : KG lt n (kas_descPart m n p) (fun r => Al n r.2 ∧ 1 ≤ r.1 ∧ r.1 ≤ n ∧ Srt lt r.2 r.1) := by
  refine KG.bind _ (KG.mono (fun r hr => ?_) _ (desc_ok O h0 (n - (m + 1)) p (m + 1) 0 a (by omega) (by omega) (by omega) hd fun i h1 h2 => ?_))
  · obtain ⟨r1, r2, r3, r4, r5, r6⟩ := hr
    by_cases hq : r.2.2 > 0
    · try dsimp only
      rw [if_pos hq]
      exact tail3_ok O h0 (r1.rev _ _) r2 r3 (rev_dsc O r1 r4 r3 r5 r6)
    · try dsimp only
      rw [if_neg hq]
      exact tail3_ok O h0 r1 r2 r3 r5
  · have : i = m + 1 - 1 := by omega
    rw [this]; exact O.rf _
theorem count_ok {p : Array Nat} (a : Al n p) : KG lt n (kas_count n p) (fun r => Al n r.2 ∧ 1 ≤ r.1 ∧ r.1 ≤ n ∧ Srt lt r.2 r.1) := by
  refine KG.bind _ (KG.mono (fun m hm => ?_) _ (asc_ok O h0 a (n - 1) 1 (Nat.le_refl _) (by omega) fun i j hij hj => ?_))
  · obtain ⟨m1, m2, m3, m4⟩ := hm
    by_cases he : (m == n) = true
    · try dsimp only
      rw [if_pos he]
      exact ⟨a, m1, by omega, m3⟩
    · try dsimp only
      rw [if_neg he]
      have hmn : m < n := by
        have : m ≠ n := by simpa using he
        omega
      have hlt := m4 (by omega)
      by_cases h1 : m > 1
      · try dsimp only
        rw [if_pos h1]
        refine ⟨a.below h0 _, a.below h0 _, ?_⟩
        cases hc : lt (p.getD 0 0) (p.getD (m - 1) 0) with
        | true => try dsimp only
                  rw [if_pos rfl]; exact ⟨a, m1, by omega, m3⟩
        | false =>
          try dsimp only
          rw [if_neg (by simp)]
          have heq : ∀ i j, i < m → j < m → le lt (g p i) (g p j) := fun i j hi hj =>
            O.tr _ _ _ (O.tr _ _ _ (m3 i (m - 1) (by omega) (by omega)) hc) (m3 0 j (by omega) hj)
          refine descPart_ok O h0 (a.rev _ _) m1 (by omega) fun i j hij hj => ?_
          rw [g_rev (by rw [a.size]; omega), g_rev (by rw [a.size]; omega)]
          by_cases i1 : i < m
          · try dsimp only
            rw [if_pos (show 0 ≤ i ∧ i < m from ⟨by omega, i1⟩)]
            by_cases j1 : j < m
            · try dsimp only
              rw [if_pos (show 0 ≤ j ∧ j < m from ⟨by omega, j1⟩)]
              exact heq _ _ (by omega) (by omega)
            · try dsimp only
              rw [if_neg (show ¬ (0 ≤ j ∧ j < m) by omega)]
              have : j = m := by omega
              rw [this]
              exact O.tr _ _ _ (O.as _ _ hlt) (heq _ _ (by omega) (by omega))
          · try dsimp only
            rw [if_neg (show ¬ (0 ≤ i ∧ i < m) by omega), if_neg (show ¬ (0 ≤ j ∧ j < m) by omega)]
            have : i = j := by omega
            rw [this]; exact O.rf _
      · try dsimp only
        rw [if_neg h1]
        have hm1 : m = 1 := by omega
        subst hm1
        refine descPart_ok O h0 a m1 (by omega) (dsc_step O (Nat.le_refl _) (fun i j hij hj => ?_) (O.as _ _ hlt))
        have : i = j := by omega
        rw [this]; exact O.rf _
  · have : i = j := by omega
    rw [this]; exact O.rf _
theorem sort_ok : KG lt n (kas_sort n) (fun p => Al n p ∧ Srt lt p n) := by
  refine KG.bind _ (KG.mono (fun r hr => ?_) _ (count_ok O h0 (p := List.toArray (List.range n)) (Array.Perm.refl _)))
  obtain ⟨r1, r2, r3, r4⟩ := hr
  by_cases h : r.1 < n
  · try dsimp only
    rw [if_pos h]
    have e : max r.1 1 = r.1 := by omega
    rw [e]
    exact bin_ok O h0 (n - r.1) r.2 r.1 r1 (by omega) r4
  · try dsimp only
    rw [if_neg h]
    have e : r.1 = n := by omega
    rw [e] at r4
    exact ⟨r1, r4⟩
end
end SO
end Mine
end S1_text
section L3_text
open PySem PySem.W PySem.Calls PyProof.Rows
set_option maxRecDepth 100000
namespace Mine
open PySem.MeetsSeq PySem.MeetsSeq3

theorem ints_all {xs ys : List Int} (hl : xs.length = ys.length) : ((List.range xs.length).all fun j => decide (xs.getD j 0 = ys.getD j 0)) = decide (xs = ys) := by
  by_cases e : xs = ys
  · subst e; simp
  · rw [decide_eq_false e]
    rw [← Bool.not_eq_true, List.all_eq_true]
    intro hall
    refine e (List.ext_getElem hl fun i h3 h4 => ?_)
    have := hall i (List.mem_range.mpr h3)
    simpa [List.getD, h3, h4] using this

section
variable {prog : Program} {w : World} {A : Around} {E : Value → Shared → Prop} {s : Shared} {l b : Addr} {items items2 : Array Value} {n n2 : Nat} {xs ys : List Int}
theorem lists_eqCall {Q : Value → Shared → Prop} (hl : s.heap.get? l = some (lobj items n)) (hb : s.heap.get? b = some (lobj items2 n2)) (h1 : IntsAre items.toList xs) (h2 : IntsAre items2.toList ys)
    (hq : Q (.bool (decide (xs = ys))) s) : wpAny (model prog w) A (call (.builtin "list.__eq__") [.ref l, .ref b]) Q E s := by
  have l1 : items.size = xs.length := by simpa using h1.length
  have l2 : items2.size = ys.length := by simpa using h2.length
  by_cases hsz : items.size = items2.size
  · refine call_meets PySem.F.slot_list_eq ⟨_, hl, rfl⟩ PySem.F.entry_list_eq (PySem.F.args_list_eq_2 _ _) (list_eq l b items items2 n n2 hsz (fun j => decide (xs.getD j 0 = ys.getD j 0)) ?_) ⟨hl, hb, ?_⟩
    · intro j hj1 hj2
      obtain ⟨t1, e1⟩ := h1.get j xs[j] (by simp)
      obtain ⟨t2, e2⟩ := h2.get j (ys[j]'(by omega)) (by simp)
      have e1 : items[j] = .int xs[j] t1 := by simpa [hj1] using e1
      have e2 : items2[j] = .int (ys[j]'(by omega)) t2 := by simpa [hj2] using e2
      rw [e1, e2]
      have := EqGives.int xs[j] (ys[j]'(by omega)) t1 t2
      rw [show decide (xs.getD j 0 = ys.getD j 0) = (xs[j] == ys[j]'(by omega)) from ?_]
      · exact this
      · simp only [List.getD, List.getElem?_eq_getElem (show j < xs.length by omega), List.getElem?_eq_getElem (show j < ys.length by omega), Option.getD_some]
        by_cases q : xs[j] = ys[j]'(by omega) <;> simp [q]
    · rw [l1, ints_all (by omega)]
      exact hq
  · refine call_meets PySem.F.slot_list_eq ⟨_, hl, rfl⟩ PySem.F.entry_list_eq (PySem.F.args_list_eq_2 _ _) (PySem.AutoSeq1.list___eq___list_list_0 l items n b items2 n2 (by simp [hsz])) ?_
    have hne : xs ≠ ys := by rintro rfl; omega
    rw [decide_eq_false hne] at hq
    exact ⟨hl, hb, hq⟩
theorem lists_eqBool {Q : Bool → Shared → Prop} (hu : A.units < 9000) (hl : s.heap.get? l = some (lobj items n)) (hb : s.heap.get? b = some (lobj items2 n2)) (h1 : IntsAre items.toList xs) (h2 : IntsAre items2.toList ys)
    (hq : Q (decide (xs = ys)) s) : wpAny (model prog w) A (eqBool (.ref l) (.ref b)) Q E s := by
  unfold eqBool
  refine wpAny_holding ?_
  by_cases hlb : l = b
  · subst hlb
    rw [hl] at hb
    cases hb
    have hxy : xs = ys := by rw [← h1.nums, ← h2.nums]
    subst hxy
    rw [if_pos (by simp)]
    refine wpAny_bind (wpAny_rule (wpAny_pure ?_))
    simpa using hq
  · rw [if_neg (by simpa using hlb)]
    refine wpAny_bind (m := richCompare .Eq _ _) (wpAny_richCompare_same_room (op := .Eq) ⟨_, hl, rfl⟩ ⟨_, hb, rfl⟩ PySem.F.slot_list_eq (lists_eqCall hl hb h1 h2 ⟨by simp, ?_⟩) (Nat.lt_trans hu (by decide)))
    exact wpAny_truthy_bool hq
theorem lists_one {c : Bool} {Q : Bool → Shared → Prop} (hu : A.units < 9000) (hl : s.heap.get? l = some (lobj items n)) (hb : s.heap.get? b = some (lobj items2 n2)) (h1 : IntsAre items.toList xs) (h2 : IntsAre items2.toList ys)
    (hq : Q (lexB false xs ys) s) : wpAny (model prog w) A (oneLt' c (.ref l) (.ref b)) Q E s := by
  rw [oneLt'_eq]
  cases c with
  | false => exact wpAny_bind (lists_lt hu hl hb h1 h2 (wpAny_truthy_bool hq))
  | true =>
    rw [if_pos rfl]
    refine wpAny_bind (wpAny_cRoomFor (Nat.lt_trans hu (by decide)) ?_)
    refine wpAny_bind (m := callSpecialIfBound? (.ref l) (Str.ofString "__lt__") [.ref b]) (wpAny_callSpecialIfBound?_slot (name := Str.ofString "__lt__") ⟨_, hl, rfl⟩ PySem.F.slot_list_lt ?_)
    refine call_meets PySem.F.slot_list_lt ⟨_, hl, rfl⟩ PySem.F.entry_list_lt (PySem.F.args_list_lt_2 _ _) (list_lt_meets l b items items2 n n2 xs ys h1 h2) ⟨hl, hb, ?_⟩
    exact wpAny_truthy_bool hq
end
end Mine
end L3_text
section GrE_text
namespace Mine
namespace GR
theorem ltB_irrefl : ∀ l : List Int, ltB l l = false
  | [] => rfl
  | x :: l => by simp [ltB, ltB_irrefl l]
theorem ltB_asymm : ∀ l m : List Int, ltB l m = true → ltB m l = false
  | [], [], h => by simp [ltB] at h
  | [], _ :: _, _ => rfl
  | _ :: _, [], h => by simp [ltB] at h
  | x :: l, y :: m, h => by
    simp only [ltB] at h ⊢
    by_cases e : x = y
    · subst e
      simp at h ⊢
      exact ltB_asymm l m h
    · have e2 : ¬ y = x := fun q => e q.symm
      simp [e, e2] at h ⊢
      omega
theorem ltB_trans : ∀ l m k : List Int, ltB l m = true → ltB m k = true → ltB l k = true
  | [], [], _, h, _ => by simp [ltB] at h
  | [], _ :: _, [], _, h => by simp [ltB] at h
  | [], _ :: _, _ :: _, _, _ => rfl
  | _ :: _, [], _, h, _ => by simp [ltB] at h
  | _ :: _, _ :: _, [], _, h => by simp [ltB] at h
  | x :: l, y :: m, z :: k, h, h2 => by
    simp only [ltB] at h h2 ⊢
    by_cases e : x = y
    · subst e
      by_cases e2 : x = z
      · subst e2
        simp at h h2 ⊢
        exact ltB_trans l m k h h2
      · simp [e2] at h2 ⊢
        exact h2
    · by_cases e2 : y = z
      · subst e2
        simp [e] at h ⊢
        exact h
      · have e3 : ¬ x = z := by
          intro q
          subst q
          simp [e, e2] at h h2
          omega
        simp [e, e2, e3] at h h2 ⊢
        omega
theorem ltP_irrefl (a : List Int × Int) : ltP a a = false := by simp [ltP, ltB_irrefl]
theorem ltP_asymm (a b : List Int × Int) (h : ltP a b = true) : ltP b a = false := by
  simp only [ltP, Bool.or_eq_true, Bool.and_eq_true, decide_eq_true_eq, beq_iff_eq] at h
  rcases h with h | ⟨h1, h2⟩
  · have hne : ¬ b.1 = a.1 := by
      intro q
      rw [q, ltB_irrefl] at h
      cases h
    simp [ltP, ltB_asymm _ _ h, hne]
  · simp [ltP, h1, ltB_irrefl]
    omega
theorem ltP_trans (a b c : List Int × Int) (h : ltP a b = true) (g : ltP b c = true) : ltP a c = true := by
  simp only [ltP, Bool.or_eq_true, Bool.and_eq_true, decide_eq_true_eq, beq_iff_eq] at h g ⊢
  rcases h with h | ⟨h1, h2⟩
  · rcases g with g | ⟨g1, g2⟩
    · exact .inl (ltB_trans _ _ _ h g)
    · rw [← g1]; exact .inl h
  · rcases g with g | ⟨g1, g2⟩
    · rw [h1]; exact .inl g
    · exact .inr ⟨h1.trans g1, by omega⟩
theorem ltP_le_trans (a b c : List Int × Int) (h : ltP b a = false) (g : ltP c b = false) : ltP c a = false := by
  cases e1 : ltP a b with
  | true =>
    cases e2 : ltP b c with
    | true => exact ltP_asymm _ _ (ltP_trans _ _ _ e1 e2)
    | false =>
      have : b = c := ltP_tri e2 g
      subst this
      exact h
  | false =>
    have : a = b := ltP_tri e1 h
    subst this
    exact g
end GR
end Mine
end GrE_text
section L4_text
open PySem PySem.W PySem.Calls PyProof.Rows
set_option maxRecDepth 100000
namespace Mine

theorem lexB_lt : ∀ xs ys : List Int, lexB false xs ys = GR.ltB xs ys
  | [], [] => rfl
  | [], _ :: _ => rfl
  | _ :: _, [] => rfl
  | x :: xs, y :: ys => by simp only [lexB, GR.ltB, lexB_lt xs ys]

/-- a turn: a tuple of a list and its last figure -/
noncomputable def TurnAt (h : Heap) (v : Value) (x : List Int × Int) : Prop :=
  ∃ a l its j t n, v = .ref a ∧ h.get? a = some { cls := .type "tuple", data := .seq #[.ref l, .int x.2 t] n } ∧ h.get? l = some (lobj its j) ∧ IntsAre its.toList x.1
theorem TurnAt.keeps {h h' : Heap} {v : Value} {x : List Int × Int} (k : Keep h h') (a : TurnAt h v x) : TurnAt h' v x :=
  let ⟨a, l, its, j, t, n, e1, e2, e3, e4⟩ := a; ⟨a, l, its, j, t, n, e1, k _ _ e2, k _ _ e3, e4⟩

section
variable {prog : Program} {w : World} {A : Around} {E : Value → Shared → Prop} {s : Shared}
theorem turn_lt {b : Bool} {v u : Value} {x y : List Int × Int} {Q : Bool → Shared → Prop} (hu : A.units < 9000) (hv : TurnAt s.heap v x) (hw : TurnAt s.heap u y) (hq : Q (GR.ltP x y) s) :
    wpAny (model prog w) A (keyLt' (tuples' b) v u) Q E s := by
  obtain ⟨a, l, its, j, t, n, rfl, e2, e3, e4⟩ := hv
  obtain ⟨a', l', its', j', t', n', rfl, f2, f3, f4⟩ := hw
  refine kat_lt e2 rfl f2 rfl ?_
  refine kat_cons (lists_eqBool hu e3 f3 e4 f4 (kat_go (fun he => ?_) fun he => ?_))
  · have hxy : x.1 = y.1 := of_decide_eq_true he
    refine kat_yes (kat_cons (wpAny_eqBool_int (kat_go (fun he2 => ?_) fun he2 => ?_)))
    · have h2 : x.2 = y.2 := by simpa using he2
      refine kat_yes (kat_nil ?_)
      have : GR.ltP x y = false := by
        rw [show x = y from Prod.ext hxy h2]; exact GR.ltP_irrefl _
      rw [this] at hq
      exact hq
    · refine kat_no ?_
      have hb : (b && (0 + 1 == 0)) = false := by cases b <;> rfl
      rw [hb]
      refine kat_one _ _ (lt_int ?_)
      have : GR.ltP x y = decide (x.2 < y.2) := by simp [GR.ltP, hxy, GR.ltB_irrefl]
      rw [this] at hq
      exact hq
  · refine kat_no ?_
    have hne : x.1 ≠ y.1 := of_decide_eq_false he
    refine lists_one hu e3 f3 e4 f4 ?_
    have : GR.ltP x y = lexB false x.1 y.1 := by rw [lexB_lt]; simp [GR.ltP, hne]
    rw [this] at hq
    exact hq
end

theorem turn_tups {h : Heap} : ∀ {vs : List Value} {T : List (List Int × Int)}, PySem.Paired (TurnAt h) vs T → ∃ fs, KatTups h vs fs ∧ fs.length = vs.length ∧ ∀ v ∈ fs, ∃ l its j, v = .ref l ∧ h.get? l = some (lobj its j)
  | _, _, .nil => ⟨[], KatTups.nil, rfl, by simp⟩
  | _, _, .cons hv r => by
    obtain ⟨fs, f1, f2, f3⟩ := turn_tups r
    obtain ⟨a, l, its, j, t, n, rfl, e2, e3, e4⟩ := hv
    refine ⟨.ref l :: fs, KatTups.cons e2 rfl rfl rfl f1, by simp [f2], ?_⟩
    intro v hv
    rcases List.mem_cons.mp hv with rfl | hv
    · exact ⟨l, its, j, rfl, e3⟩
    · exact f3 v hv
theorem paired_getD {α β : Type} {F : α → β → Prop} (a0 : α) (b0 : β) : ∀ {l : List α} {k : List β}, PySem.Paired F l k → ∀ i, i < l.length → F (l.getD i a0) (k.getD i b0)
  | _, _, .cons h _, 0, _ => h
  | _, _, .cons _ r, i + 1, hi => by
    simp only [List.length_cons] at hi
    simpa using paired_getD a0 b0 r i (by omega)
theorem paired_map {α β γ : Type} {F : α → β → Prop} (f : γ → α) (g : γ → β) : ∀ {l : List γ}, (∀ x ∈ l, F (f x) (g x)) → PySem.Paired F (l.map f) (l.map g)
  | [], _ => .nil
  | x :: l, h => .cons (h x (.head _)) (paired_map f g fun y hy => h y (.tail _ hy))
theorem map_getD_range {α : Type} (d : α) (l : List α) : (List.range l.length).map (fun i => l.getD i d) = l := by
  apply List.ext_getElem
  · simp
  · intro i h1 h2
    simp [List.getD, h2]
theorem ordT (T : List (List Int × Int)) : SO.Ord (fun i j => GR.ltP (T.getD i ([], 0)) (T.getD j ([], 0))) where
  rf := fun _ => GR.ltP_irrefl _
  tr := fun _ _ _ h g => GR.ltP_le_trans _ _ _ h g
  as := fun _ _ h => GR.ltP_asymm _ _ h

section
variable {prog : Program} {w : World} {A : Around} {E : Value → Shared → Prop} {s : Shared} {h G : Heap} {tk : Nat} {L : Addr} {m : Str → Option Value} {news : List (Addr × Obj)}
theorem zsortedT {l : Addr} {vs : List Value} {T : List (List Int × Int)} {Q : Value → Shared → Prop} (hu : A.units < 8000) (C : Cx G L h m news) (hl : h.IsList l vs.toArray) (hTG : PySem.Paired (TurnAt G) vs T) (h2 : 2 ≤ vs.length) (h64 : vs.length < 64)
    (hq : ∀ D h' tk' j ys T', Cx G L h' m ((D, listOf ys j) :: news) → T'.Perm T → T'.Pairwise (fun a b => GR.ltP b a = false) → PySem.Paired (TurnAt G) ys.toList T' → Q (.ref D) (St s h' tk')) :
    wpAny (model prog w) A (call (.builtin "sorted") [.ref l]) Q E (St s h tk) := by
  have hT : PySem.Paired (TurnAt h) vs T := hTG.mono fun _ _ x => x.keeps C.keep
  refine kat_sorted (s := St s h tk) C.fr C.nw hl h2 h64 fun D e1 h1 F1 N1 hD => ?_
  have kb : ∀ b o, b ≠ L → h.get? b = some o → h1.get? b = some o := fun b o hb e => (N1 (b, o) (.tail _ (mem_allBut.mpr ⟨hb, e⟩))).1
  have notL : ∀ b o, h.get? b = some o → (∀ es ep, o.data ≠ .dict es ep) → b ≠ L := by
    intro b o e hn q
    obtain ⟨o', es, ep, e', hd, _⟩ := C.ns
    rw [q, e'] at e
    cases e
    exact hn es ep hd
  have turn1 : ∀ v x, TurnAt h v x → TurnAt h1 v x := by
    rintro v x ⟨a, l, its, j, t, n, e1, e2, e3, e4⟩
    exact ⟨a, l, its, j, t, n, e1, kb _ _ (notL _ _ e2 (by simp)) e2, kb _ _ (notL _ _ e3 (by simp)) e3, e4⟩
  have hT1 : PySem.Paired (TurnAt h1) vs T := hT.mono turn1
  obtain ⟨fs, f1, f2, f3⟩ := turn_tups hT1
  have hlen := hT.length
  refine kat_kind (s := St s h1 tk) (T := .type "list") f1 (by omega) (fun v hv => ?_) (by simp) ?_
  · obtain ⟨l, its, j, rfl, e⟩ := f3 v hv
    exact (show Looks _ h1 (typeOf (.ref l)) (lobj its j).cls from (Looks.ld e).andThen .now)
  · refine SO.KG.wp (lt := fun i j => GR.ltP (T.getD i ([], 0)) (T.getD j ([], 0))) (n := vs.length) (s := St s h1 tk) (fun i j K hi hj hK => ?_) _ (SO.KG.mono (fun p hp => ?_) _ (SO.sort_ok (ordT T) (by omega)))
    · exact turn_lt (s := St s h1 tk) (by show A.units + 1 + 1 < 9000; omega) (paired_getD Value.none ([], 0) hT1 i hi) (paired_getD Value.none ([], 0) hT1 j hj) hK
    · obtain ⟨pa, ps⟩ := hp
      have hpl : p.toList.Perm (List.range vs.length) := by simpa using Array.perm_iff_toList_perm.mp pa
      refine KasFin.intro F1 N1 (.head fun q hq => Nat.ne_of_lt (hD q hq)) fun h' c F' N' => ?_
      have C' : Cx G L h' m ((D, listOf (p.toList.map fun i => vs.getD i Value.none).toArray c) :: news) := C.backK F' N' hD
      refine hq D h' _ c _ (p.toList.map fun i => T.getD i ([], 0)) C' ?_ ?_ ?_
      · have := hpl.map (fun i => T.getD i ([], 0))
        rw [hlen, map_getD_range] at this
        exact this
      · rw [List.pairwise_map, List.pairwise_iff_getElem]
        intro i j hi hj hij
        have hsz : p.size = vs.length := pa.size
        have := ps i j (Nat.le_of_lt hij) (by rw [← hsz]; simpa using hj)
        unfold SO.le at this
        have e1 : SO.g p i = p.toList[i] := by rw [SO.g_eq, ← Array.getElem?_toList, List.getElem?_eq_getElem (by simpa using hi)]; rfl
        have e2 : SO.g p j = p.toList[j] := by rw [SO.g_eq, ← Array.getElem?_toList, List.getElem?_eq_getElem (by simpa using hj)]; rfl
        rw [e1, e2] at this
        exact this
      · refine paired_map _ _ fun i hi => ?_
        have : i < vs.length := List.mem_range.mp (hpl.mem_iff.mp hi)
        exact paired_getD Value.none ([], 0) hTG i this
end
end Mine
end L4_text
section L5_text
open PySem PySem.W PySem.Calls PyProof.Rows
set_option maxRecDepth 100000
namespace Mine

section
variable {prog : Program} {w : World} {A : Around} {E : Value → Shared → Prop} {s : Shared}
/-- a list of no or one item is sorted as it stands -/
theorem sort_small {a : Addr} {vs : List Value} {n : Nat} {P : PySem.Fin → Shared → Prop} (ho : s.heap.get? a = some (seqObj "list" vs.toArray n)) (h2 : vs.length < 2)
    (h : ∀ h' j, (∀ b o, b ≠ a → s.heap.get? b = some o → h'.get? b = some o) → h'.get? a = some (listOf vs.toArray j) → P (.done (.ret .none)) { s with heap := h' }) :
    wpAny (model prog w) A (Builtin.«list.sort» ⟨[.ref a], []⟩) P E s := by
  rw [list_sort_plain]
  have ha : a < s.heap.objs.size := Heap.lt_size ho
  refine wpAny_bind (listItems_at ho rfl ?_)
  refine wpAny_bind (listUpdate_at ho rfl ?_)
  obtain ⟨e1, ho1⟩ : ∃ e1, (s.heap.update a (Obj.mapSeq fun _ => #[])).get? a = some (seqObj "list" #[] e1) := ⟨_, get?_update_seq ho (fun _ => #[])⟩
  refine wpAny_bind (seqEpoch_at ho1 rfl ?_)
  refine wpAny_bind (wpAny_newTuple ?_ (by rw [sizeLine_eq]; simp; omega))
  refine wpAny_bind (wpAny_newList ?_)
  refine wpAny_holding ?_
  generalize hH : ((s.heap.update a (Obj.mapSeq fun _ => #[])).push (seqObj "tuple" vs.toArray.toList.toArray 0)).push (seqObj "list" #[] 0) = H
  have ho6 : H.get? a = some (seqObj "list" #[] e1) := by
    rw [← hH]
    exact Heap.get?_push_of_some _ (Heap.get?_push_of_some _ ho1)
  have kH : ∀ b o, b ≠ a → s.heap.get? b = some o → H.get? b = some o := fun b o hb e => by
    rw [← hH]
    exact Heap.get?_push_of_some _ (Heap.get?_push_of_some _ (by rw [Heap.get?_update_ne _ _ _ _ hb]; exact e))
  show wpAny (model prog w) A _ P E { s with heap := H }
  dsimp only
  have hsz : vs.toArray.size < 2 := by simpa using h2
  rw [if_pos hsz, if_pos hsz]
  refine wpAny_bind (wpAny_pure ?_)
  rw [StateT.run_pure]
  refine wpAny_bind (wpAny_pure ?_)
  dsimp only
  refine wpAny_bind (seqEpoch_at (s := { s with heap := H }) ho6 rfl ?_)
  refine wpAny_bind (listUpdate_at (s := { s with heap := H }) ho6 rfl ?_ (hsz2 := ?_))
  · simp only [bne_self_eq_false, Bool.false_eq_true, if_false]
    have hmap : (vs.toArray.zip vs.toArray).map (·.2) = vs.toArray := by
      apply Array.ext'
      simp [List.map_snd_zip]
    have hget := get?_update_seq ho6 (fun _ => (vs.toArray.zip vs.toArray).map (·.2))
    rw [hmap] at hget
    refine wpAny_pure (h _ (if (vs.toArray.size == (#[] : Array Value).size) = true then e1 else e1 + 1) (fun b o hb e => ?_) ?_)
    · show (H.update a _).get? b = some o
      rw [Heap.get?_update_ne _ _ _ _ hb]; exact kH b o hb e
    · show (H.update a (Obj.mapSeq fun _ => (vs.toArray.zip vs.toArray).map (·.2))).get? a = _
      rw [hmap]
      exact hget
  · rw [sizeLine_eq]
    show ((vs.toArray.zip vs.toArray).map _).size ≤ _
    simp
    omega
theorem zsorted_small {h G : Heap} {tk : Nat} {L : Addr} {m : Str → Option Value} {news : List (Addr × Obj)} {l : Addr} {vs : List Value} {Q : Value → Shared → Prop} (C : Cx G L h m news) (hl : h.IsList l vs.toArray) (h2 : vs.length < 2)
    (hq : ∀ D h' tk' j, Cx G L h' m ((D, listOf vs.toArray j) :: news) → (∀ b o, h.get? b = some o → h'.get? b = some o) → Q (.ref D) (St s h' tk')) :
    wpAny (model prog w) A (call (.builtin "sorted") [.ref l]) Q E (St s h tk) := by
  refine Calls.call_function_entry kind_sorted plain_sorted entry_sorted (args_sorted1 _) ?_
  unfold Builtin.«sorted»
  refine wpAny_bind (m := checkCount "sorted" 1 1 _) (wpAny_pure ?_)
  refine wpAny_bind (collect_list hl ?_ (by rw [sizeLine_eq]; omega))
  refine wpAny_bind (wpAny_newList ?_ (by rw [sizeLine_eq]; omega))
  generalize hH : ((St s h tk).heap.push (seqObj "list" #[] 0)).update (St s h tk).heap.objs.size (Obj.mapSeq (· ++ vs.toArray)) = H
  have hsz : H.objs.size = h.objs.size + 1 := by rw [← hH, Heap.size_update, size_push']
  have hk : ∀ b o, h.get? b = some o → H.get? b = some o := fun b o e => by
    rw [← hH, Heap.get?_update_ne _ _ _ _ (Nat.ne_of_lt (Heap.lt_size e))]
    exact Heap.get?_push_of_some _ e
  have hoL : (H.push (seqObj "list" vs.toArray 0)).get? H.objs.size = some (seqObj "list" vs.toArray 0) := Heap.get?_push_size _ rfl
  show wpAny _ _ _ _ _ (St s (H.push (seqObj "list" vs.toArray 0)) tk)
  refine wpAny_bind (wpAny_holding (wpAny_call_entry slot_list_sort ⟨_, hoL, rfl⟩ entry_list_sort ?body (args_list_sort _)))
  case body =>
    refine sort_small (s := St s (H.push (seqObj "list" vs.toArray 0)) tk) hoL h2 fun h' j kb hj => ?_
    have hfr : h.get? H.objs.size = none := get_above (by rw [hsz]; exact Nat.le_succ _)
    have kAll : ∀ b o, h.get? b = some o → h'.get? b = some o := fun b o e => kb b o (fun q => by rw [q, hfr] at e; cases e) (Heap.get?_push_of_some _ (hk b o e))
    exact ⟨_, rfl, wpAny_pure ⟨_, rfl, hq _ _ _ j (C.fresh hfr kAll hj) kAll⟩⟩
theorem zsortedA {h G : Heap} {tk : Nat} {L : Addr} {m : Str → Option Value} {news : List (Addr × Obj)} {l : Addr} {vs : List Value} {T : List (List Int × Int)} {Q : Value → Shared → Prop} (hu : A.units < 8000) (C : Cx G L h m news) (hl : h.IsList l vs.toArray) (hT : PySem.Paired (TurnAt G) vs T) (h64 : vs.length < 64)
    (hq : ∀ D h' tk' j ys T', Cx G L h' m ((D, listOf ys j) :: news) → T'.Perm T → T'.Pairwise (fun a b => GR.ltP b a = false) → PySem.Paired (TurnAt G) ys.toList T' → Q (.ref D) (St s h' tk')) :
    wpAny (model prog w) A (call (.builtin "sorted") [.ref l]) Q E (St s h tk) := by
  by_cases h2 : vs.length < 2
  · refine zsorted_small C hl h2 fun D h' tk' j C' k => hq D h' tk' j _ T C' (List.Perm.refl _) ?_ hT
    have := hT.length
    match T, this with
    | [], _ => exact .nil
    | [_], _ => exact List.pairwise_singleton _ _
    | _ :: _ :: _, e => simp at e; omega
  · exact zsortedT hu C hl hT (by omega) h64 hq
end
end Mine
end L5_text
section Z3_text
open PySem PySem.W PySem.Calls PyProof.Rows
set_option maxRecDepth 100000
namespace Mine

/-- _law_figures -/
theorem figures_call {w : World} {A : Around} {s : Shared} {R : Result → Shared → Prop} {n : Nat} {t : Tok} (hA : Room 900 A) (g : Good s.heap)
    (hn : n < 64 ^ 40)
    (h : ∀ a h' tk, Keep s.heap h' → s.heap.get? a = none → Ints h' a (digs n) → R (.ok (.ret (.ref a))) (St s h' tk)) :
    codeAny (model pw w) A (.call (.ref 165) ⟨[.int n t], []⟩) R s := by
  refine enter (binds := [("number", .int n t)]) (by unfold recursionLimit; have := hA.2.1; omega) g.lim g.f165 (fun _ _ _ _ _ => BindsTo.of_eq rfl) (by decide +kernel) (by simp; decide +kernel) rfl rfl rfl fun h₁ cd F => ?_
  have C := Cx.of_fr F
  have hA' := hA.deeper (envOf (sName (stm 20)) (sScope (stm 20)) s.heap.objs.size 165 cd)
  refine wpAny_mono (E := fun _ _ => False) ?_ (fun _ _ x => x) fun _ _ x => x.elim
  refine wpAny_hide fun Q0 E0 hQ0 _ => ?_
  refine wpAny_execs_cons ?_
  refine wpAny_Assign_Name (List_ (args_nil (znewList (s := s) C fun l h2 tk2 C => zst C fun h3 tk3 C => ?_)))
  refine wpAny_execs_cons (wpAny_While ?_)
  obtain ⟨W, hW⟩ : ∃ W : Nat → Shared → Prop, ∀ k s', W k s' ↔ (∃ (h' : Heap) (tk : Nat) (mp : Str → Option Value) (a : Addr) (its : Array Value) (j c : Nat) (u : Tok) (acc : List Int), s' = St s h' tk ∧
      Cx s.heap s.heap.objs.size h' mp [(a, listOf its j)] ∧ mp "number" = some (.int c u) ∧ mp "figures" = some (.ref a) ∧ IntsAre its.toList acc ∧ digs c ++ acc = digs n ∧ c < 64 ^ 40 ∧ k = c) := ⟨_, fun _ _ => Iff.rfl⟩
  refine codeAny_whileLoop W ?_ n ((hW _ _).mpr ⟨_, _, _, _, _, 0, n, t, [], rfl, C, rfl, rfl, .nil, by simp, hn, rfl⟩)
  rintro k s' hWk
  obtain ⟨h', tk, mp, a, its, j, c, u, acc, rfl, C, m1, m2, hi, hd, hc, rfl⟩ := (hW _ _).mp hWk
  refine wpAny_hide fun Q1 E1 hQ1 _ => ?_
  have hlen : its.size ≤ 40 := by
    have e1 := ints_len hi
    have e2 := digs_len 40 n hn
    rw [← hd, List.length_append] at e2
    simp at e1; omega
  refine wpAny_isTrue_Compare1 (zld C m1 (zint fun t1 tk1 => gt_int (wpAny_truthy_bool (hQ1 _ _ (split_dec (fun hp => ?_) fun hp => ?_)))))
  · refine wpAny_hide fun Q2 E2 hQ2 _ => ?_
    refine wpAny_execs_cons (wpAny_Assign_Name (wpAny_BinOp (List_ (args_cons (wpAny_BinOp (zld C m1 (zint fun t1 tk1 => mod_int' (by decide) (args_nil (znewList (s := s) C fun l4 h4 tk4 C => ?_)))))))))
    refine zld C m2 (zadd_lists C (isList_of (C.led _ (.head _)).1) (isList_of (C.led _ (.tail _ (.head _))).1) (fun l5 h5 tk5 C => zst C fun h6 tk6 C => ?_) (by simp; unfold sizeLine; omega))
    refine wpAny_execs_cons (wpAny_Assign_Name (wpAny_BinOp (zld C (by walk_at "lk") (zint fun t7 tk7 => floordiv_int (by decide) (zst (s := s) C fun h8 tk8 C => wpAny_execs_nil ?_) ?_))))
    · have hc0 : k ≠ 0 := by rintro rfl; simp at hp
      refine hQ2 _ _ ⟨k / 64, ?_, (hW _ _).mpr ⟨_, _, _, _, _, _, k / 64, _, ((k % 64 : Nat) : Int) :: acc, rfl, C.first, (if_pos rfl).trans (by rw [show (64 : Int) = ((64 : Nat) : Int) from rfl, fdiv_nat]), rfl, ?_, ?_, ?_, rfl⟩⟩
      · exact Nat.div_lt_self (Nat.pos_of_ne_zero hc0) (by decide)
      · rw [show (64 : Int) = ((64 : Nat) : Int) from rfl, fmod_nat]; exact .cons _ _ hi
      · rw [← hd, digs_pos hc0]; simp
      · exact Nat.lt_of_le_of_lt (Nat.div_le_self _ _) hc
    · exact .inl (PyProof.noPylong_small (by decide))
  · refine wpAny_execs_nil ?_
    refine wpAny_execs_cons (wpAny_Return_some (zld (s := s) C m2 ?_))
    have : k = 0 := by simpa using hp
    subst this
    rw [digs_zero] at hd
    refine hQ0 _ _ ?_
    exact h _ _ _ C.keep (C.led _ (.head _)).2.2 ⟨its, j, (C.led _ (.head _)).1, by rw [← hd]; exact hi⟩
end Mine
end Z3_text
section Z11_text
open PySem PySem.W PySem.Calls PyProof.Rows
set_option maxRecDepth 100000
namespace Mine

section
variable {prog : Program} {w : World} {A : Around} {E : Value → Shared → Prop} {s : Shared} {env : Env} {G h : Heap} {tk : Nat} {L : Addr} {m : Str → Option Value} {news : List (Addr × Obj)}
noncomputable def SliceAt (o vl vu : Value) (Q : Value → Shared → Prop) (s₃ : Shared) : Prop :=
  ∃ l items lo hi, o = .ref l ∧ s₃.heap.IsList l items ∧ items.size ≤ sizeLine ∧ IsPart vl lo ∧ IsPart vu hi ∧
        Q (.ref (s₃.heap.objs.size + 1)) { s₃ with heap := (s₃.heap.push { cls := .type "slice", data := .fields #[vl, vu, .none] }).push { cls := .type "list", data := .seq (slicePick items lo hi none) } }
theorem zslice {value : PySem.Expr} {lower upper : Option PySem.Expr} {p pos : Pos} {s : Shared} {Q : Value → Shared → Prop}
    (hq : wpAny (model prog w) A (eval value env) (fun o s₁ => wpAny (model prog w) A (evalPart lower env) (fun vl s₂ => wpAny (model prog w) A (evalPart upper env) (fun vu s₃ => SliceAt o vl vu Q s₃) E s₂) E s₁) E s)
    (ht : ∀ o r, letTemporaryGo value o r = pure () := by intro _ _; rfl) :
    wpAny (model prog w) A (eval (.Subscript value (.Slice lower upper none p) pos) env) Q E s := wpAny_Subscript_list_slice hq ht
theorem zslice_end {l : Addr} {items : Array Value} {vl vu : Value} {lo hi : Option Int} {Q : Value → Shared → Prop} (its : List Value) (C : Cx G L h m news) (hl : h.IsList l items) (pl : IsPart vl lo) (pu : IsPart vu hi)
    (he : slicePick items lo hi none = its.toArray)
    (hq : ∀ h' tk' a, Cx G L h' m ((a, listOf its.toArray 0) :: news) → Q (.ref a) (St s h' tk')) (hsz : items.size ≤ sizeLine := by size_fits) :
    SliceAt (.ref l) vl vu Q (St s h tk) := by
  refine ⟨l, items, lo, hi, rfl, hl, hsz, pl, pu, ?_⟩
  rw [he]
  refine hq _ _ _ (C.fresh (a := h.objs.size + 1) ?_ ?_ ?_)
  · exact get_above (Nat.le_succ _)
  · exact fun b o e => Heap.get?_push_of_some _ (Heap.get?_push_of_some _ e)
  · have := Heap.get?_push_size (h.push { cls := .type "slice", data := .fields #[vl, vu, .none] }) (o := { cls := .type "list", data := .seq its.toArray }) rfl
    rw [Heap.size_push] at this
    exact this
end

/-- no turn of the number's figures is less -/
noncomputable def LowD (ds : List Int) : Prop := ∀ cut, 1 ≤ cut → cut < ds.length → lexB true (ds.drop cut ++ ds.take cut) ds = false

theorem lowest_call {w : World} {A : Around} {s : Shared} {R : Result → Shared → Prop} {n : Nat} {t : Tok} (hA : Room 350 A) (g : Good s.heap) (hn : n < 64 ^ 40) (hlow : LowD (digs n))
    (h : ∀ h' tk, Keep s.heap h' → R (.ok (.ret (.bool true))) (St s h' tk)) :
    codeAny (model pw w) A (.call (.ref 172) ⟨[.int n t], []⟩) R s := by
  refine enter (binds := [("number", .int n t)]) (by unfold recursionLimit; have := hA.2.1; omega) g.lim g.f172 (fun _ _ _ _ _ => BindsTo.of_eq rfl) (by decide +kernel) (by simp; decide +kernel) rfl rfl rfl fun h₁ cd F => ?_
  have C := Cx.of_fr F
  have hA' := hA.deeper (envOf (sName (stm 21)) (sScope (stm 21)) s.heap.objs.size 172 cd)
  refine wpAny_mono (E := fun _ _ => False) ?_ (fun _ _ x => x) fun _ _ x => x.elim
  refine wpAny_execs_cons (wpAny_Assign_Name (zcall (s := s) g C.keep g.f165 (args_cons (zld C (by walk_at "lk") (args_nil ⟨C.keep, ?_⟩)))))
  refine wpAny_call (figures_call (s := St s h₁ _) (hA'.mono (by decide)) (g.keeps C.keep) hn fun a h2 tk2 k2 hn2 hi => ?_)
  have C2 := C.keeps k2
  obtain ⟨its, j, ha, hi⟩ := hi
  have hlen : its.size ≤ 40 := by
    have e1 := hi.length
    have e2 := digs_len 40 n hn
    simp at e1; omega
  have C := C.fresh hn2 k2 ha
  refine zst (s := s) C fun h3 tk3 C => ?_
  refine wpAny_execs_cons (wpAny_For (zcallT (s := s) g C.keep (args_cons (zint fun t1 tk1 => args_cons (zcallB (s := s) g C.keep (args_cons (zld C (by walk_at "lk") (args_nil (zlen_list its.size (isList_of C.hd) rfl (by omega) fun t2 tk2 => args_nil ?_)))))))))
  refine zrange (s := s) 1 its.size (its.size - 1) C rfl rfl rfl (by omega) (by decide) fun h4 tk4 I C => ?_
  refine zforRange (s := s) 1 (its.size - 1) (fun _ G m news => G = s.heap ∧ m "ring" = some (.ref a) ∧ news = [(a, listOf its j)]) hA'.1 C ⟨rfl, rfl, rfl⟩ ?_ ?_
  · rintro i G h5 m5 news tk5 t5 hi5 ⟨rfl, m1, rfl⟩ C
    refine wpAny_execs_cons (wpAny_If (wpAny_isTrue_Compare1 (wpAny_BinOp (zslice ?_))))
    refine zld (s := s) C (by walk_at "lk") (wpAny_evalPart_some (zld (s := s) C (by walk_at "lk") (wpAny_evalPart_none ?_)))
    have hl := isList_of (C.led _ (.tail _ (.head _))).1
    refine zslice_end (s := s) (its.toList.drop (1 + i)) C hl (.int _ _) .none (slicePick_from' _ _) (fun h6 tk6 a6 C => ?_) (by rw [sizeLine_eq]; omega)
    refine zslice ?_
    refine zld (s := s) C (by walk_at "lk") (wpAny_evalPart_none (wpAny_evalPart_some (zld (s := s) C (by walk_at "lk") ?_)))
    have hl := isList_of (C.led _ (.tail _ (.tail _ (.head _)))).1
    refine zslice_end (s := s) (its.toList.take (1 + i)) C hl .none (.int _ _) (slicePick_upto' _ _) (fun h7 tk7 a7 C => ?_) (by rw [sizeLine_eq]; omega)
    refine zadd_lists C (isList_of (C.led _ (.tail _ (.head _))).1) (isList_of C.hd) (fun a8 h8 tk8 C => ?_) (by simp; rw [sizeLine_eq]; omega)
    refine zld (s := s) C (by walk_at "lk") ?_
    refine lists_le (s := St s h8 tk8) (by have := hA'.2.2; omega) C.hd (C.led (a, listOf its j) (by simp)).1 (xs := (digs n).drop (1 + i) ++ (digs n).take (1 + i)) (ys := digs n) ?_ hi ?_
    · simpa using IntsAre.append (hi.drop (1 + i)) (hi.take (1 + i))
    · have hll : its.size = (digs n).length := by simpa using hi.length
      rw [hlow (1 + i) (by omega) (by omega)]
      refine wpAny_truthy_bool (ite_ff ?_)
      refine wpAny_execs_nil (wpAny_execs_nil ?_)
      exact ⟨_, h8, _, _, _, rfl, C.dropN 3, rfl, (by walk_at "lk"), rfl⟩
  · rintro G h5 m5 news tk5 ⟨rfl, m1, rfl⟩ C
    refine wpAny_execs_cons (wpAny_Return_some (Constant_bool ?_))
    exact h _ _ C.keep
end Mine
end Z11_text
section C3_text
open PySem PySem.W PySem.Calls PyProof.Rows
set_option maxRecDepth 100000
namespace Mine

section
variable {w : World} {M : Model} {A : Around} {E : Value → Shared → Prop} {s : Shared} {env : Env} {G h : Heap} {tk : Nat} {L : Addr} {m : Str → Option Value} {news : List (Addr × Obj)}
theorem zldE {x : Str} {pos : Pos} {v : Value} {Q : Value → Shared → Prop} (C : Cx G env.locals h m news) (hm : m x = some v) (hq : Q v (St s h tk))
    (hk : env.scope.kind = .function := by rfl) (hl : env.kindOf x = some .local := by rfl) (hd : (x == ("__debug__" : Str)) = false := by decide) :
    wpAny M A (eval (.Name x pos) env) Q E (St s h tk) := wpAny_Name (wpAny_loadName_local (s := St s h tk) hk hl C.ns hm hq) hd

theorem stepPlain {x : Str} {elt : PySem.Expr} {F : Heap → Nat → Value → Prop} {n : Nat} {P : Nat → Value → Prop} {cenv : Env}
    (h : ∀ i v G2 h2 tk2 m2 news2 E', i < n → P i v → Keep G G2 → Cx G2 cenv.locals h2 m2 news2 → m2 x = some v →
      wpAny (model pw w) A (eval elt cenv) (fun y s₄ => ∃ G4 h4 tk4 m4, s₄ = St s h4 tk4 ∧ Keep G2 G4 ∧ Cx G4 cenv.locals h4 m4 news2 ∧ F G4 i y) E' (St s h2 tk2)) :
    StepOk w A s G x [] elt (fun _ => true) F n P cenv := by
  intro i v G2 h2 tk2 m2 news2 E' hi hv kG C hm
  refine wpAny_tests_nil ⟨rfl, G2, h2, tk2, m2, rfl, Keep.rfl', C, hm, fun _ => ?_⟩
  exact h i v G2 h2 tk2 m2 news2 E' hi hv kG C hm
theorem took_all (n : Nat) : took (fun _ => true) n = List.range n := by simp [took]
theorem paired_ints {f : Nat → Int} : ∀ {l : List Nat} {ys : List Value}, PySem.Paired (fun i y => ∃ t, y = .int (f i) t) l ys → IntsAre ys (l.map f)
  | _, _, .nil => .nil
  | _, _, .cons ⟨t, e⟩ r => by subst e; exact .cons _ _ (paired_ints r)
theorem paired_at {α β : Type} {F : α → β → Prop} : ∀ {l : List α} {k : List β}, PySem.Paired F l k → ∀ (i : Nat) (a : α), l[i]? = some a → ∃ b, k[i]? = some b ∧ F a b
  | _, _, .cons h _, 0, a, e => by simp at e; subst e; exact ⟨_, rfl, h⟩
  | _, _, .cons _ r, i + 1, a, e => by
    simp at e
    simpa using paired_at r i a e
theorem ints_nat {vs : List Value} {ns : List Nat} (h : IntsAre vs (zs ns)) (i : Nat) (v : Value) (e : vs[i]? = some v) : ∃ n t, ns[i]? = some n ∧ v = .int (n : Int) t := by
  obtain ⟨n, t, rfl, e2⟩ := h.at i v e
  rw [List.getElem?_map] at e2
  cases h2 : ns[i]? with
  | none => rw [h2] at e2; cases e2
  | some x =>
    rw [h2] at e2
    simp at e2
    exact ⟨x, t, rfl, by rw [← e2]⟩
end

section
variable {prog : Program} {w : World} {A : Around} {E : Value → Shared → Prop} {s : Shared} {h : Heap} {tk : Nat}
theorem zsum {l : Addr} {items : Array Value} {ns : List Int} {Q : Value → Shared → Prop} (hh : A.handled = none) (hl : h.IsList l items) (hi : IntsAre items.toList ns) (hq : ∀ h' tk' t, Keep h h' → Q (.int ns.sum t) (St s h' tk')) :
    wpAny (model prog w) A (call (.builtin "sum") [.ref l]) Q E (St s h tk) := by
  obtain ⟨xs, rfl⟩ := (show AllInts items from by have := hi.allInts; simpa using this).items
  have hn := hi.numsOf
  rw [nums_intItems] at hn
  refine sum_intListG (s := St s h tk) hh hl fun h' tk' t' hk => ?_
  have := hq h' tk' t' hk
  rw [preSum_eq, List.take_of_length_le (by simp), hn]
  exact this
end

end Mine
end C3_text
section B2_text
open PySem PySem.W PySem.Calls PyProof.Rows
set_option maxRecDepth 100000
namespace Mine

/-- the signs that are left out -/
noncomputable def b1L : List Int := [173, 847, 6150, 6155, 6156, 6157, 8203, 8204, 8205, 8288, 65279] ++ (List.range 16).map fun i => ((65024 + i : Nat) : Int)
noncomputable def dKey : PySem.Expr → PyData
  | .Constant (.int i) _ _ => .int i
  | _ => .none
noncomputable def dVal : PySem.Expr → PyData
  | .Constant (.str x) _ _ => .str x
  | _ => .none
noncomputable def eDict : PySem.Expr → List (PyData × PyData)
  | .Dict ks vs _ => (ks.map fun k => (k.map dKey).getD .none).zip (vs.map dVal)
  | _ => []
/-- the table of the folded signs, as the text writes it -/
noncomputable def b3D : List (PyData × PyData) := eDict (sExpr (stm 14))

structure Good2 (G : Heap) : Prop where
  g : Good G
  s81 : ∀ w : World, G.SetOf (intKind pw w) 81 (fun k => decide (k ∈ b1L)) 27
  d92 : ∀ w : World, IntTab pw w G 92 b3D

theorem Good2.keeps {G G' : Heap} (g : Good2 G) (k : Keep G G') : Good2 G' where
  g := g.g.keeps k
  s81 := fun w => let ⟨o, es, ep, t, h, r⟩ := g.s81 w; ⟨o, es, ep, t, k _ _ h, r⟩
  d92 := fun w => (g.d92 w).keep k

/-- what a sign is folded to -/
noncomputable def foldOf (c : Nat) : Str := match PySem.Spec.lookup (.int c) b3D with
  | some (.str x) => x
  | _ => Txt.lower ⟨#[c]⟩
/-- the table says a text of the sign or nothing -/
noncomputable def foldOk (c : Nat) : Bool := match PySem.Spec.lookup (.int c) b3D with
  | some (.str _) => true
  | none => true
  | _ => false
example : foldOf 223 = "ss" := by decide +kernel

theorem flat_str {v : Value} {x : Str} (h : PyProof.V.Flat v (.str x)) : ∃ t, v = .str x t := by
  have := h noHeap
  cases this with
  | str _ t => exact ⟨t, rfl⟩
theorem flat_none {v : Value} (h : PyProof.V.Flat v .none) : v = .none := by
  have := h noHeap
  cases this
  rfl

section
variable {prog : Program} {w : World} {A : Around} {E : Value → Shared → Prop} {s : Shared} {env : Env}
/-- o.name(): a method of a built-in type, without arguments -/
theorem zmeth0 {o : PySem.Expr} {x : Str} {apos pos : Pos} {T id : String} {Q : Value → Shared → Prop} (plain : PlainAttrs T) (slot : Slot T x id) (ty : typeOf (.builtin id) = pure (.type "method_descriptor"))
    (hq : wpAny (model prog w) A (eval o env) (fun ov s₁ => s₁.TypeIs ov T ∧ (∀ a : Addr, ov = .ref a → ∃ ob, s₁.heap.get? a = some ob ∧ ob.dict = none) ∧ wpAny (model prog w) A (call (.builtin id) [ov]) Q E s₁) E s)
    (hb : attributeBase o x env (eval o env) = eval o env := by rfl)
    (hl : (apos.endLine == pos.line) = true := by rfl) :
    wpAny (model prog w) A (eval (.Call (.Attribute o x apos) [] [] pos) env) Q E s := by
  refine wpAny_Call_method hb rfl hl plain slot ty (wpAny_mono hq (fun ov s₁ h₁ => ⟨h₁.1, h₁.2.1, ?_⟩) fun _ _ x => x)
  exact callWith_builtin rfl (evalArgs_nil3 h₁.2.2)
end

/-- in_table_b1 -/
theorem inb1_call {w : World} {A : Around} {s : Shared} {R : Result → Shared → Prop} {c : Nat} {t : Tok} (hA : Room 900 A) (g2 : Good2 s.heap)
    (h : ∀ h' tk, Keep s.heap h' → R (.ok (.ret (.bool (decide ((c : Int) ∈ b1L))))) (St s h' tk)) :
    codeAny (model pw w) A (.call (.ref 91) ⟨[.str ⟨#[c]⟩ t], []⟩) R s := by
  have g := g2.g
  refine enter (binds := [("code", .str ⟨#[c]⟩ t)]) (by unfold recursionLimit; have := hA.2.1; omega) g.lim g.f91 (fun _ _ _ _ _ => BindsTo.of_eq rfl) (by decide +kernel) (by simp; decide +kernel) rfl rfl rfl fun h₁ cd F => ?_
  have C := Cx.of_fr F
  refine wpAny_mono (E := fun _ _ => False) ?_ (fun _ _ x => x) fun _ _ x => x.elim
  refine wpAny_execs_cons (wpAny_Return_some (wpAny_Compare1 (zcallB (s := s) g C.keep (args_cons (zld (s := s) C (by walk_at "lk") (args_nil (P.ord_of_char ?_)))))))
  refine zglob (s := s) g C.keep ?_
  have hs := (g2.keeps C.keep).s81 w
  exact wpAny_inSet_of (s := St s h₁ _) (knd := intKind pw w) (intKind_is pw w _ _) rfl hs (h _ _ C.keep)

/-- map_table_b3 -/
theorem mapb3_call {w : World} {A : Around} {s : Shared} {R : Result → Shared → Prop} {c : Nat} {t : Tok} (hA : Room 900 A) (g2 : Good2 s.heap) (hc : foldOk c = true)
    (h : ∀ h' tk t', Keep s.heap h' → R (.ok (.ret (.str (foldOf c) t'))) (St s h' tk)) :
    codeAny (model pw w) A (.call (.ref 137) ⟨[.str ⟨#[c]⟩ t], []⟩) R s := by
  have g := g2.g
  refine enter (binds := [("code", .str ⟨#[c]⟩ t)]) (by unfold recursionLimit; have := hA.2.1; omega) g.lim g.f137 (fun _ _ _ _ _ => BindsTo.of_eq rfl) (by decide +kernel) (by simp; decide +kernel) rfl rfl rfl fun h₁ cd F => ?_
  have C := Cx.of_fr F
  refine wpAny_mono (E := fun _ _ => False) ?_ (fun _ _ x => x) fun _ _ x => x.elim
  have hd := (g2.keeps C.keep).d92 w
  have hT : (St s h₁ (s.toks + 1)).TypeIs (.ref 92) "dict" := by
    obtain ⟨_, kvs, hk, _⟩ := hd
    exact hk.typeIs
  refine wpAny_execs_cons (wpAny_Assign_Name (zmeth PySem.F.plainAttrs_dict PySem.F.slot_dict_get PySem.F.type_dict_get (zglob (s := s) g C.keep ⟨hT, ?_, ?_⟩)))
  · intro a e
    cases e
    obtain ⟨_, kvs, ⟨o, es, ep, ho, hcls, r⟩, _⟩ := hd
    exact ⟨o, ho, hcls.2.1⟩
  · refine args_cons (zcallB (s := s) g C.keep (args_cons (zld (s := s) C (by walk_at "lk") (args_nil (P.ord_of_char (args_nil ?_))))))
    refine call_get1_intTab (s := St s h₁ _) hd fun v hv => ?_
    refine zst (s := s) C fun h2 tk2 C => ?_
    cases hlk : PySem.Spec.lookup (.int c) b3D with
    | none =>
      rw [hlk] at hv
      have hv := flat_none hv
      subst hv
      refine wpAny_execs_cons (wpAny_If (wpAny_isTrue_Compare1 (zld (s := s) C (by walk_at "lk") (Constant_none (wpAny_isNot_self rfl (wpAny_truthy_bool (ite_ff (wpAny_execs_nil ?_))))))))
      refine wpAny_execs_cons (wpAny_Return_some (zmeth0 PySem.F.plainAttrs_str PySem.F.slot_str_lower PySem.F.type_str_lower (zld (s := s) C (by walk_at "lk") ⟨typeIs_str _ _ _, (fun a e => nomatch e), ?_⟩)))
      refine PyProof.Rows.SCL.lower (s := St s h2 tk2) (by show 1 ≤ _; decide) fun _ => ?_
      have e : foldOf c = Txt.lower ⟨#[c]⟩ := by unfold foldOf; rw [hlk]
      have := h h2 (tk2 + 1) tk2 C.keep
      rw [e] at this
      exact this
    | some d =>
      have hok := hc
      unfold foldOk at hok
      rw [hlk] at hok hv
      cases d with
      | str x =>
        obtain ⟨t', rfl⟩ := flat_str hv
        refine wpAny_execs_cons (wpAny_If (wpAny_isTrue_Compare1 (zld (s := s) C (by walk_at "lk") (Constant_none (wpAny_isNot_other rfl (by simp) (wpAny_truthy_bool (ite_tt ?_)))))))
        refine wpAny_execs_cons (wpAny_Return_some (zld (s := s) C (by walk_at "lk") ?_))
        have e : foldOf c = x := by unfold foldOf; rw [hlk]
        have := h h2 tk2 t' C.keep
        rw [e] at this
        exact this
      | _ => simp at hok
end Mine
end B2_text
section P0_text
open PySem PySem.W PySem.Calls PyProof.Rows
set_option maxRecDepth 100000
namespace Mine

noncomputable def fistL : List Nat := [102, 105, 115, 116]
noncomputable def capsL : List Nat := [65, 119808, 119860, 119912, 120016, 120172, 120224, 120276, 120328, 120380, 120432]
noncomputable def foldedL : List (List Nat × List Nat) := [([64256], [102, 102]), ([64257], [102, 105]), ([223], [115, 115]), ([64261], [115, 116]), ([64262], [115, 116]), ([383], [115])]
noncomputable def endsL : List (List Nat) := [[10], [13], [13, 10]]
noncomputable def b1H : List Nat := [173, 847, 6150, 6155, 6156, 6157, 8203, 8204, 8205, 8288, 65279]
noncomputable def b1N : List Nat := b1H ++ (List.range 16).map fun i => 65024 + i
/-- a piece: as it is spelled, and what it means -/
noncomputable def pieceOf (n : Nat) : List Nat × List Nat :=
  if n % 6 = 0 then ([46], [46])
  else if n % 6 = 1 then (endsL.getD (n / 6 % 3) [], endsL.getD (n / 6 % 3) [])
  else if n % 6 = 2 then ([fistL.getD (n / 6 % 4) 0], [fistL.getD (n / 6 % 4) 0])
  else if n % 6 = 3 then ([capsL.getD (n / 6 / 4 % 11) 0 + fistL.getD (n / 6 % 4) 0 - 97], [fistL.getD (n / 6 % 4) 0])
  else if n % 6 = 4 then foldedL.getD (n / 6 % 6) ([], [])
  else ([b1N.getD (n / 6 % 27) 0], [])
noncomputable abbrev sOf (l : List Nat) : Str := ⟨l.toArray⟩
noncomputable abbrev tupOf (a b : List Nat) (t u : Tok) : Obj := { cls := .type "tuple", data := .seq #[.str (sOf a) t, .str (sOf b) u] 0 }

theorem swL {es : List PySem.Expr} {pos : Pos} {t : Option PySem.Expr} {l : Nat} {env : Env} : swapsWith (.List es pos) t l env = pure false := rfl
noncomputable def cint : PySem.Expr → Option Int
  | .Constant (.int i) _ _ => some i
  | _ => none
noncomputable def constI : List PySem.Expr → Option (List Int)
  | [] => some []
  | e :: r => match cint e, constI r with
    | some i, some l => some (i :: l)
    | _, _ => none
theorem cint_some {e : PySem.Expr} {i : Int} (h : cint e = some i) : ∃ k p, e = .Constant (.int i) k p := by
  cases e with
  | Constant c k p => cases c with
    | int j =>
      have h : some j = some i := h
      cases h
      exact ⟨_, _, rfl⟩
    | _ => exact absurd (show (none : Option Int) = some i from h) (by simp)
  | _ => exact absurd (show (none : Option Int) = some i from h) (by simp)
noncomputable def cstr : PySem.Expr → Option Str
  | .Constant (.str x) _ _ => some x
  | _ => none
noncomputable def tup2 : PySem.Expr → Option (PySem.Expr × PySem.Expr)
  | .Tuple (a :: b :: []) _ _ => some (a, b)
  | _ => none
noncomputable def constT : List PySem.Expr → Option (List (Str × Str))
  | [] => some []
  | e :: r => match tup2 e with
    | some (a, b) => match cstr a, cstr b, constT r with
      | some x, some y, some l => some ((x, y) :: l)
      | _, _, _ => none
    | none => none
theorem cstr_some {e : PySem.Expr} {x : Str} (h : cstr e = some x) : ∃ k p, e = .Constant (.str x) k p := by
  cases e with
  | Constant c k p => cases c with
    | str j =>
      have h : some j = some x := h
      cases h
      exact ⟨_, _, rfl⟩
    | _ => exact absurd (show (none : Option Str) = some x from h) (by simp)
  | _ => exact absurd (show (none : Option Str) = some x from h) (by simp)
theorem tup2_some {e : PySem.Expr} {q : PySem.Expr × PySem.Expr} (h : tup2 e = some q) : ∃ k p, e = .Tuple [q.1, q.2] k p := by
  cases e with
  | Tuple es k p =>
    cases es with
    | nil => exact absurd (show (none : Option (PySem.Expr × PySem.Expr)) = some q from h) (by simp)
    | cons a es => cases es with
      | nil => exact absurd (show (none : Option (PySem.Expr × PySem.Expr)) = some q from h) (by simp)
      | cons b es => cases es with
        | nil =>
          have h : some (a, b) = some q := h
          cases h
          exact ⟨_, _, rfl⟩
        | cons c es => exact absurd (show (none : Option (PySem.Expr × PySem.Expr)) = some q from h) (by simp)
  | _ => exact absurd (show (none : Option (PySem.Expr × PySem.Expr)) = some q from h) (by simp)
section
variable {w : World} {M : Model} {A : Around} {E : Value → Shared → Prop} {s : Shared} {env : Env} {G h : Heap} {tk : Nat} {L : Addr} {m : Str → Option Value} {news : List (Addr × Obj)}
theorem zargs_ints {pos : Pos} : ∀ (es : List PySem.Expr) (ns : List Int) (tk : Nat) (Q : List Value → Shared → Prop), constI es = some ns → (∀ vs tk', IntsAre vs ns → Q vs (St s h tk')) → wpAny M A (spliced (backTo pos (starEach es env))) Q E (St s h tk)
  | [], ns, tk, Q, e, hq => by
    cases e
    exact args_nil (hq [] tk .nil)
  | x :: r, ns, tk, Q, e, hq => by
    unfold constI at e
    cases h1 : cint x with
    | none => simp [h1] at e
    | some i =>
      cases hr : constI r with
      | none => simp [h1, hr] at e
      | some ns' =>
        simp [h1, hr] at e
        subst e
        obtain ⟨k, p, rfl⟩ := cint_some h1
        exact args_cons (zint fun t tk' => zargs_ints r ns' tk' _ hr fun vs tk'' hi => hq _ tk'' (.cons _ _ hi)) (by rfl)
theorem zstr {x : Str} {k : Nat} {pos : Pos} {Q : Value → Shared → Prop} (hq : ∀ t tk', Q (.str x t) (St s h tk')) : wpAny M A (eval (.Constant (.str x) k pos) env) Q E (St s h tk) := by
  exact wpAny_Constant_str (s := St s h tk) (hq _ _)
theorem zstrE {x y : Str} {k : Nat} {pos : Pos} {Q : Value → Shared → Prop} (e : x = y) (hq : ∀ t tk', Q (.str y t) (St s h tk')) : wpAny M A (eval (.Constant (.str x) k pos) env) Q E (St s h tk) := by
  subst e; exact zstr hq
/-- a tuple of two texts is laid -/
theorem ztupSS {e1 e2 : PySem.Expr} {k : Nat} {pos : Pos} {x y : Str} {Q : Value → Shared → Prop} (C : Cx G L h m news)
    (h1 : ∀ (Q : Value → Shared → Prop) tk, (∀ t tk', Q (.str x t) (St s h tk')) → wpAny M A (eval e1 env) Q E (St s h tk))
    (h2 : ∀ (Q : Value → Shared → Prop) tk, (∀ t tk', Q (.str y t) (St s h tk')) → wpAny M A (eval e2 env) Q E (St s h tk))
    (hq : ∀ T h' tk' t u, Cx G L h' m ((T, { cls := .type "tuple", data := .seq #[.str x t, .str y u] 0 }) :: news) → Q (.ref T) (St s h' tk'))
    (hs1 : starEach (e1 :: [e2]) env = (false, eval e1 env) :: starEach [e2] env := by rfl) (hs2 : starEach (e2 :: []) env = (false, eval e2 env) :: starEach [] env := by rfl) :
    wpAny M A (eval (.Tuple [e1, e2] k pos) env) Q E (St s h tk) :=
  Tuple_ (args_cons (h1 _ _ fun t tk1 => args_cons (h2 _ _ fun u tk2 => args_nil (znewTuple (s := s) C fun T h' tk' C => hq T h' tk' t u C)) hs2) hs1)
/-- the same, and the heap only grows -/
theorem ztupSS2 {e1 e2 : PySem.Expr} {k : Nat} {pos : Pos} {x y : Str} {B : Heap} {Q : Value → Shared → Prop} (C : Keep B h)
    (h1 : ∀ (Q : Value → Shared → Prop) tk, (∀ t tk', Q (.str x t) (St s h tk')) → wpAny M A (eval e1 env) Q E (St s h tk))
    (h2 : ∀ (Q : Value → Shared → Prop) tk, (∀ t tk', Q (.str y t) (St s h tk')) → wpAny M A (eval e2 env) Q E (St s h tk))
    (hq : ∀ T h' tk' t u, Keep h h' → B.get? T = none → h'.get? T = some { cls := .type "tuple", data := .seq #[.str x t, .str y u] 0 } → Q (.ref T) (St s h' tk'))
    (hs1 : starEach (e1 :: [e2]) env = (false, eval e1 env) :: starEach [e2] env := by rfl) (hs2 : starEach (e2 :: []) env = (false, eval e2 env) :: starEach [] env := by rfl) :
    wpAny M A (eval (.Tuple [e1, e2] k pos) env) Q E (St s h tk) := by
  refine Tuple_ (args_cons (h1 _ _ fun t tk1 => args_cons (h2 _ _ fun u tk2 => args_nil ?_) hs2) hs1)
  refine wpAny_newTuple (hq h.objs.size _ _ t u ?_ ?_ ?_) (by show 2 ≤ _; size_fits)
  · exact fun b o e => Heap.get?_push_of_some _ e
  · cases hg : B.get? h.objs.size with
    | none => rfl
    | some o => exact absurd (C _ _ hg) (by rw [get_top]; simp)
  · exact Heap.get?_push_size _ rfl
/-- laid tuples of two texts -/
noncomputable def TupsAre (G h : Heap) : List Value → List (Str × Str) → Prop
  | [], [] => True
  | v :: vs, p :: ps => (∃ T t u, v = .ref T ∧ G.get? T = none ∧ h.get? T = some { cls := .type "tuple", data := .seq #[.str p.1 t, .str p.2 u] 0 }) ∧ TupsAre G h vs ps
  | _, _ => False
theorem TupsAre.length {G h : Heap} : ∀ {vs : List Value} {ps : List (Str × Str)}, TupsAre G h vs ps → vs.length = ps.length
  | [], [], _ => rfl
  | _ :: _, _ :: _, x => by simp [TupsAre.length x.2]
theorem TupsAre.at {G h : Heap} : ∀ {vs : List Value} {ps : List (Str × Str)}, TupsAre G h vs ps → ∀ (i : Nat) (p : Str × Str), ps[i]? = some p →
    ∃ T t u, vs[i]? = some (.ref T) ∧ G.get? T = none ∧ h.get? T = some { cls := .type "tuple", data := .seq #[.str p.1 t, .str p.2 u] 0 }
  | _ :: _, _ :: _, x, 0, p, e => by
    obtain ⟨⟨T, t, u, rfl, a, b⟩, _⟩ := x
    simp at e
    subst e
    exact ⟨T, t, u, rfl, a, b⟩
  | _ :: _, _ :: _, x, i + 1, p, e => by
    simp at e
    obtain ⟨T, t, u, q⟩ := TupsAre.at x.2 i p e
    exact ⟨T, t, u, by simpa using q⟩
  | [], [], _, _, _, e => by simp at e
theorem TupsAre.keeps {G h h' : Heap} (k : Keep h h') : ∀ {vs : List Value} {ps : List (Str × Str)}, TupsAre G h vs ps → TupsAre G h' vs ps
  | [], [], _ => trivial
  | _ :: _, _ :: _, ⟨⟨T, t, u, a, b, c⟩, r⟩ => ⟨⟨T, t, u, a, b, k _ _ c⟩, TupsAre.keeps k r⟩
theorem zargs_tups {pos : Pos} {B : Heap} : ∀ (es : List PySem.Expr) (ps : List (Str × Str)) (h : Heap) (tk : Nat) (Q : List Value → Shared → Prop), Keep B h → constT es = some ps →
    (∀ vs h' tk', Keep h h' → TupsAre B h' vs ps → Q vs (St s h' tk')) → wpAny M A (spliced (backTo pos (starEach es env))) Q E (St s h tk)
  | [], ns, h, tk, Q, C, e, hq => by
    cases e
    exact args_nil (hq [] h tk Keep.rfl' trivial)
  | x :: r, ns, h, tk, Q, C, e, hq => by
    unfold constT at e
    cases h1 : tup2 x with
    | none => rw [h1] at e; cases e
    | some q =>
      rw [h1] at e
      cases h2 : cstr q.1 with
      | none => simp [h2] at e
      | some a =>
        cases h3 : cstr q.2 with
        | none => simp [h2, h3] at e
        | some b =>
          cases hr : constT r with
          | none => simp [h2, h3, hr] at e
          | some ns' =>
            simp [h2, h3, hr] at e
            subst e
            obtain ⟨k3, p3, rfl⟩ := tup2_some h1
            obtain ⟨k1, p1, e1⟩ := cstr_some h2
            obtain ⟨k2, p2, e2⟩ := cstr_some h3
            rw [e1, e2]
            refine args_cons (ztupSS2 (s := s) (x := a) (y := b) (B := B) C (fun Q tk hq => zstr hq) (fun Q tk hq => zstr hq) fun T h1 tk1 t u k1 g1 t1 => ?_) (by rfl)
            exact zargs_tups r ns' h1 tk1 _ (C.tr k1) hr fun vs h2 tk2 k2 a => hq _ h2 tk2 (k1.tr k2) ⟨⟨T, t, u, rfl, g1, k2 _ _ t1⟩, a⟩
theorem zListT {es : List PySem.Expr} {pos : Pos} {ps : List (Str × Str)} {Q : Value → Shared → Prop} (hc : constT es = some ps)
    (hq : ∀ vs h' tk', Keep h h' → TupsAre h h' vs ps → wpAny M A (newList vs) Q E (St s h' tk')) : wpAny M A (eval (.List es pos) env) Q E (St s h tk) :=
  List_ (zargs_tups es ps h tk _ Keep.rfl' hc hq)
theorem zListI {es : List PySem.Expr} {pos : Pos} {ns : List Int} {Q : Value → Shared → Prop} (hc : constI es = some ns)
    (hq : ∀ vs tk', IntsAre vs ns → wpAny M A (newList vs) Q E (St s h tk')) : wpAny M A (eval (.List es pos) env) Q E (St s h tk) :=
  List_ (zargs_ints es ns tk _ hc hq)
end
section
variable {prog : Program} {w : World} {A : Around} {E : Value → Shared → Prop} {s : Shared} {h : Heap} {tk : Nat}
/-- x[i] of a text -/
theorem zitemS {value slice : PySem.Expr} {x : Str} {t : Tok} {k : Int} {u : Tok} {c : Nat} {Q : Value → Shared → Prop} (i : Nat) (hx : k = i) (hi : x.cps[i]? = some c) (hi2 : i < 2 ^ 60) (hq : ∀ t' tk', Q (.str ⟨#[c]⟩ t') (St s h tk'))
    (hs : subscripted slice false (.str x t) (.int k u) = operate [.int k u, .str x t] (getItem (.str x t) (.int k u)) := by rfl) :
    wpAny (model prog w) A (subscriptTail value slice (.str x t) (.int k u)) Q E (St s h tk) := by
  subst hx
  have hlt : i < x.length := (Array.getElem?_eq_some_iff.mp hi).1
  refine tail_any (s := St s h tk) (typeIs_str _ _ _) PyProof.Rows.slot_str_getitem.lookup (PyProof.Rows.getItem_str (s := St s h tk) (c := c) ?_ ?_ (hq _ _)) hs
  · simp; omega
  · unfold seqIndex?
    have h0 : ¬ ((i : Int) < 0) := by omega
    simp only [h0, if_false]
    have h1 : (decide (0 ≤ (i : Int)) && decide ((i : Int) < (x.length : Int))) = true := by simp; omega
    rw [if_pos h1]
    simpa using hi
end
end Mine
end P0_text
section D4_text
open PySem PySem.W PySem.Calls PyProof.Rows
set_option maxRecDepth 100000
namespace Mine.Di
noncomputable def ckv : List (Option PySem.Expr) → List PySem.Expr → Option (List (Int × Str))
  | [], [] => some []
  | k :: ks, v :: vs => match k.bind cint, cstr v, ckv ks vs with
    | some i, some x, some ds => some ((i, x) :: ds)
    | _, _, _ => none
  | _, _ => none
theorem ckv_spec {prog : Program} {w : World} {env : Env} {pos : Pos} : ∀ (ks : List (Option PySem.Expr)) (vs : List PySem.Expr) (ds : List (Int × Str)), ckv ks vs = some ds →
    GivesAll prog w (pairTrees ks vs env pos) ds ∧ ks.all (·.isSome) = true ∧ ks.length = vs.length ∧ (ks.map fun k => (k.map dKey).getD .none).zip (vs.map dVal) = ds.map fun d => (PyData.int d.1, PyData.str d.2)
  | [], [], ds, h => by cases h; exact ⟨.nil, rfl, rfl, rfl⟩
  | [], _ :: _, _, h => by cases h
  | _ :: _, [], _, h => by cases h
  | k :: ks, v :: vs, ds, h => by
    unfold ckv at h
    cases hk : k.bind cint with
    | none => simp [hk] at h
    | some i =>
      cases hv : cstr v with
      | none => simp [hk, hv] at h
      | some x =>
        cases hr : ckv ks vs with
        | none => simp [hk, hv, hr] at h
        | some ds' =>
          simp only [hk, hv, hr, Option.some.injEq] at h
          subst h
          obtain ⟨k0, rfl, hk⟩ := Option.bind_eq_some_iff.mp hk
          obtain ⟨k1, p, rfl⟩ := cint_some hk
          obtain ⟨k', p', rfl⟩ := cstr_some hv
          obtain ⟨a, b, c, d⟩ := ckv_spec ks vs ds' hr
          refine ⟨?_, by simpa using b, by simpa using c, ?_⟩
          · refine GivesAll.cons (p := (eval (.Constant (.int i) k1 p) env, (do let x ← eval (.Constant (.str x) k' p') env; standAt pos; pure x))) (d := (i, x)) ⟨fun A E s Q hq => ?_, fun A E s Q hq => ?_⟩ a
            · exact wpAny_Constant_int (k := k1) (pos := p) (env := env) hq
            · exact wpAny_bind (wpAny_Constant_str (k := k') (pos := p') (env := env) (wpAny_bind (wpAny_standAt (wpAny_pure hq))))
          · show (_, _) :: _ = (_, _) :: _
            rw [← d]
            rfl

noncomputable def sDict : PySem.Expr → List (Option PySem.Expr) × List PySem.Expr × Pos
  | .Dict ks vs p => (ks, vs, p)
  | _ => ([], [], default)
noncomputable def dct : List (Option PySem.Expr) × List PySem.Expr × Pos := sDict (sExpr (stm 14))
noncomputable def b3ds : List (Int × Str) := (ckv dct.1 dct.2.1).getD []
theorem b3ds_eq : ckv dct.1 dct.2.1 = some b3ds := by
  have : (ckv dct.1 dct.2.1).isSome = true := by kernel_rfl
  unfold b3ds
  obtain ⟨l, e⟩ := Option.isSome_iff_exists.mp this
  rw [e]
  rfl
theorem b3ds_len : b3ds.length = 650 := by kernel_rfl
/-- the keys rise -/
noncomputable def rises : List Int → Bool
  | a :: b :: l => decide (a < b) && rises (b :: l)
  | _ => true
theorem rises_lt : ∀ {a : Int} {l : List Int}, rises (a :: l) = true → ∀ x ∈ l, a < x
  | a, [], _, x, hx => by cases hx
  | a, b :: l, h, x, hx => by
    unfold rises at h
    obtain ⟨h1, h2⟩ := Bool.and_eq_true_iff.mp h
    have h1 := of_decide_eq_true h1
    rcases List.mem_cons.mp hx with rfl | hx
    · exact h1
    · exact Int.lt_trans h1 (rises_lt h2 x hx)
theorem rises_tail {a : Int} {l : List Int} (h : rises (a :: l) = true) : rises l = true := by
  cases l with
  | nil => rfl
  | cons b l =>
    unfold rises at h
    exact (Bool.and_eq_true_iff.mp h).2
theorem rises_nodup : ∀ {l : List Int}, rises l = true → l.Nodup
  | [], _ => List.nodup_nil
  | a :: l, h => List.nodup_cons.mpr ⟨fun hm => absurd (rises_lt h a hm) (Int.lt_irrefl _), rises_nodup (rises_tail h)⟩
theorem b3ds_nodup : (b3ds.map (·.1)).Nodup := rises_nodup (by kernel_rfl)
theorem b3D_eq (w : World) : b3D = b3ds.map fun d => (PyData.int d.1, PyData.str d.2) := by
  have h := (ckv_spec (prog := pw) (w := w) (env := default) (pos := default) dct.1 dct.2.1 b3ds b3ds_eq).2.2.2
  rw [← h]
  rfl
end Mine.Di
end D4_text
section E7_text
open PySem PySem.W PySem.Calls PyProof.Rows
set_option maxRecDepth 100000
namespace Mine.Ev

theorem behind_eq : behindTheImports pw = [stm 1, stm 2, stm 3, stm 4, stm 5, stm 6, stm 7, stm 8, stm 9, stm 10, stm 11] ++ ([stm 12] ++ ([stm 13] ++ ([stm 14] ++ [stm 15, stm 16, stm 17, stm 18, stm 19, stm 20, stm 21, stm 22, stm 23]))) := by kernel_rfl

theorem execs_cons_bind (st : Stmt) (rest : List Stmt) (env : Env) : execs (st :: rest) env = (exec st env).bind fun f => match f with | .next => execs rest env | f => .pure f := rfl
theorem wp_execs_app {M : Model} {Γ : Ctx} {env : Env} {rest : List Stmt} {Q : Flow → Pos → Shared → Prop} {E : Value → Pos → Shared → Prop} : ∀ (l : List Stmt) (p : Pos) (s : Shared),
    Sem.wp M Γ (execs l env) (fun fl p s => match fl with | .next => Sem.wp M Γ (execs rest env) Q E p s | f => Q f p s) E p s → Sem.wp M Γ (execs (l ++ rest) env) Q E p s
  | [], p, s, h => h
  | st :: l, p, s, h => by
    rw [List.cons_append, execs_cons_bind, ← Sem.bind_eq, Sem.wp_bind']
    rw [execs_cons_bind, ← Sem.bind_eq, Sem.wp_bind'] at h
    refine Sem.wp_mono M Γ _ (fun f p s h => ?_) (fun _ _ _ x => x) p s h
    cases f with
    | next => exact wp_execs_app l p s h
    | _ => exact h

theorem of_maps {l : List (Nat × Obj)} {x : Nat → Obj} : l.map (fun p => x p.1) = l.map (·.2) → ∀ p ∈ l, x p.1 = p.2 := by
  induction l with
  | nil => intro _ p hp; cases hp
  | cons a l ih =>
    intro h p hp
    simp only [List.map_cons, List.cons.injEq] at h
    rcases List.mem_cons.mp hp with rfl | hp
    · exact h.1
    · exact ih h.2 p hp
/-- what stands: the list's objects, and what stood before the top but the globals -/
structure Inv (l : List (Nat × Obj)) (y x : Nat → Obj) : Prop where
  k : ∀ p ∈ l, x p.1 = p.2
  old : ∀ i, i < 28 → i ≠ 3 → x i = y i
theorem keys_out {l : List (Nat × Obj)} {x : Nat → Obj} {i : Nat} (h : l.all (fun p => !Nat.beq p.1 i) = true) : ov l x i = x i := by
  refine ov_out fun p hp e => ?_
  have := List.all_eq_true.mp h p hp
  rw [e] at this
  simp at this

noncomputable def idx28 : List Nat := [0, 1, 2] ++ (List.range 24).map (· + 4)
theorem idx_mem : ∀ i, i < 28 → i ≠ 3 → i ∈ idx28 := by decide
theorem of_maps2 {α : Type} {l : List Nat} {f g : Nat → α} : l.map f = l.map g → ∀ i ∈ l, f i = g i := by
  induction l with
  | nil => intro _ i hi; cases hi
  | cons a l ih =>
    intro h i hi
    simp only [List.map_cons, List.cons.injEq] at h
    rcases List.mem_cons.mp hi with rfl | hi
    · exact h.1
    · exact ih h.2 i hi
theorem Inv.sub {c l : List (Nat × Obj)} {y x : Nat → Obj} (I : Inv c y x) (h : ∀ x, l.map (fun p => ov c x p.1) = l.map (·.2)) : ov l x = x := by
  have e := ov_same I.k
  have h := h x
  rw [e] at h
  exact ov_same (of_maps h)
theorem Inv.next {c l' c' : List (Nat × Obj)} {y x : Nat → Obj} (I : Inv c y x) (h1 : ∀ x, c'.map (fun p => ov l' (ov c x) p.1) = c'.map (·.2)) (h2 : ∀ x, idx28.map (fun i => ov l' (ov c x) i) = idx28.map (fun i => ov c x i)) : Inv c' y (ov l' x) := by
  have e := ov_same I.k
  have h1 := h1 x
  have h2 := h2 x
  rw [e] at h1 h2
  exact ⟨of_maps h1, fun i hi hn => (of_maps2 h2 i (idx_mem i hi hn)).trans (I.old i hi hn)⟩

section
variable {w : World} {y x : Nat → Obj} {life : Life} {drawn : Drawn} {os : OsState} {p : Pos} {Q : Flow → Pos → Shared → Prop} {E : Value → Pos → Shared → Prop}
theorem segA (I : Inv (la w.params) y x) (hQ : ∀ x' p', Inv (cA w.params) y x' → Q .next p' (sp x' 74 life drawn 393 os).abs) :
    Sem.wp (model pw w) Gb (execs [stm 1, stm 2, stm 3, stm 4, stm 5, stm 6, stm 7, stm 8, stm 9, stm 10, stm 11] env0) Q E p (sp x 32 life drawn 282 os).abs := by
  have h := rawA w x life drawn os p
  rw [ov_same I.k] at h
  rw [exQ_eq]
  exact evQ h (hQ _ _ (I.next (fun x => by kernel_rfl) fun x => by kernel_rfl))
theorem segB (I : Inv (cA w.params) y x) (hQ : ∀ x' p', Inv (cB w.params) y x' → Q .next p' (sp x' 85 life drawn 453 os).abs) :
    Sem.wp (model pw w) Gb (execs [stm 12] env0) Q E p (sp x 74 life drawn 393 os).abs := by
  have h := rawB w x life drawn os p
  rw [I.sub (l := lB0 w.params) fun x => by kernel_rfl] at h
  rw [exQ_eq]
  exact evQ h (hQ _ _ (I.next (fun x => by kernel_rfl) fun x => by kernel_rfl))
theorem segC (I : Inv (cB w.params) y x) (hQ : ∀ x' p', Inv (cC w.params) y x' → Q .next p' (sp x' 92 life drawn 460 os).abs) :
    Sem.wp (model pw w) Gb (execs [stm 13] env0) Q E p (sp x 85 life drawn 453 os).abs := by
  have h := rawC w x life drawn os p
  rw [I.sub (l := lC0 w.params) fun x => by kernel_rfl] at h
  rw [exQ_eq]
  exact evQ h (hQ _ _ (I.next (fun x => by kernel_rfl) fun x => by kernel_rfl))
theorem segF (I : Inv (cD w.params) y x) (hQ : ∀ p', Inv (cF w.params) y (ov (lF w.params) x) → Q .next p' (sp (ov (lF w.params) x) 183 life drawn 2488 os).abs) :
    Sem.wp (model pw w) Gb (execs [stm 15, stm 16, stm 17, stm 18, stm 19, stm 20, stm 21, stm 22, stm 23] env0) Q E p (sp x 131 life drawn 2411 os).abs := by
  have h := rawF w x life drawn os p
  rw [I.sub (l := lD w.params) fun x => by kernel_rfl] at h
  rw [exQ_eq]
  exact evQ h (hQ _ (I.next (fun x => by kernel_rfl) fun x => by kernel_rfl))
end
end Mine.Ev
end E7_text
section E8_text
open PySem PySem.W PySem.Calls PyProof.Rows
set_option maxRecDepth 100000
namespace Mine.Ev
open Mine.Di

theorem hp_of {h : Heap} {n : Nat} (hn : h.objs.size = n) (h5 : n ≤ 500) : hp (fun i => (h.objs[i]?).getD default) n h.life = h := by
  have : (hp (fun i => (h.objs[i]?).getD default) n h.life).objs = h.objs := by
    apply Array.ext_getElem?
    intro i
    rw [absHeap_at]
    by_cases hi : i < n
    · rw [if_pos hi, tr_get _ hi h5]
      have : i < h.objs.size := by omega
      rw [Array.getElem?_eq_getElem this]
      rfl
    · rw [if_neg hi, Array.getElem?_eq_none (by omega)]
  show Heap.mk _ _ = _
  obtain ⟨o, l⟩ := h
  show Heap.mk _ _ = Heap.mk _ _
  exact congrArg (Heap.mk · l) this
theorem objs_of_get {h : Heap} {i : Nat} {o : Obj} (e : h.get? i = some o) : (h.objs[i]?).getD default = o := by
  unfold Heap.get? at e
  cases hh : h.objs[i]? with
  | none => rw [hh] at e; cases e
  | some o' =>
    rw [hh] at e
    obtain ⟨c, d, dt, sl⟩ := o'
    cases dt <;> first | (cases e; rfl) | cases e

noncomputable def tgPos : Stmt → Pos
  | .Assign [.Name _ p] _ _ => p
  | _ => default
noncomputable def stPos : Stmt → Pos
  | .Assign _ _ p => p
  | _ => default
theorem stm14_eq : stm 14 = .Assign [.Name "b3_exceptions" (tgPos (stm 14))] (.Dict dct.1 dct.2.1 dct.2.2) (stPos (stm 14)) := by kernel_rfl

noncomputable abbrev A0 : Around := { handled := none, depth := 2000, frames := none, guards := none, units := 1000 }
theorem gb_in : Gb.In A0 := by
  refine ⟨rfl, ?_, ?_, ?_, ?_⟩
  rotate_left
  · intro l hl
    cases hl
  · intro l hl
    cases hl
  rotate_left
  · show frameCount [(Code.builtin "claim.caller" {}, _)] + (Code.body _ env0).weight ≤ 2000
    decide +kernel
  · show (Code.body _ env0).cUnits + unitsOf [(Code.builtin "claim.caller" {}, _)] ≤ 1000
    decide +kernel
theorem dict_any {w : World} {A : Around} {env : Env} {ks : List (Option PySem.Expr)} {vs : List PySem.Expr} {pos : Pos} {ds : List (Int × Str)} (hc : ckv ks vs = some ds) (hne : ds ≠ []) (hn : (ds.map (·.1)).Nodup) (hl : ds.length ≤ 10000) {s : Shared} {Q : Value → Shared → Prop} {E : Value → Shared → Prop} (hS : sysModules < s.heap.objs.size)
    (hQ : ∀ h' kvs, KV kvs ds → h'.DictOf (intKind pw w) s.heap.objs.size kvs → (∀ b o, s.heap.get? b = some o → h'.get? b = some o) → h'.objs.size = s.heap.objs.size + (ds.length + 16) / 17 → Q (.ref s.heap.objs.size) { s with heap := h', toks := s.toks + 3 * ds.length }) :
    wpAny (model pw w) A (eval (.Dict ks vs pos) env) Q E s := by
  obtain ⟨a, b, c, _⟩ := ckv_spec (prog := pw) (w := w) (env := env) (pos := pos) ks vs ds hc
  rw [arm_eval_Dict, zip_pairTrees _ _ _ _ b c]
  exact wpAny_bind (wpAny_standAt (wp_display a hne hn hl hS hQ))
theorem dict14 {w : World} {ks : List (Option PySem.Expr)} {vs : List PySem.Expr} {pos : Pos} (hc : ckv ks vs = some b3ds) {s : Shared} {Q : Value → Shared → Prop} {E : Value → Shared → Prop} (hS : sysModules < s.heap.objs.size)
    (hQ : ∀ h' kvs, KV kvs b3ds → h'.DictOf (intKind pw w) s.heap.objs.size kvs → (∀ b o, s.heap.get? b = some o → h'.get? b = some o) → h'.objs.size = s.heap.objs.size + 39 → Q (.ref s.heap.objs.size) { s with heap := h', toks := s.toks + 1950 }) :
    wpAny (model pw w) A0 (eval (.Dict ks vs pos) env0) Q E s := by
  refine dict_any hc ?_ b3ds_nodup ?_ hS fun h' kvs a b c d => ?_
  · intro e
    have := b3ds_len
    rw [e] at this
    cases this
  · rw [b3ds_len]
    decide
  · rw [b3ds_len] at d ⊢
    exact hQ h' kvs a b c d
/-- what the display has laid, behind the statement -/
structure Tab92 (prog : Program) (w : World) (h : Heap) : Prop where
  tab : ∃ kvs, KV kvs b3ds ∧ h.DictOf (intKind prog w) 92 kvs

theorem segD_any {w : World} {ks : List (Option PySem.Expr)} {vs : List PySem.Expr} {pos p1 p3 : Pos} (hc : ckv ks vs = some b3ds) {y x : Nat → Obj} {life : Life} {drawn : Drawn} {os : OsState} {p : Pos} {Q : Flow → Pos → Shared → Prop} {E : Value → Pos → Shared → Prop} (I : Inv (cC w.params) y x) (hy : ∀ i, i < 28 → alive (y i) = some (y i))
    (hQ : ∀ z life' p', Inv (cD w.params) y z → Tab92 pw w (hp z 131 life') → Q .next p' (sp z 131 life' drawn 2411 os).abs) :
    Sem.wp (model pw w) Gb (execs [.Assign [.Name "b3_exceptions" p1] (.Dict ks vs pos) p3] env0) Q E p (sp x 92 life drawn 460 os).abs := by
  have hal : ∀ i, i < 92 → alive (x i) = some (x i) := by
    have e := ov_same I.k
    intro i hi
    by_cases h3 : i = 3
    · subst h3
      have h := I.k (3, g3C w.params) (List.mem_of_getElem? (i := 11) (by kernel_rfl))
      rw [h]; rfl
    · by_cases h28 : i < 28
      · rw [I.old i h28 h3]; exact hy i h28
      · have key : ∀ x, ((List.range 64).map (· + 28)).map (fun i => alive (ov (cC w.params) x i)) = ((List.range 64).map (· + 28)).map (fun i => some (ov (cC w.params) x i)) := fun x => by kernel_rfl
        have key := key x
        rw [e] at key
        exact of_maps2 key i (List.mem_map.mpr ⟨i - 28, List.mem_range.mpr (by omega), by omega⟩)
  rw [execs_cons_bind, ← Sem.bind_eq, Sem.wp_bind', exec_Assign_Name _ _ _ _ _ (by rfl)]
  simp only [Sem.wp_bind', Sem.wp_cmd_standAt, Sem.wp_bindName, Sem.wp_pure']
  have hs : (sp x 92 life drawn 460 os).abs.heap.objs.size = 92 := absHeap_size _ _ _
  have hev := dict14 (w := w) (pos := pos) hc (s := (sp x 92 life drawn 460 os).abs) (Q := fun v s' => v = .ref 92 ∧ ∃ h', s' = { (sp x 92 life drawn 460 os).abs with heap := h', toks := 2410 } ∧ Tab92 pw w h' ∧ (∀ b o, (hp x 92 life).get? b = some o → h'.get? b = some o) ∧ h'.objs.size = 131) (E := fun _ _ => False) (by rw [hs]; decide) fun h' kvs hkv hd hk hz => by
    rw [hs] at hd hz ⊢
    exact ⟨rfl, h', rfl, ⟨kvs, hkv, hd⟩, hk, hz⟩
  refine Sem.wp_mono _ _ _ ?_ (fun _ _ _ x => x.elim) _ _ (hev Gb _ gb_in)
  rintro v p' s' ⟨rfl, h', rfl, ht, hk, hz⟩
  have e1 : ({ (sp x 92 life drawn 460 os).abs with heap := h', toks := 2410 } : Shared) = (sp (fun i => (h'.objs[i]?).getD default) 131 h'.life drawn 2410 os).abs := by
    show Shared.mk h' _ _ _ _ = Shared.mk (hp (fun i => (h'.objs[i]?).getD default) 131 h'.life) _ _ _ _
    rw [hp_of hz (by decide)]
    rfl
  rw [e1]
  have e2 : hp (fun i => (h'.objs[i]?).getD default) 131 h'.life = h' := hp_of hz (by decide)
  generalize hzdef : (fun i : Nat => (h'.objs[i]?).getD (default : Obj)) = z at e2 ⊢
  have hzx : ∀ i, i < 92 → z i = x i := by
    intro i hi
    have := hk i (x i) ((hp_get hi (by decide)).trans (hal i hi))
    rw [← hzdef]
    exact objs_of_get this
  have Iz : Inv (cC w.params) y z := by
    refine ⟨fun q hq => ?_, fun i hi hn => (hzx i (by omega)).trans (I.old i hi hn)⟩
    have hlt : (cC w.params).all (fun q => Nat.blt q.1 92) = true := by kernel_rfl
    exact (hzx q.1 (Nat.le_of_ble_eq_true (List.all_eq_true.mp hlt q hq))).trans (I.k q hq)
  have h := rawD w z h'.life drawn os p1
  rw [Iz.sub (l := lD0 w.params) fun x => by kernel_rfl] at h
  rw [PySem.W.Fast.te7998390705656384164]
  refine evQ h ?_
  show Sem.wp (model pw w) Gb (Sem.pure Flow.next) Q E p1 (sp (ov (lD w.params) z) 131 h'.life drawn 2411 os).abs
  rw [Sem.wp_pure]
  have hz92 : ∀ i, 92 ≤ i → ov (lD w.params) z i = z i := by
    intro i hi
    refine ov_out fun q hq e => ?_
    have hlt : (lD w.params).all (fun q => Nat.blt q.1 92) = true := by kernel_rfl
    have := Nat.le_of_ble_eq_true (List.all_eq_true.mp hlt q hq)
    omega
  refine hQ (ov (lD w.params) z) h'.life _ (Iz.next (fun x => by kernel_rfl) fun x => by kernel_rfl) ?_
  obtain ⟨kvs, hkv, o, es, ep, ho, r⟩ := ht.tab
  refine ⟨kvs, hkv, o, es, ep, ?_, r⟩
  rw [hp_get (by decide) (by decide), hz92 92 (by decide)]
  rw [← e2, hp_get (by decide) (by decide)] at ho
  exact ho
theorem segD {w : World} {y x : Nat → Obj} {life : Life} {drawn : Drawn} {os : OsState} {p : Pos} {Q : Flow → Pos → Shared → Prop} {E : Value → Pos → Shared → Prop} (I : Inv (cC w.params) y x) (hy : ∀ i, i < 28 → alive (y i) = some (y i))
    (hQ : ∀ z life' p', Inv (cD w.params) y z → Tab92 pw w (hp z 131 life') → Q .next p' (sp z 131 life' drawn 2411 os).abs) :
    Sem.wp (model pw w) Gb (execs [stm 14] env0) Q E p (sp x 92 life drawn 460 os).abs := by
  rw [stm14_eq]
  with_reducible exact segD_any b3ds_eq I hy hQ
end Mine.Ev
end E8_text
section E9_text
open PySem PySem.W PySem.Calls PyProof.Rows
set_option maxRecDepth 100000
namespace Mine.Ev
open Mine.Di

/-- behind the top -/
structure Fin1 (w : World) (y : Nat → Obj) (drawn : Drawn) (os : OsState) (s : Shared) : Prop where
  ex : ∃ z life, s = (sp z 183 life drawn 2488 os).abs ∧ Inv (cF w.params) y z ∧ Tab92 pw w (hp z 183 life)

section
variable {w : World} {y : Nat → Obj} {life : Life} {drawn : Drawn} {os : OsState} {p : Pos}
theorem body_wp (x : Nat → Obj) (I : Inv (la w.params) y x) (hy : ∀ i, i < 28 → alive (y i) = some (y i)) {E : Value → Pos → Shared → Prop} {Q : Flow → Pos → Shared → Prop} (hQ : ∀ p' s', Fin1 w y drawn os s' → Q .next p' s') :
    Sem.wp (model pw w) Gb (execs (behindTheImports pw) env0) Q E p (sp x 32 life drawn 282 os).abs := by
  rw [behind_eq]
  with_reducible refine wp_execs_app _ _ _ ?_
  with_reducible refine segA I fun x p I => ?_
  show Sem.wp (model pw w) Gb (execs ([stm 12] ++ ([stm 13] ++ ([stm 14] ++ [stm 15, stm 16, stm 17, stm 18, stm 19, stm 20, stm 21, stm 22, stm 23]))) env0) Q E p (sp x 74 life drawn 393 os).abs
  with_reducible refine wp_execs_app _ _ _ ?_
  with_reducible refine segB I fun x p I => ?_
  show Sem.wp (model pw w) Gb (execs ([stm 13] ++ ([stm 14] ++ [stm 15, stm 16, stm 17, stm 18, stm 19, stm 20, stm 21, stm 22, stm 23])) env0) Q E p (sp x 85 life drawn 453 os).abs
  with_reducible refine wp_execs_app _ _ _ ?_
  with_reducible refine segC I fun x p I => ?_
  show Sem.wp (model pw w) Gb (execs ([stm 14] ++ [stm 15, stm 16, stm 17, stm 18, stm 19, stm 20, stm 21, stm 22, stm 23]) env0) Q E p (sp x 92 life drawn 460 os).abs
  with_reducible refine wp_execs_app _ _ _ ?_
  with_reducible refine segD I hy fun z life' p I ht => ?_
  show Sem.wp (model pw w) Gb (execs [stm 15, stm 16, stm 17, stm 18, stm 19, stm 20, stm 21, stm 22, stm 23] env0) Q E p (sp z 131 life' drawn 2411 os).abs
  with_reducible refine segF I fun p I => ?_
  refine hQ _ _ ⟨_, _, rfl, I, ?_⟩
  obtain ⟨kvs, hkv, o, es, ep, ho, r⟩ := ht.tab
  refine ⟨kvs, hkv, o, es, ep, ?_, r⟩
  rw [hp_get (by decide) (by decide)] at ho ⊢
  have : ov (lF w.params) z 92 = z 92 := by
    refine keys_out ?_
    kernel_rfl
  rw [this]
  exact ho
theorem den_body (b : List Stmt) (env : Env) : denote table (.body b env) = (blockStart b env).bind fun _ => ((execs b env).onRaise (leaving env)).bind fun f => (Sem.pure (Fin.done f) : Sem Fin) := rfl
theorem block_wp {E : Value → Pos → Shared → Prop} {Q : Unit → Pos → Shared → Prop} {x : Nat → Obj} (hQ : Q () p (sp x 32 life drawn 282 os).abs) : Sem.wp (model pw w) Gb (blockStart (behindTheImports pw) env0) Q E p (sp x 32 life drawn 282 os).abs := by
  have h : ev denQ ⟨pw, w.params⟩ 5 Gb (blockStart (behindTheImports pw) env0) p (sp x 32 life drawn 282 os) = some (.ok (), p, sp x 32 life drawn 282 os) := by kernel_rfl
  exact evQ h hQ
theorem stub_wp (I : Inv (l0 w.params) y y) (hy : ∀ i, i < 28 → alive (y i) = some (y i)) {R : Result → Shared → Prop} (hR : ∀ s', Fin1 w y drawn os s' → R (.ok (.ret .none)) s') :
    Sem.wp (model pw w) G0 (topStub pw).cur (Sem.finPost (model pw w) G0 R) (fun e _ s' => R (.error e) s') default (sp y 28 life drawn 276 os).abs := by
  show Sem.wp (model pw w) G0 (do
      let code ← moduleCode pw.main
      let frame ← newBodyFrame code mainNs mainNs
      let _ ← run (.body (behindTheImports pw) { scope := pw.main.scope, locals := mainNs, globals := mainNs, cells := [], code, frame := some frame })
      ret .none) _ _ _ _
  rw [Sem.wp_bind']
  have h0 := raw0 w y life drawn os default
  rw [I.sub (l := l0 w.params) fun x => by kernel_rfl] at h0
  rw [PySem.W.Fast.te17154629097778926822]
  with_reducible refine evQ h0 ?_
  show Sem.wp (model pw w) G0 (newBodyFrame (.ref 30) mainNs mainNs >>= fun frame => (do
      let _ ← run (.body (behindTheImports pw) { scope := pw.main.scope, locals := mainNs, globals := mainNs, cells := [], code := .ref 30, frame := some frame })
      ret .none : Sem Fin)) (Sem.finPost (model pw w) G0 R) (fun e _ s' => R (.error e) s') default _
  rw [Sem.wp_bind']
  with_reducible refine evQ (raw1 w y life drawn os default) ?_
  show Sem.wp (model pw w) G0 (run (.body (behindTheImports pw) env0) >>= fun _ => (ret .none : Sem Fin)) (Sem.finPost (model pw w) G0 R) (fun e _ s' => R (.error e) s') default (sp (ov (la w.params) y) 32 life drawn 282 os).abs
  rw [Sem.wp_bind']
  unfold run
  rw [Sem.wp_call, wpCode_iff_wp]
  have Ia : Inv (la w.params) y (ov (la w.params) y) := I.next (fun x => by kernel_rfl) fun x => by kernel_rfl
  show Sem.wp (model pw w) Gb (denote table (.body (behindTheImports pw) env0)) (Sem.finPost (model pw w) Gb _) _ default (sp (ov (la w.params) y) 32 life drawn 282 os).abs
  rw [den_body, ← Sem.bind_eq, Sem.wp_bind']
  with_reducible refine block_wp ?_
  rw [← Sem.bind_eq, Sem.wp_bind', Sem.wp_onRaise]
  with_reducible refine body_wp _ Ia hy fun p' s' hs => ?_
  show Sem.wp (model pw w) Gb (Sem.pure (Fin.done Flow.next)) _ _ p' s'
  rw [Sem.wp_pure]
  unfold Sem.finPost
  dsimp only
  rw [Sem.wp_pure]
  exact hR s' hs
end
end Mine.Ev
end E9_text
section E10_text
open PySem PySem.W PySem.Calls PyProof.Rows
set_option maxRecDepth 100000
namespace Mine.Ev
open Mine.Di
noncomputable def q0 : Program := view pw [0]
noncomputable def loose0 : List Str := ["insort_right", "bisect_right", "_parse_varint", "_twin_re_1", "_twin_re_2", "CRLF", "quotedata", "b1_set", "in_table_b1", "b3_exceptions", "map_table_b3", "_law_piece", "_law_sent", "_law_numbers", "_law_figures", "_law_lowest", "_law_column", "law"]
section
variable (w : World) (y z : Nat → Obj) (life life' : Life) (drawn : Drawn) (os : OsState)
theorem seen_ok : PySem.W.Fast.tw4187177175401517315 q0 loose0 (importedModules pw.main.body) (fun _ => true) true (sp (ov (cF w.params) z) 183 life drawn 2488 os).abs = openGood q0 loose0 := by kernel_rfl
theorem statics_ok : staticsOk (importedModules pw.main.body) (hp (ov (l0 w.params) y) 28 life) (hp (ov (cF w.params) z) 183 life') = true := by kernel_rfl
theorem names_ok : namesBound pw (hp (ov (cF w.params) z) 183 life) = true := by kernel_rfl
theorem laid_ok : laidKept (hp (ov (l0 w.params) y) 28 life) (hp (ov (cF w.params) z) 183 life') = true := by kernel_rfl
theorem chains_ok : chainsOk q0 = true := by kernel_rfl
end
end Mine.Ev
end E10_text
section E11_text
open PySem PySem.W PySem.Calls PyProof.Rows
set_option maxRecDepth 100000
namespace Mine.Ev
open Mine.Di

theorem reach_through {den : Code → Sem Fin} {p : Program} {w : World} : ∀ (n : Nat) (s s' : Shared) (t : Thread) (o : Outcome), runN den p w n s t = .halted o s' → (∀ k s₁ t₁, runN den p w k s t = .running s₁ t₁ → t₁.calm = true) → s.asleep →
    ∃ k t₁, schedN den p w k (.single s t) = .running (.single s' t₁) ∧ step den p w s' t₁ = .halt o s' ∧ t₁.calm = true
  | 0, _, _, _, _, h, _, _ => by cases h
  | n + 1, s, s', t, o, h, hc, hz => by
    have e := sstep_single den p w s t (hc 0 s t rfl) hz
    simp only [runN] at h
    cases hs : step den p w s t with
    | go s₂ t₂ =>
      rw [hs] at h
      have hz2 := Shared.asleep_of_life (step_life den p w s s₂ t t₂ hs) hz
      obtain ⟨k, t₁, h1, h2⟩ := reach_through n s₂ s' t₂ o h (fun k s₁ t₁ q => hc (k + 1) s₁ t₁ (by simp only [runN, hs]; exact q)) hz2
      rcases e with e | e
      · refine ⟨k + 1, t₁, ?_, h2⟩
        rw [hs] at e
        simp only [schedN, e, Step.lift]
        exact h1
      · rw [hs] at e; cases e
    | halt o₂ s₂ =>
      rw [hs] at h
      cases h
      obtain rfl := step_halt_same den p w s s' t o hs
      exact ⟨0, t, rfl, hs, hc 0 s' t rfl⟩
theorem through_of_halt {p : Program} {w : World} {s s' : Shared} {t : Thread} {f : Flow} (h : step (denote table) p w s t = .halt (.done f) s') (hc : t.calm = true) : through t = true := by
  have hl : t.loud = false := by
    rw [Thread.calm_eq] at hc
    have := (Bool.and_eq_true_iff.mp hc).1
    simpa using this
  have e := stepK_forget (denote table) p w s t
  rw [h] at e
  cases hk : stepK (denote table) p w s t with
  | go a b => rw [hk] at e; cases e
  | halt o s₂ =>
    rw [hk] at e
    injection e with e1 _
    subst e1
    have hm : (model p w).step s t = .halt (outcomeOf (.ok f)) s₂ := (Model.step_quiet (model p w) hl).trans hk
    obtain ⟨cur, code, pos, stack⟩ := t
    obtain ⟨rfl, rfl, rfl, _⟩ := step_halt_result (M := model p w) hm
    rfl
end Mine.Ev
end E11_text
section E12_text
open PySem PySem.W PySem.Calls PyProof.Rows
set_option maxRecDepth 100000
namespace Mine.Ev
open Mine.Di

/-- the objects of a state -/
noncomputable def objF (h : Heap) (i : Nat) : Obj := (h.objs[i]?).getD default
theorem keys0 (w : World) : (l0 w.params).map (·.1) = [0, 1, 2, 4, 5, 6, 11, 12, 3] := rfl
theorem inv0 {w : World} {s : Shared} (h : obs0 s = (28, 0, 276, (l0 w.params).map (fun p => some p.2), true)) : Inv (l0 w.params) (objF s.heap) (objF s.heap) ∧ (∀ i, i < 28 → alive (objF s.heap i) = some (objF s.heap i)) ∧ s.heap.objs.size = 28 ∧ s.gens = #[] ∧ s.toks = 276 := by
  unfold obs0 at h
  simp only [Prod.mk.injEq] at h
  obtain ⟨h1, h2, h3, h4, h5⟩ := h
  refine ⟨⟨of_maps ?_, fun _ _ _ => rfl⟩, fun i hi => ?_, h1, Array.eq_empty_of_size_eq_zero h2, h3⟩
  · have e : (l0 w.params).map (fun p => objF s.heap p.1) = ((l0 w.params).map (·.1)).map (objF s.heap) := by rw [List.map_map]; rfl
    rw [e, keys0]
    have h4 := congrArg (List.map fun o : Option Obj => o.getD default) h4
    rw [List.map_map, List.map_map] at h4
    exact h4
  · have hm : objF s.heap i ∈ s.heap.objs.toList := by
      unfold objF
      have : i < s.heap.objs.size := by omega
      rw [Array.getElem?_eq_getElem this]
      exact Array.mem_toList_iff.mpr (Array.getElem_mem this)
    have := List.all_eq_true.mp h5 _ hm
    generalize objF s.heap i = o at this
    obtain ⟨c, d, dt, sl⟩ := o
    cases dt <;> first | rfl | (simp at this)

/-- behind the opening -/
structure Start (w : World) (s₀ : Shared) : Prop where
  obs : obs0 s₀ = (28, 0, 276, (l0 w.params).map (fun p => some p.2), true)
  asleep : s₀.asleep

theorem start_eq {w : World} {s : Shared} (S : Start w s) : s = (sp (objF s.heap) 28 s.heap.life s.drawn 276 s.os).abs := by
  obtain ⟨_, _, hz, hg, ht⟩ := inv0 S.obs
  show s = Shared.mk (hp (objF s.heap) 28 s.heap.life) #[] s.drawn 276 s.os
  have e : hp (objF s.heap) 28 s.heap.life = s.heap := hp_of hz (by decide)
  rw [e, ← hg, ← ht]

theorem run_top {w : World} {s₀ : Shared} (S : Start w s₀) : ∃ s₁, Fin1 w (objF s₀.heap) s₀.drawn s₀.os s₁ ∧ s₁.heap.life = s₀.heap.life ∧ ∃ n t, schedN (denote table) pw w n (.single s₀ (topStub pw)) = .running (.single s₁ t) ∧ through t = true := by
  obtain ⟨I, hy, hz, hg, ht⟩ := inv0 S.obs
  have h := stub_wp (w := w) (y := objF s₀.heap) (life := s₀.heap.life) (drawn := s₀.drawn) (os := s₀.os) I hy (R := fun r s' => (r = .ok (.ret .none) ∧ Fin1 w (objF s₀.heap) s₀.drawn s₀.os s') ∧ leftWithCleanup s'.gens = false) (fun s' hs => ⟨⟨rfl, hs⟩, by
    obtain ⟨z, life, rfl, _⟩ := hs.ex
    show leftWithCleanup #[] = false
    simp [leftWithCleanup]⟩)
  rw [← start_eq S] at h
  obtain ⟨n, r, s', hn, hr, hF⟩ := (wp_iff_halts (M := model pw w) (R := fun r s' => r = .ok (.ret .none) ∧ Fin1 w (objF s₀.heap) s₀.drawn s₀.os s') ..).mp h
  subst hr
  obtain ⟨s₂, hr, hf, hc⟩ := runNI_real _ _ _ hn (outcomeOf_ends _)
  have hgens : s'.gens = #[] := by
    obtain ⟨z, life, rfl, _⟩ := hF.ex
    rfl
  obtain rfl : s₂ = s' := Shared.eq_of_forget_eq hf hgens
  have hl := runN_life (s := s₀) _ _ _ hr
  obtain ⟨k, t₁, h1, h2, h3⟩ := reach_through n s₀ s₂ (topStub pw) _ hr hc S.asleep
  exact ⟨s₂, hF, hl, k, t₁, h1, through_of_halt h2 h3⟩
end Mine.Ev
end E12_text
section T1_text
open PySem PySem.W PySem.Calls PyProof.Rows
set_option maxRecDepth 100000
namespace Mine
section
variable {prog : Program} {w : World} {A : Around} {E : Value → Shared → Prop} {s : Shared} {h G : Heap} {tk : Nat} {L : Addr} {m : Str → Option Value} {news : List (Addr × Obj)}
theorem foldl_rep (xs : Array Value) : ∀ (k : Nat) (acc : Array Value), (List.foldl (fun x1 x2 => x1 ++ x2) acc (List.replicate k xs)).toList = acc.toList ++ (List.replicate k xs.toList).flatten
  | 0, acc => by simp
  | k + 1, acc => by
    rw [List.replicate_succ, List.foldl_cons, foldl_rep xs k, List.replicate_succ, List.flatten_cons]
    simp
theorem zmul_list {l : Addr} {items : Array Value} {n : Nat} {x : Int} {u : Tok} {Q : Value → Shared → Prop} (k : Nat) (C : Cx G L h m news) (hl : h.get? l = some (listOf items n)) (hx : x = k) (hk : k < 100000) (hne : 0 < items.size) (hsz : items.size * k ≤ 100000)
    (hq : ∀ l' h' tk', Cx G L h' m ((l', listOf (List.replicate k items.toList).flatten.toArray 0) :: news) → Q (.ref l') (St s h' tk')) :
    wpAny (model prog w) A (binaryOp .Mult (.ref l) (.int x u)) Q E (St s h tk) := by
  subst hx
  refine mul_list (s := St s h tk) C.fr C.nw hl (Int.le_trans (by decide) (Int.natCast_nonneg k)) (Int.lt_trans (show (k : Int) < 100000 by omega) (by decide)) (by rw [Int.toNat_natCast]; exact Nat.le_trans hsz (by decide)) fun h' F' N' => ?_
  have e0 : items.isEmpty = false := by unfold Array.isEmpty; exact decide_eq_false (by omega)
  have e1 : List.foldl (fun x1 x2 => x1 ++ x2) #[] (List.replicate (if items.isEmpty = true then 0 else (k : Int).toNat) items) = (List.replicate k items.toList).flatten.toArray := by
    rw [if_neg (by rw [e0]; simp), Int.toNat_natCast]
    apply Array.ext'
    rw [foldl_rep]
    simp
  have e2 := e1
  rw [show (Int.toNat (k : Int)) = k from Int.toNat_natCast k] at e2
  refine hq _ _ _ (C.back F' ?_ get_top)
  have N2 := N'
  rw [e1] at N2
  exact N2
theorem zmul {x y : Int} {t u : Tok} {Q : Value → Shared → Prop} (hm : IntMulOk x y) (z : Int) (hz : x * y = z) (hq : ∀ t' tk', Q (.int z t') (St s h tk')) :
    wpAny (model prog w) A (binaryOp .Mult (.int x t) (.int y u)) Q E (St s h tk) := by
  subst hz
  exact mul_int (s := St s h tk) (hq _ _) (hm := hm)
/-- l[-k] -/
theorem zitemNeg {value slice : PySem.Expr} {l : Addr} {its : Array Value} {x : Int} {t : Tok} {v : Value} {Q : Value → Shared → Prop} (k : Nat) (hl : h.IsList l its) (hx : x = -(k : Int)) (h0 : 0 < k) (hk : k ≤ its.size) (hi : its[its.size - k]? = some v) (hi2 : k < 2 ^ 60) (hq : Q v (St s h tk))
    (hs : subscripted slice false (.ref l) (.int x t) = operate [.ref l, .int x t] (getItem (.ref l) (.int x t)) := by rfl) :
    wpAny (model prog w) A (subscriptTail value slice (.ref l) (.int x t)) Q E (St s h tk) := by
  subst hx
  refine tail_any (s := St s h tk) hl.typeIs slot_list_getitem.lookup (wpAny_getItem_list_neg hl (by omega) (by omega) (by omega) ?_ hq) hs
  rw [show (-(k : Int) + (its.size : Int)).toNat = its.size - k by omega]
  exact hi
example (y : Int) : IntMulOk 2 y := .of_left (by decide)
end
end Mine
end T1_text
section GrF_text
namespace Mine
namespace GR
theorem flat_get (r : List Int) : ∀ (K j : Nat), j < K * r.length → (List.replicate K r).flatten.getD j 0 = r.getD (j % r.length) 0
  | 0, j, h => by simp at h
  | K + 1, j, h => by
    rw [List.replicate_succ, List.flatten_cons]
    by_cases hj : j < r.length
    · rw [Nat.mod_eq_of_lt hj]
      simp [List.getD, List.getElem?_append_left hj]
    · have h0 : 0 < r.length := by
        rcases Nat.eq_zero_or_pos r.length with q | q
        · rw [q] at h; simp at h
        · exact q
      have hs : j - r.length < K * r.length := by rw [Nat.succ_mul] at h; omega
      have ih := flat_get r K (j - r.length) hs
      have e : (j - r.length) % r.length = j % r.length := by
        conv => rhs; rw [show j = (j - r.length) + r.length by omega, Nat.add_mod_right]
      rw [e] at ih
      rw [← ih]
      simp [List.getD, List.getElem?_append_right (Nat.not_lt.mp hj)]
theorem turn_get {l : List Int} {c i : Nat} (hc : c < l.length) (hi : i < l.length) : (l.drop c ++ l.take c).getD i 0 = l.getD ((i + c) % l.length) 0 := by
  simp only [List.getD]
  by_cases h : i < l.length - c
  · rw [List.getElem?_append_left (by simpa using h), List.getElem?_drop, Nat.mod_eq_of_lt (by omega), Nat.add_comm]
  · rw [List.getElem?_append_right (by simpa using Nat.not_lt.mp h), List.length_drop, List.getElem?_take_of_lt (by omega)]
    have : (i + c) % l.length = i - (l.length - c) := by
      rw [show i + c = (i - (l.length - c)) + l.length by omega, Nat.add_mod_right, Nat.mod_eq_of_lt (by omega)]
    rw [this]
theorem turn_word {l : List Int} {c K N : Nat} (hc : c < l.length) (hK : N ≤ K * l.length) : ((List.replicate K (l.drop c ++ l.take c)).flatten).take N = cut N (shift c (seq l)) := by
  have hlen : (l.drop c ++ l.take c).length = l.length := by simp; omega
  have hfl : (List.replicate K (l.drop c ++ l.take c)).flatten.length = K * l.length := by
    rw [List.length_flatten, List.map_replicate, hlen]
    simp
  apply List.ext_getElem
  · rw [List.length_take, hfl]; simp [cut]; omega
  · intro j h1 h2
    have hjN : j < N := by simp [cut] at h2; exact h2
    have e1 := flat_get (l.drop c ++ l.take c) K j (by rw [hlen]; omega)
    rw [hlen, turn_get hc (Nat.mod_lt _ (by omega)), Nat.mod_add_mod] at e1
    rw [List.getElem_take]
    have e2 : ((List.replicate K (l.drop c ++ l.take c)).flatten)[j]'(by rw [hfl]; omega) = (List.replicate K (l.drop c ++ l.take c)).flatten.getD j 0 := by
      unfold List.getD
      rw [List.getElem?_eq_getElem (show j < (List.replicate K (l.drop c ++ l.take c)).flatten.length by rw [hfl]; omega)]
      rfl
    rw [e2, e1]
    simp only [cut, List.getElem_map, List.getElem_range]
    rfl
theorem lastOf_zero {l : List Int} (h : 0 < l.length) : lastOf l 0 = l.getD (l.length - 1) 0 := by
  unfold lastOf seq
  rw [Nat.zero_add, Nat.mod_eq_of_lt (by omega)]
theorem lastOf_succ {l : List Int} {c : Nat} (h : c + 1 < l.length) : lastOf l (c + 1) = l.getD c 0 := by
  unfold lastOf seq
  rw [show c + 1 + l.length - 1 = c + l.length by omega, Nat.add_mod_right, Nat.mod_eq_of_lt (by omega)]
theorem turnsOf_snoc (lot : List (List Int)) (l : List Int) (N : Nat) : turnsOf (lot ++ [l]) N = turnsOf lot N ++ (List.range l.length).map fun c => (cut N (shift c (seq l)), lastOf l c) := by
  unfold turnsOf
  rw [List.flatMap_append]
  simp
theorem turns_len (N : Nat) : ∀ lot : List (List Int), (turnsOf lot N).length = total lot
  | [] => rfl
  | l :: lot => by
    have := turns_len N lot
    unfold turnsOf total at *
    rw [List.flatMap_cons, List.length_append, this]
    simp
end GR
end Mine
end GrF_text
section Z7_text
open PySem PySem.W PySem.Calls PyProof.Rows
set_option maxRecDepth 100000
namespace Mine

section
variable {prog : Program} {w : World} {A : Around} {E : Value → Shared → Prop} {s : Shared}

theorem next_item {it l : Addr} {i : Nat} {items : Array Value} {x : Value} {Q : Value → Shared → Prop} (hit : s.heap.IsListIter it l i) (hl : s.heap.IsList l items) (hx : items[i]? = some x)
    (hQ : ∀ h', h'.IsListIter it l (i + 1) → Heap.SameBut it s.heap h' → Q x { s with heap := h' }) : wpAny (model prog w) A (call (.builtin "next") [.ref it]) Q E s := by
  obtain ⟨o, ho, hc, hd⟩ := id hit
  obtain ⟨ol, hol, _, nl, hdl⟩ := hl
  refine call_function_entry (by decide +kernel) (by decide +kernel) kdk_entry_next (kdk_args_next _) ?_
  unfold Builtin.«next»
  refine wpAny_bind (m := someArgs "next" 1 2 _) (wpAny_of_eq (a := [Value.ref it]) (by first | rfl | kernel_rfl!) ?_)
  dsimp only
  refine wpAny_bind (wpAny_specialOf (name := Str.ofString "__next__") hit.typeIs slot_listiter_next.lookup ?_)
  refine wpAny_ite_split (fun hab => absurd hab (by decide)) (fun _ => ?_)
  refine wpAny_bind (wpAny_callSpecial?_slot (name := Str.ofString "__next__") hit.typeIs slot_listiter_next
    (wpAny_call_entry slot_listiter_next hit.typeIs entry_listiter_next ?_ (args_listiter_next _)))
  show wpAny _ _ (field (.ref it) 0 >>= _) _ _ s
  refine wpAny_bind (wpAny_field ho hd (x := .ref l) rfl ?_)
  show wpAny _ _ (if (Value.ref l == Value.none) = true then _ else _) _ _ s
  rw [if_neg (show ¬ ((Value.ref l == Value.none) = true) from Bool.false_ne_true)]
  show wpAny _ _ (field (.ref it) 1 >>= _) _ _ s
  refine wpAny_bind (wpAny_field ho hd (x := .int i 0) rfl ?_)
  show wpAny _ _ (seqItems? (.ref l) >>= _) _ _ s
  refine wpAny_bind (wpAny_seqItems hol hdl ?_)
  simp only [Int.toNat_natCast, hx]
  refine wpAny_bind (wpAny_setField ho hd (by simp) (wpAny_pure ⟨x, rfl, wpAny_pure ⟨_, rfl, hQ _ ?_ (Heap.SameBut.update ..)⟩⟩))
  exact ⟨_, Heap.get?_update_self _ ho (Obj.isFreed_of_fields (Obj.data_mapFields hd _)), (Obj.cls_mapFields ..).trans hc, by
    rw [Obj.data_mapFields hd]; simp [rawInt]⟩

theorem next_end {it l : Addr} {i : Nat} {items : Array Value} {Q : Value → Shared → Prop} (hh : A.handled = none) (hit : s.heap.IsListIter it l i) (hl : s.heap.IsList l items) (hx : items[i]? = none)
    (hE : ∀ h' e t oe vs, Heap.ExtBut it s.heap h' → s.heap.get? e = none → h'.get? e = some oe → oe.cls = .type "StopIteration" → oe.data = .fields vs → vs[1]? = some .none → vs[0]? = some (.ref t) → E (.ref e) { s with heap := h' }) :
    wpAny (model prog w) A (call (.builtin "next") [.ref it]) Q E s := by
  obtain ⟨o, ho, hc, hd⟩ := id hit
  obtain ⟨ol, hol, _, nl, hdl⟩ := hl
  refine call_function_entry (by decide +kernel) (by decide +kernel) kdk_entry_next (kdk_args_next _) ?_
  unfold Builtin.«next»
  refine wpAny_bind (m := someArgs "next" 1 2 _) (wpAny_of_eq (a := [Value.ref it]) (by first | rfl | kernel_rfl!) ?_)
  dsimp only
  refine wpAny_bind (wpAny_specialOf (name := Str.ofString "__next__") hit.typeIs slot_listiter_next.lookup ?_)
  refine wpAny_ite_split (fun hab => absurd hab (by decide)) (fun _ => ?_)
  refine wpAny_bind (wpAny_callSpecial?_slot (name := Str.ofString "__next__") hit.typeIs slot_listiter_next
    (wpAny_call_entry slot_listiter_next hit.typeIs entry_listiter_next ?_ (args_listiter_next _)))
  show wpAny _ _ (field (.ref it) 0 >>= _) _ _ s
  refine wpAny_bind (wpAny_field ho hd (x := .ref l) rfl ?_)
  show wpAny _ _ (if (Value.ref l == Value.none) = true then _ else _) _ _ s
  rw [if_neg (show ¬ ((Value.ref l == Value.none) = true) from Bool.false_ne_true)]
  show wpAny _ _ (field (.ref it) 1 >>= _) _ _ s
  refine wpAny_bind (wpAny_field ho hd (x := .int i 0) rfl ?_)
  show wpAny _ _ (seqItems? (.ref l) >>= _) _ _ s
  refine wpAny_bind (wpAny_seqItems hol hdl ?_)
  simp only [Int.toNat_natCast, hx]
  refine wpAny_bind (wpAny_rule (wpAny_bind (wpAny_setField ho hd (by simp) ?_)))
  show wpAny _ _ (newExc (.type "StopIteration") [] >>= _) _ _ _
  refine wpAny_bind ?_
  simp only [newExc, newTuple]
  refine wpAny_bind (wpAny_newObj_type ?_ (by size_fits))
  refine wpAny_bind (m := firstArgMember _ _) (wpAny_of_eq (a := Value.none) (by first | rfl | (simp only [firstArgMember]; rfl)) ?_)
  refine wpAny_newObj_type ?_ (by size_fits)
  simp only [raiseNew]
  refine wpAny_bind (wpAny_handled ?_)
  rw [show A.in1.in1.handled = none from hh]
  refine wpAny_bind (wpAny_pure (wpAny_throw ?_))
  refine hE _ _ _ _ _ (((Heap.SameBut.update ..).extBut.push _).push _) ?_ (Heap.get?_push_size _ rfl) rfl rfl rfl rfl
  refine get_above ?_
  rw [Heap.size_push, Heap.size_update]
  exact Nat.le_succ _
end
end Mine
end Z7_text
section B1_text
open PySem PySem.W PySem.Calls PyProof.Rows
namespace Mine
theorem and63 (b : Nat) : PySem.Builtin.bitAnd (b : Int) 63 = ((b % 64 : Nat) : Int) := by
  rw [bitAnd_m6]; omega
theorem and64 : ∀ b : Nat, b < 128 → PySem.Builtin.bitAnd (b : Int) 64 = if b < 64 then 0 else 64 := by decide +kernel
theorem bor64 (v d : Nat) (hd : d < 64) : PySem.Builtin.bitOr ((v * 64 : Nat) : Int) (d : Int) = ((v * 64 + d : Nat) : Int) := by
  have hn : ∀ x : Nat, PySem.Builtin.bitNot (x : Int) = -(x : Int) - 1 := fun x => rfl
  have hnn : ∀ x : Int, PySem.Builtin.bitNot (PySem.Builtin.bitNot x) = x := fun x => by
    show -(-x - 1) - 1 = x
    omega
  unfold PySem.Builtin.bitOr
  unfold PySem.Builtin.bitAnd
  have h1 : decide (0 ≤ PySem.Builtin.bitNot ((v * 64 : Nat) : Int)) = false := by rw [hn]; simp; omega
  have h2 : decide (0 ≤ PySem.Builtin.bitNot (d : Int)) = false := by rw [hn]; simp; omega
  simp only [h1, h2, hnn]
  rw [Int.toNat_natCast, Int.toNat_natCast]
  congr 1
  have := Nat.shiftLeft_add_eq_or_of_lt (b := d) (i := 6) hd v
  rw [Nat.shiftLeft_eq] at this
  exact this.symm
end Mine
end B1_text
section Z8_text
open PySem PySem.W PySem.Calls PyProof.Rows
set_option maxRecDepth 100000
namespace Mine

section
variable {prog : Program} {w : World} {A : Around} {E : Value → Shared → Prop} {s : Shared} {h : Heap} {tk : Nat}
theorem zand63 {x : Int} {t u : Tok} {Q : Value → Shared → Prop} (b : Nat) (hx : x = b) (hq : ∀ t' tk', Q (.int ((b % 64 : Nat) : Int) t') (St s h tk')) :
    wpAny (model prog w) A (binaryOp .BitAnd (.int x t) (.int 63 u)) Q E (St s h tk) := by
  subst hx
  refine and_int (s := St s h tk) ?_
  rw [and63]
  exact hq _ _
theorem zand64 {x : Int} {t u : Tok} {Q : Value → Shared → Prop} (b : Nat) (hx : x = b) (hb : b < 128) (hq : ∀ t' tk', Q (.int (if b < 64 then 0 else 64) t') (St s h tk')) :
    wpAny (model prog w) A (binaryOp .BitAnd (.int x t) (.int 64 u)) Q E (St s h tk) := by
  subst hx
  refine and_int (s := St s h tk) ?_
  rw [and64 b hb]
  exact hq _ _
theorem zior {x y : Int} {t u : Tok} {Q : Value → Shared → Prop} (v d : Nat) (hx : x = ((v * 64 : Nat) : Int)) (hy : y = d) (hd : d < 64) (hq : ∀ t' tk', Q (.int ((v * 64 + d : Nat) : Int) t') (St s h tk')) :
    wpAny (model prog w) A (inplaceOp .BitOr (.int x t) (.int y u)) Q E (St s h tk) := by
  subst hx hy
  refine ior_int (s := St s h tk) ?_
  rw [bor64 v d hd]
  exact hq _ _
theorem zishl {x : Int} {t u : Tok} {Q : Value → Shared → Prop} (v : Nat) (hx : x = v) (hv : v < 64 ^ 1000) (hq : ∀ t' tk', Q (.int ((v * 64 : Nat) : Int) t') (St s h tk')) :
    wpAny (model prog w) A (inplaceOp .LShift (.int x t) (.int 6 u)) Q E (St s h tk) := by
  subst hx
  refine ilshift_int (s := St s h tk) (by decide) ?_ ?_
  · have : PySem.Builtin.Int.intBits (v : Int) ≤ 6001 := by
      unfold PySem.Builtin.Int.intBits
      split
      · omega
      · rename_i hne
        have h0 : v ≠ 0 := by simpa using hne
        have : (v : Int).natAbs.log2 < 6000 := by
          rw [Int.natAbs_natCast, Nat.log2_lt h0]
          rw [show (64 : Nat) = 2 ^ 6 from rfl, ← Nat.pow_mul] at hv
          exact hv
        omega
    have h27 : (2 : Int) ^ 27 = 134217728 := by decide
    rw [h27]
    omega
  · rw [show ((v : Int) * 2 ^ Int.toNat 6) = ((v * 64 : Nat) : Int) from by rw [show Int.toNat 6 = 6 from rfl]; omega]
    exact hq _ _
end

theorem drop_head {α : Type} {l r : List α} {i : Nat} {x : α} (e : l.drop i = x :: r) : l[i]? = some x ∧ l.drop (i + 1) = r := by
  constructor
  · have := congrArg (fun y => y[0]?) e
    simpa using this
  · have := congrArg (fun y => y.drop 1) e
    simpa [List.drop_drop, Nat.add_comm] using this

theorem pv_ok {w : World} {A : Around} {s : Shared} {R : Result → Shared → Prop} {B : Heap} {it l : Addr} {i : Nat} {octs : Array Value} {oc ds rest : List Nat} {c : Nat} (hA : Room 900 A) (g : Good B) (hB : Keep B s.heap) (hBi : B.get? it = none)
    (hit : s.heap.IsListIter it l i) (hl : s.heap.IsList l octs) (hoc : IntsAre octs.toList (zs oc)) (hd : oc.drop i = enc (c :: ds) ++ rest) (h64 : ∀ d ∈ c :: ds, d < 64) (hlen : oc.length < 1000)
    (h : ∀ h' tk t, (∀ b o, b ≠ it → s.heap.get? b = some o → h'.get? b = some o) → h'.IsListIter it l (i + (c :: ds).length) → R (.ok (.ret (.int (valD 0 (c :: ds) : Nat) t))) (St s h' tk)) :
    codeAny (model pw w) A (.call (.ref 56) ⟨[.ref it], []⟩) R s := by
  refine enter (binds := [("iterator", .ref it)]) (by unfold recursionLimit; have := hA.2.1; omega) (g.lim.keeps hB) (g.f56.keeps hB) (fun _ _ _ _ _ => BindsTo.of_eq rfl) (by decide +kernel) (by simp; decide +kernel) rfl rfl rfl fun h₁ cd F => ?_
  have C := Cx.of_fr F
  have hA' := hA.deeper (envOf (sName (stm 5)) (sScope (stm 5)) s.heap.objs.size 56 cd)
  refine wpAny_mono (E := fun _ _ => False) ?_ (fun _ _ x => x) fun _ _ x => x.elim
  have hne : l ≠ it := by
    rintro rfl
    obtain ⟨o, ho, hc, _⟩ := hit
    obtain ⟨o', ho', hc', _⟩ := hl
    rw [ho] at ho'
    cases ho'
    rw [hc] at hc'
    simp at hc'
  obtain ⟨oi, ho, hc, hdt⟩ := hit
  have C := C.hot ho
  have gG : Good (s.heap.hide it) := g.keeps (keep_hide hB hBi)
  have hlG : (s.heap.hide it).IsList l octs := hl.at fun o e => by rw [Heap.hide_ne _ hne]; exact e
  have hle : (c :: ds).length < 1000 := by
    have := congrArg List.length hd
    rw [List.length_append, enc_len, List.length_drop] at this
    omega
  generalize hvv : valD 0 (c :: ds) = vv at h ⊢
  generalize hjj : i + (c :: ds).length = jj at h ⊢
  rw [enc_cons] at hd
  obtain ⟨hd1, hd2⟩ := drop_head hd
  obtain ⟨t1, hx1⟩ := hoc.get i _ (by rw [List.getElem?_map, hd1]; rfl)
  refine wpAny_execs_cons (wpAny_Assign_Name (zcallB (s := s) gG C.keep (args_cons (zld C (by walk_at "lk") (args_nil ?_)))))
  refine next_item (s := St s _ _) (i := i) ⟨oi, C.hd, hc, hdt⟩ (ilk hlG C.keep) (by simpa using hx1) fun h2 hit2 sb => ?_
  obtain ⟨o2, ho2, hc2, hdt2⟩ := hit2
  have C := C.up Up.here (fun b o hb e => sb.extBut b o hb e) ho2
  refine zst (s := s) C fun h3 tk3 C => ?_
  refine wpAny_execs_cons (wpAny_Assign_Name (wpAny_BinOp (zld (s := s) C (by walk_at "lk") (zint fun _ _ => zand63 _ rfl fun tv _ => zst C fun h4 tk4 C => ?_))))
  refine wpAny_execs_cons (wpAny_While ?_)
  obtain ⟨W, hW⟩ : ∃ W : Nat → Shared → Prop, ∀ k s', W k s' ↔ (∃ (h' : Heap) (tk : Nat) (mp : Str → Option Value) (oit : Obj) (j v c : Nat) (r : List Nat) (u1 u2 : Tok), s' = St s h' tk ∧
      Cx (s.heap.hide it) s.heap.objs.size h' mp [(it, oit)] ∧ mp "iterator" = some (.ref it) ∧ mp "b" = some (.int ((if r = [] then c else c + 64 : Nat) : Int) u1) ∧ mp "val" = some (.int (v : Nat) u2) ∧
      oit.cls = .type "list_iterator" ∧ oit.data = .fields #[.ref l, .int (j : Nat) 0] ∧ oc.drop j = enc r ++ rest ∧ c < 64 ∧ (∀ d ∈ r, d < 64) ∧ valD v r = vv ∧ j + r.length = jj ∧ (∃ e, v < 64 ^ e ∧ e + r.length < 1000) ∧ k = r.length) := ⟨_, fun _ _ => Iff.rfl⟩
  refine codeAny_whileLoop W ?_ ds.length ?_
  · rintro k s' hWk
    obtain ⟨h', tk, mp, oit, j, v, c, r, u1, u2, rfl, C, m1, m2, m3, o1, o2, e1, e2, e3, e4, e5, ⟨e, e6, e7⟩, rfl⟩ := (hW _ _).mp hWk
    refine wpAny_hide fun Q1 E1 hQ1 _ => ?_
    refine isTrue_plain (wpAny_BinOp (zld (s := s) C m2 (zint fun _ _ => zand64 _ rfl ?_ fun _ _ => P.truthy_int ?_)))
    · split <;> omega
    cases r with
    | nil =>
      rw [if_pos rfl, if_pos e2]
      refine hQ1 _ _ (ite_ff ?_)
      refine wpAny_execs_nil ?_
      refine wpAny_execs_cons (wpAny_Return_some (zld (s := s) C m3 ?_))
      have ev : v = vv := e4
      have ej : j = jj := by simpa using e5
      subst ev ej
      exact h h' _ _ (fun b o hb eq => C.keep b o (by rw [Heap.hide_ne _ hb]; exact eq)) ⟨oit, C.hd, o1, o2⟩
    | cons d r =>
      rw [show (if d :: r = [] then c else c + 64) = c + 64 from if_neg (by simp), if_neg (show ¬ (c + 64 < 64) by omega)]
      refine hQ1 _ _ (ite_tt ?_)
      refine wpAny_hide fun Q2 E2 hQ2 _ => ?_
      rw [enc_cons] at e1
      obtain ⟨f1, f2⟩ := drop_head e1
      obtain ⟨t1, hx1⟩ := hoc.get j _ (by rw [List.getElem?_map, f1]; rfl)
      have hd64 : d < 64 := e3 d (.head _)
      have hv : v < 64 ^ 1000 := Nat.lt_of_lt_of_le e6 (Nat.pow_le_pow_right (by decide) (by omega))
      refine wpAny_execs_cons (wpAny_AugAssign_Name (zldn (s := s) C m3 (zint fun _ _ => zishl v rfl hv fun _ _ => zst C fun h2 tk2 C => ?_)))
      refine wpAny_execs_cons (wpAny_Assign_Name (zcallB (s := s) gG C.keep (args_cons (zld C (by walk_at "lk") (args_nil ?_)))))
      refine next_item (s := St s _ _) (i := j) ⟨oit, C.hd, o1, o2⟩ (ilk hlG C.keep) (by simpa using hx1) fun h3 hit3 sb => ?_
      obtain ⟨o3, ho3, hc3, hdt3⟩ := hit3
      have C := C.up Up.here (fun b o hb e => sb.extBut b o hb e) ho3
      refine zst (s := s) C fun h4 tk4 C => ?_
      refine wpAny_execs_cons (wpAny_AugAssign_Name (zldn (s := s) C (by walk_at "lk") (wpAny_BinOp (zld (s := s) C (by walk_at "lk") (zint fun _ _ => zand63 _ rfl fun _ _ => zior v d rfl ?_ hd64 fun tv _ => zst C fun h5 tk5 C => ?_)))))
      · split <;> omega
      refine wpAny_execs_nil ?_
      refine hQ2 _ _ ⟨r.length, by simp, (hW _ _).mpr ⟨h5, tk5, _, o3, j + 1, v * 64 + d, d, r, t1, tv, rfl, C, ?_, ?_, ?_, hc3, hdt3, f2, hd64, fun x hx => e3 x (.tail _ hx), e4, ?_, ⟨e + 1, ?_, ?_⟩, rfl⟩⟩
      · walk_at "lk"
      · walk_at "lk"
      · walk_at "lk"
      · simp at e5; omega
      · rw [Nat.pow_succ]; omega
      · simp at e7; omega
  · have hc64 : c < 64 := h64 c (.head _)
    refine (hW _ _).mpr ⟨h4, tk4, _, o2, i + 1, c, c, ds, t1, tv, rfl, C, ?_, ?_, ?_, hc2, hdt2, hd2, hc64, fun x hx => h64 x (.tail _ hx), ?_, ?_, ⟨1, ?_, ?_⟩, rfl⟩
    · walk_at "lk"
    · walk_at "lk"
    · refine (if_pos rfl).trans ?_
      have : (if ds = [] then c else c + 64) % 64 = c := by split <;> omega
      rw [this]
    · rw [← hvv]
      show valD c ds = valD (0 * 64 + c) ds
      simp
    · simp at hjj; omega
    · omega
    · simp at hle; omega
end Mine
end Z8_text
section Z9_text
open PySem PySem.W PySem.Calls PyProof.Rows
set_option maxRecDepth 100000
namespace Mine

theorem pv_stop {w : World} {A : Around} {s : Shared} {R : Result → Shared → Prop} {B base : Heap} {outer : List Env} {it l : Addr} {i : Nat} {octs : Array Value} (hA : Room 900 A) (g : Good B) (hB : Keep B s.heap) (hBi : B.get? it = none)
    (K : Below A base outer s.heap) (hbi : base.get? it = none)
    (hit : s.heap.IsListIter it l i) (hl : s.heap.IsList l octs) (hend : octs[i]? = none)
    (h : ∀ h' tk e a0, Heap.FlyingW base outer e (.type "StopIteration") a0 h' → s.heap.UpToSlots h' → R (.error (.ref e)) (St s h' tk)) :
    codeAny (model pw w) A (.call (.ref 56) ⟨[.ref it], []⟩) R s := by
  refine enter (binds := [("iterator", .ref it)]) (by unfold recursionLimit; have := hA.2.1; omega) (g.lim.keeps hB) (g.f56.keeps hB) (fun _ _ _ _ _ => BindsTo.of_eq rfl) (by decide +kernel) (by simp; decide +kernel) rfl rfl rfl fun h₁ cd F => ?_
  have C := Cx.of_fr F
  have hA' := hA.deeper (envOf (sName (stm 5)) (sScope (stm 5)) s.heap.objs.size 56 cd)
  have hne : l ≠ it := by
    rintro rfl
    obtain ⟨o, ho, hc, _⟩ := hit
    obtain ⟨o', ho', hc', _⟩ := hl
    rw [ho] at ho'
    cases ho'
    rw [hc] at hc'
    simp at hc'
  obtain ⟨oi, ho, hc, hdt⟩ := hit
  have K2 := K.push (name := sName (stm 5)) (scope := sScope (stm 5)) (a := 56) (cd := cd) F (by rfl)
  refine wpAny_execs_cons (wpAny_Assign_Name (zcallB (s := s) (g.keeps hB) C.keep (args_cons (zld C (by walk_at "lk") (args_nil ?_)))))
  refine next_end (s := St s _ _) (i := i) hA'.1 ⟨oi, C.keep _ _ ho, hc, hdt⟩ (ilk hl C.keep) hend fun h2 e t oe vs k1 k2 k3 k4 k5 k6 k7 => ?_
  have hen : base.get? e = none := by
    cases hq : base.get? e with
    | none => rfl
    | some o =>
      have := K2.stays _ _ hq
      rw [show (St s h₁ _).heap = h₁ from rfl] at k2
      rw [k2] at this
      cases this
  have hst2 : base.StaysIn h2 := fun b o hb => k1 b o (fun q => by rw [q, hbi] at hb; cases hb) (K2.stays _ _ hb)
  have hno : ∀ b o, h₁.get? b = some o → (∀ vs, o.data ≠ .fields vs) → h2.get? b = some o := fun b o hb hnf => k1 b o (fun q => by
    rw [q, C.keep _ _ ho] at hb
    cases hb
    exact hnf _ hdt) hb
  refine wpAny_leaving_firstW (s := St s h2 _) (base := base) (outer := outer) (L := s.heap.objs.size) (a0 := .ref t) K2.stack (K2.frames.of_keeps fun b o hb hnf => ⟨o, hno b o hb hnf, rfl⟩) rfl k3 hst2 hen k5 k6 k7 fun h' hL => ?_
  obtain ⟨x1, ⟨_, _, x2⟩, x3, x4⟩ := hL
  rw [k4] at x3
  exact h h' _ e (.ref t) ⟨x1, hen, x2, x3⟩ fun b o hb hnf => x4 b o (hno b o (C.keep _ _ hb) hnf) hnf
end Mine
end Z9_text
section N1_text
open PySem PySem.W PySem.Calls PyProof.Rows
set_option maxRecDepth 100000
namespace Mine

noncomputable def lamQual : Str := sName (stm 19) ++ ".<locals>." ++ "<lambda>"
noncomputable def lamTab (c' : Addr) : Array Value := #[rawInt (lamPos lamE).line, rawInt (lamPos lamE).col, .ref c']
noncomputable def TabOk (h : Heap) (ps : Array Value) : Prop := ps = #[] ∨ ∃ c', ps = lamTab c' ∧ h.CodeRec (.ref c') lamQual
theorem TabOk.keeps {h h' : Heap} {ps : Array Value} (x : TabOk h ps) (k : Keep h h') : TabOk h' ps := x.imp id fun ⟨c', e, r⟩ => ⟨c', e, r.keeps k⟩
/-- the table as it was, or laid anew -/
noncomputable def TabNew (G0 G : Heap) (ps ps' : Array Value) : Prop := ps' = ps ∨ ∃ c', ps' = lamTab c' ∧ G0.get? c' = none ∧ c' ≠ 153 ∧ G.CodeRec (.ref c') lamQual
theorem none_back {G G' : Heap} (k : Keep G G') {b : Addr} (e : G'.get? b = none) : G.get? b = none := by
  cases hq : G.get? b with
  | none => rfl
  | some o => rw [k _ _ hq] at e; cases e
theorem TabNew.tr {G0 G1 G2 : Heap} {ps ps1 ps2 : Array Value} (a : TabNew G0 G1 ps ps1) (b : TabNew G1 G2 ps1 ps2) (k : Keep G0 G1) (k2 : Keep G1 G2) : TabNew G0 G2 ps ps2 := by
  rcases b with rfl | ⟨c', e, h1, h2, h3⟩
  · rcases a with rfl | ⟨c', e, h1, h2, h3⟩
    · exact .inl rfl
    · exact .inr ⟨c', e, h1, h2, h3.keeps k2⟩
  · exact .inr ⟨c', e, none_back k h1, h2, h3⟩
noncomputable abbrev env19 (L : Addr) (c : Addr) : Env := envX (sName (stm 19)) (sScope (stm 19)) L 158 (.ref 157) [("row", c)]

section
variable {w : World} {M : Model} {A : Around} {E : Value → Shared → Prop} {s : Shared} {h G : Heap} {tk : Nat} {L ra c : Addr} {m : Str → Option Value} {p q : Addr × Obj} {ps : Array Value}
theorem zlam {Q : Value → Shared → Prop} (g : Good G) (C : Cx G L h m [p, q, (153, tabObj ps)]) (ht : TabOk G ps) (hc : G.IsCell c (some (.ref ra)))
    (hq : ∀ G' h' tk' ps' f, Keep G G' → Cx G' L h' m [p, q, (153, tabObj ps')] → TabOk G' ps' → TabNew G G' ps ps' → KeyAt G' f ra → Q (.ref f) (St s h' tk')) :
    wpAny M A (eval lamE (env19 L c)) Q E (St s h tk) := by
  have e0 : lamE = .Lambda (lamParams lamE) (lamBody lamE) (lamScope lamE) (lamPos lamE) := by rfl
  rw [e0]
  refine kla_eval rfl ?_
  obtain ⟨mg, n1, n2, n3⟩ := g.glob
  have hP := (C.led (153, tabObj ps) (by simp)).1
  have hb : h.BuiltinsAt mg 153 := by
    obtain ⟨bm, o, b1, b2, b3, b4, b5, b6⟩ := n3
    exact ⟨bm, o, b1, b2, b3, b4, C.keep _ _ b5, b6⟩
  have hLs : L < h.objs.size := C.ns.lt
  have hled : ∀ r ∈ [p, q, (153, tabObj ps)], r.1 < h.objs.size := fun r hr => Heap.lt_size (C.led r hr).1
  rcases ht with rfl | ⟨c', rfl, hcr⟩
  · refine kla_makeFunction (s := St s h tk) (clos := [("row", c)]) (c := 157) (P := 153) (ps := #[]) (mg := mg) rfl rfl (n1.keeps C.keep) rfl (g.c157.keeps C.keep) hP trivial rfl (by decide) hb fun c' ctv h' tk' hx hge hlt hrec htab => ?_
    replace hge : h.objs.size ≤ c' := hge
    have hsz : h.objs.size ≤ h'.objs.size := Nat.le_of_lt (Nat.lt_of_le_of_lt hge hlt)
    have C1 : Cx G L h' m [p, q, (153, tabObj (lamTab c'))] := C.up (.there (.there .here)) hx (by rw [htab]; rfl)
    have C2 := C1.keeps (h' := h'.push (kla_obj "<lambda>" lamQual (lamParams lamE) (lamBody lamE) (lamScope lamE) [("row", c)] ((mg "__name__").getD .none) c' ctv)) fun b o e => Heap.get?_push_of_some _ e
    obtain ⟨G', C3, kG, hold⟩ := C2.freeze
    have hcr : G'.CodeRec (.ref c') lamQual := by
      refine hrec.at fun o e => hold _ _ (Heap.get?_push_of_some _ e) (Nat.ne_of_gt (Nat.lt_of_lt_of_le hLs hge)) fun r hr => ?_
      have : r.1 < h.objs.size := by
        rcases List.mem_cons.mp hr with rfl | hr
        · exact hled _ (.head _)
        · rcases List.mem_cons.mp hr with rfl | hr
          · exact hled _ (.tail _ (.head _))
          · rcases List.mem_cons.mp hr with rfl | hr
            · exact hled (153, tabObj #[]) (.tail _ (.tail _ (.head _)))
            · cases hr
      exact Nat.ne_of_lt (Nat.lt_of_lt_of_le this hge)
    refine hq G' _ _ _ _ kG C3 (.inr ⟨c', rfl, hcr⟩) (.inr ⟨c', rfl, none_back C.keep (get_above hge), Nat.ne_of_gt (Nat.lt_of_lt_of_le (hled (153, tabObj #[]) (.tail _ (.tail _ (.head _)))) hge), hcr⟩) ⟨lamQual, c, ((mg "__name__").getD .none), c', ctv, ?_, hcr, hc.keeps kG⟩
    refine hold _ _ (Heap.get?_push_size _ rfl) (Nat.ne_of_gt (Nat.lt_of_lt_of_le hLs hsz)) fun r hr => ?_
    exact Nat.ne_of_lt (Heap.lt_size (C1.led r hr).1)
  · have hf : codeAmong (lamPos lamE) (lamTab c').toList = some (.ref c') := rfl
    refine kla_makeFunctionHit (s := St s h tk) (clos := [("row", c)]) (c := 157) (P := 153) (ps := lamTab c') (mg := mg) rfl rfl (n1.keeps C.keep) rfl (g.c157.keeps C.keep) hP trivial hf hb fun ctv h' tk' hx hge => ?_
    have C1 := C.keeps hx
    have C2 := C1.keeps (h' := h'.push (kla_obj "<lambda>" lamQual (lamParams lamE) (lamBody lamE) (lamScope lamE) [("row", c)] ((mg "__name__").getD .none) c' ctv)) fun b o e => Heap.get?_push_of_some _ e
    obtain ⟨G', C3, kG, hold⟩ := C2.freeze
    refine hq G' _ _ _ _ kG C3 (.inr ⟨c', rfl, hcr.keeps kG⟩) (.inl rfl) ⟨lamQual, c, ((mg "__name__").getD .none), c', ctv, ?_, hcr.keeps kG, hc.keeps kG⟩
    refine hold _ _ (Heap.get?_push_size _ rfl) (Nat.ne_of_gt (Nat.lt_of_lt_of_le hLs hge)) fun r hr => ?_
    exact Nat.ne_of_lt (Heap.lt_size (C1.led r hr).1)
end
end Mine
end N1_text
section N2_text
open PySem PySem.W PySem.Calls PyProof.Rows
set_option maxRecDepth 100000
namespace Mine

/-- the body of _law_numbers is entered: the row lies in a cell -/
theorem enter19 {w : World} {A : Around} {s : Shared} {R : Result → Shared → Prop} {B : Heap} {ra : Addr} {ps : Array Value} (hA : Room 340 A) (g : Good B) (hB : Keep B s.heap) (hB153 : B.get? 153 = none)
    (htab : s.heap.get? 153 = some (tabObj ps))
    (h : ∀ G h₁ tk m, Keep (s.heap.hide 153) G → Cx G s.heap.objs.size h₁ m [(153, tabObj ps)] → G.IsCell (s.heap.objs.size + 1) (some (.ref ra)) →
      wpAny (model pw w) (A.deeper (env19 s.heap.objs.size (s.heap.objs.size + 1))) (execs (sBody (stm 19)) (env19 s.heap.objs.size (s.heap.objs.size + 1)))
        (fun fl s' => R (.ok (.ret (retOf fl))) s') (fun _ _ => False) (St s h₁ tk)) :
    codeAny (model pw w) A (.call (.ref 158) ⟨[.ref ra], []⟩) R s := by
  obtain ⟨o, doc, pm, an, ct, h1, h2, h3⟩ := g.f158
  refine codeAny_call_cells (binds := [("row", .ref ra)]) (by unfold recursionLimit; have := hA.2.1; omega) (hB _ _ h1) h2 (g.lim.keeps hB) (h3.keeps hB) rfl rfl rfl (fun x hx => by rw [List.mem_singleton] at hx; subst hx; exact .inr ⟨show (sScope (stm 19)).names.lookup (Str.ofString "row") = some NameKind.cell by decide +kernel, rfl⟩) (fun s₁ X => ?_) rfl rfl rfl
  obtain ⟨h₁, tk, rfl, hk⟩ := X.done
  have C0 : Cx s.heap s.heap.objs.size h₁ _ [] := ⟨X.toInCall.ns, hk, get_top, by simp, by simp⟩
  have C1 := C0.hot htab
  obtain ⟨G, C2, kG, hold⟩ := C1.freeze
  have hcl := X.cell "row" (s.heap.objs.size + 1) rfl
  obtain ⟨oc, hoc, hdc⟩ := hcl
  have h153 := Heap.lt_size htab
  refine wpAny_mono (h G h₁ tk _ kG C2 ⟨oc, hold _ _ hoc ?_ ?_, hdc⟩) (fun fl s' hr => ?_) fun _ _ x => x.elim
  · exact Nat.ne_of_gt (Nat.lt_succ_self _)
  · intro p hp
    rw [List.mem_singleton] at hp
    subst hp
    exact Nat.ne_of_lt (Nat.lt_succ_of_lt h153)
  · cases fl <;> exact hr
end Mine
end N2_text
section N3_text
open PySem PySem.W PySem.Calls PyProof.Rows
set_option maxRecDepth 100000
namespace Mine

theorem while_take {α : Type} (P : α → Bool) : ∀ (l : List α) (r : Nat), (∀ i (h : i < l.length), i < r → P l[i] = true) → (∀ i (h : i < l.length), r ≤ i → P l[i] = false) → l.takeWhile P = l.take r ∧ l.dropWhile P = l.drop r
  | [], r, _, _ => by simp
  | x :: l, 0, _, h2 => by
    have := h2 0 (by simp) (Nat.le_refl _)
    simp at this
    simp [this]
  | x :: l, r + 1, h1, h2 => by
    have h := h1 0 (by simp) (by omega)
    simp at h
    obtain ⟨a, b⟩ := while_take P l r (fun i hi hr => by have := h1 (i + 1) (by simp; exact hi) (by omega); simpa using this) (fun i hi hr => by have := h2 (i + 1) (by simp; exact hi) (by omega); simpa using this)
    simp [h, a, b]

theorem ins_eq {row : List Int} {ord : List Nat} {p r : Nat} (h1 : ∀ i, i < r → kAt row ord i ≤ row.getD p 0) (h2 : ∀ i, r ≤ i → i < ord.length → row.getD p 0 < kAt row ord i) :
    ord.take r ++ p :: ord.drop r = GR.ins row ord p := by
  obtain ⟨a, b⟩ := while_take (fun q => decide (GR.fig row q ≤ GR.fig row p)) ord r
    (fun i hi hr => by
      have := h1 i hr
      unfold kAt at this
      rw [show ord.getD i 0 = ord[i] by simp [List.getD, hi]] at this
      exact decide_eq_true this)
    (fun i hi hr => by
      have := h2 i hr hi
      unfold kAt at this
      rw [show ord.getD i 0 = ord[i] by simp [List.getD, hi]] at this
      refine decide_eq_false ?_
      show ¬ (row.getD ord[i] 0 ≤ row.getD p 0)
      omega)
  unfold GR.ins
  rw [a, b]
theorem order_sort (row : List Int) (k : Nat) : ∀ i j, i ≤ j → j < (GR.orderTo row k).length → kAt row (GR.orderTo row k) i ≤ kAt row (GR.orderTo row k) j := by
  intro i j hij hj
  rcases Nat.lt_or_eq_of_le hij with q | q
  · have := (List.pairwise_iff_getElem.mp (GR.orderTo_sorted row k)) i j (by omega) hj q
    unfold kAt
    rw [show (GR.orderTo row k).getD i 0 = (GR.orderTo row k)[i] by simp [List.getD, show i < (GR.orderTo row k).length by omega], show (GR.orderTo row k).getD j 0 = (GR.orderTo row k)[j] by simp [List.getD, hj]]
    rcases this with q | q
    · exact Int.le_of_lt q
    · exact Int.le_of_eq q.1
  · rw [q]; exact Int.le_refl _
theorem order_in (row : List Int) (k : Nat) : ∀ p ∈ GR.orderTo row k, p < k := fun p hp => List.mem_range.mp ((GR.orderTo_perm row k).mem_iff.mp hp)

noncomputable def st19 (i : Nat) : Stmt := (sBody (stm 19))[i]?.getD (.Pass default)

section
variable {w : World} {A : Around} {E : Value → Shared → Prop} {s : Shared} {h G : Heap} {tk : Nat} {L ra c lo : Addr} {m : Str → Option Value} {ps : Array Value} {rs : Array Value} {rw_ : List Nat} {j0 : Nat}
theorem num_order {Q : Flow → Shared → Prop} (hA : Room 341 A) (g : Good G) (C : Cx G L h m [(lo, listOf #[] j0), (153, tabObj ps)]) (m1 : m "order" = some (.ref lo)) (ht : TabOk G ps) (hc : G.IsCell c (some (.ref ra))) (hra : G.IsList ra rs) (hrs : IntsAre rs.toList (zs rw_)) (hlen : rw_.length < 40)
    (hq : ∀ G' h' m' tk' ps' os j, Keep G G' → Cx G' L h' m' [(lo, listOf os j), (153, tabObj ps')] → TabNew G G' ps ps' → IntsAre os.toList (zs (GR.orderOf (zs rw_))) → m' "order" = some (.ref lo) → Q .next (St s h' tk')) :
    wpAny (model pw w) A (exec (st19 1) (env19 L c)) Q E (St s h tk) := by
  have hrz : rs.size = rw_.length := by have := hrs.length; simpa using this
  have hzl : (zs rw_).length = rw_.length := by simp
  refine wpAny_mono (E := fun _ _ => False) ?_ (fun _ _ x => x) fun _ _ x => x.elim
  refine wpAny_For (zcallT (s := s) g C.keep (args_cons (zcallB (s := s) g C.keep (args_cons (zcell (hc.keeps C.keep) rfl (args_nil (zlen_list rw_.length (ilk hra C.keep) hrz (by omega) fun t2 tk2 => args_nil ?_)))))))
  refine zrange1 (s := s) rw_.length C rfl (by omega) fun h4 tk4 I C => ?_
  obtain ⟨J, hJ⟩ : ∃ J : Nat → Heap → (Str → Option Value) → List (Addr × Obj) → Prop, ∀ i G' m news, J i G' m news ↔ (Keep G G' ∧ m "order" = some (.ref lo) ∧ ∃ os j ps', news = [(lo, listOf os j), (153, tabObj ps')] ∧ TabOk G' ps' ∧ TabNew G G' ps ps' ∧ IntsAre os.toList (zs (GR.orderTo (zs rw_) i))) := ⟨_, fun _ _ _ _ => Iff.rfl⟩
  refine zforRange (s := s) (env := env19 L c) 0 rw_.length J hA.1 C ((hJ _ _ _ _).mpr ⟨Keep.rfl', m1, _, _, _, rfl, ht, .inl rfl, .nil⟩) ?_ ?_
  · rintro i G' h5 m5 news tk5 t5 hi5 hJi C
    obtain ⟨kG, m1, os, j, ps', rfl, ht, htn, hos⟩ := (hJ _ _ _ _).mp hJi
    refine wpAny_hide fun Q0 E0 hQ0 _ => ?_
    refine wpAny_execs_cons (wpAny_Expr (zcallK (s := s) (g.keeps kG) C.keep (g.keeps kG).f40 ?_))
    refine args_cons (zldX (s := s) C (by walk_at "lk") (args_cons (zldX (s := s) C (by walk_at "lk") (args_nil ?_))))
    refine zlam (s := s) (ra := ra) (g.keeps kG) C ht (hc.keeps kG) fun G2 h6 tk6 ps2 f kG2 C ht2 htn2 hkf => ⟨kG2.tr C.keep, ?_⟩
    have htn := htn.tr htn2 kG kG2
    have kG := kG.tr kG2
    have hol : (GR.orderTo (zs rw_) i).length = i := GR.orderTo_length _ _
    refine wpAny_call (ins_call (s := St s h6 tk6) (rs := rs) (ord := GR.orderTo (zs rw_) i) (row := zs rw_) (p := 0 + i) (hA.mono (by decide)) ((g.keeps kG).keeps C.keep) (hkf.keeps C.keep) (C.led (lo, listOf os j) (by simp)).1 (ilk (ilk hra kG) C.keep) hos hrs (fun p hp => by have := order_in _ _ p hp; omega) (by omega) (by omega) (by omega) (order_sort _ _) fun r h7 tk7 k7 b1 b2 b3 b4 => ?_)
    obtain ⟨os', j', b4, b5⟩ := b4
    rw [ins_eq b2 b3] at b5
    have C := C.up (.there .here) k7 b4
    refine wpAny_execs_nil ?_
    refine hQ0 _ _ ⟨G2, h7, _, _, tk7, rfl, C, (hJ _ _ _ _).mpr ⟨kG, by walk_at "lk", os', j', ps2, rfl, ht2, htn, ?_⟩⟩
    rw [GR.orderTo_succ]
    simpa using b5
  · rintro G' h5 m5 news tk5 hJi C
    obtain ⟨kG, m1, os, j, ps', rfl, ht, htn, hos⟩ := (hJ _ _ _ _).mp hJi
    exact hq G' h5 m5 tk5 ps' os j kG C htn (by unfold GR.orderOf; rw [hzl]; exact hos) m1
end
end Mine
end N3_text
section N4_text
open PySem PySem.W PySem.Calls PyProof.Rows
set_option maxRecDepth 100000
namespace Mine

section
variable {prog : Program} {w : World} {A : Around} {E : Value → Shared → Prop} {s : Shared} {h G : Heap} {tk : Nat} {L : Addr} {m : Str → Option Value} {news news' : List (Addr × Obj)}
theorem zappend {D : Addr} {its : Array Value} {n : Nat} {x : Value} {Q : Value → Shared → Prop} (C : Cx G L h m news) (hD : (D, listOf its n) ∈ news) (u : Up D (listOf (its.push x) (n + 1)) news news') (hsz : its.size < 100000)
    (hq : ∀ h', Cx G L h' m news' → Q .none (St s h' tk)) : wpAny (model prog w) A (call (.builtin "list.append") [.ref D, x]) Q E (St s h tk) :=
  append_at (s := St s h tk) (C.led _ hD).1 (fun h' sb hD' => hq h' (C.up u (fun b o hb e => sb.extBut b o hb e) hD')) (by rw [sizeLine_eq]; omega)
end

theorem ints_push {its : Array Value} {ns : List Int} {n : Int} {t : Tok} (h : IntsAre its.toList ns) : IntsAre (its.push (.int n t)).toList (ns ++ [n]) := by
  rw [Array.toList_push]; exact IntsAre.append h (.cons _ _ .nil)

section
variable {w : World} {A : Around} {E : Value → Shared → Prop} {s : Shared} {h G : Heap} {tk : Nat} {L ra c lo lm lc : Addr} {m : Str → Option Value} {ps : Array Value} {rs os : Array Value} {rw_ : List Nat} {jo j1 j2 : Nat}
theorem num_rings {Q : Flow → Shared → Prop} (hA : Room 341 A) (g : Good G) (C : Cx G L h m [(lm, listOf #[] j1), (lc, listOf #[] j2), (lo, listOf os jo), (153, tabObj ps)]) (m1 : m "order" = some (.ref lo)) (m2 : m "octets" = some (.ref lc)) (m3 : m "met" = some (.ref lm))
    (hc : G.IsCell c (some (.ref ra))) (hra : G.IsList ra rs) (hrs : IntsAre rs.toList (zs rw_)) (hlen : rw_.length < 40) (hos : IntsAre os.toList (zs (GR.orderOf (zs rw_))))
    (hq : ∀ h' m' tk' os' j', Cx G L h' m' [(lc, listOf os' j'), (153, tabObj ps)] → IntsAre os'.toList (zs (GR.octTo rw_ rw_.length (GR.ord (zs rw_)) rw_.length)) → os'.size < 2000 → m' "octets" = some (.ref lc) → Q .next (St s h' tk')) :
    wpAny (model pw w) A (exec (st19 4) (env19 L c)) Q E (St s h tk) := by
  have hrz : rs.size = rw_.length := by have := hrs.length; simpa using this
  have hzl : (zs rw_).length = rw_.length := by simp
  have S := GR.std (zs rw_)
  rw [hzl] at S
  generalize ho : GR.ord (zs rw_) = o at S hq
  refine wpAny_mono (E := fun _ _ => False) ?_ (fun _ _ x => x) fun _ _ x => x.elim
  refine wpAny_For (zcallT (s := s) g C.keep (args_cons (zcallB (s := s) g C.keep (args_cons (zcell (hc.keeps C.keep) rfl (args_nil (zlen_list rw_.length (ilk hra C.keep) hrz (by omega) fun t2 tk2 => args_nil ?_)))))))
  refine zrange1 (s := s) rw_.length C rfl (by omega) fun h4 tk4 I C => ?_
  obtain ⟨J, hJ⟩ : ∃ J : Nat → Heap → (Str → Option Value) → List (Addr × Obj) → Prop, ∀ i G' m news, J i G' m news ↔ (G' = G ∧ m "order" = some (.ref lo) ∧ m "octets" = some (.ref lc) ∧ m "met" = some (.ref lm) ∧ ∃ ms j1 cs j2, news = [(lm, listOf ms j1), (lc, listOf cs j2), (lo, listOf os jo), (153, tabObj ps)] ∧
      IntsAre ms.toList (zs (GR.metTo rw_.length o i)) ∧ IntsAre cs.toList (zs (GR.octTo rw_ rw_.length o i))) := ⟨_, fun _ _ _ _ => Iff.rfl⟩
  refine zforRange (s := s) (env := env19 L c) 0 rw_.length J hA.1 C ((hJ _ _ _ _).mpr ⟨rfl, m1, m2, m3, _, _, _, _, rfl, .nil, .nil⟩) ?_ ?_
  · rintro i G' h5 m5 news tk5 t5 hi5 hJi C
    obtain ⟨rfl, m1, m2, m3, ms, j1, cs, j2, rfl, hms, hcs⟩ := (hJ _ _ _ _).mp hJi
    rw [Nat.zero_add] at C
    refine wpAny_hide fun Q0 E0 hQ0 _ => ?_
    refine wpAny_execs_cons (wpAny_Assign_Name (zldX (s := s) C (by walk_at "lk") (zstX (s := s) C fun h6 tk6 C => ?_)))
    refine wpAny_execs_cons (wpAny_While ?_)
    obtain ⟨W, hW⟩ : ∃ W : Nat → Shared → Prop, ∀ k s', W k s' ↔ (∃ (h' : Heap) (tk : Nat) (mp : Str → Option Value) (ms : Array Value) (j1 : Nat) (cs : Array Value) (j2 c : Nat) (u1 u2 : Tok), s' = St s h' tk ∧
        Cx G' L h' mp [(I, rit (i + 1) (rw_.length - i - 1)), (lm, listOf ms j1), (lc, listOf cs j2), (lo, listOf os jo), (153, tabObj ps)] ∧ mp "order" = some (.ref lo) ∧ mp "octets" = some (.ref lc) ∧ mp "met" = some (.ref lm) ∧
        mp "start" = some (.int (i : Nat) u1) ∧ mp "place" = some (.int ((GR.it o c i : Nat) : Int) u2) ∧ ((GR.isStart rw_.length o i = true ∧ c ≤ GR.per rw_.length o i) ∨ (¬ GR.isStart rw_.length o i = true ∧ c = 0)) ∧
        IntsAre ms.toList (zs (GR.metTo rw_.length o i ++ (List.range c).map fun j => GR.it o j i)) ∧ IntsAre cs.toList (zs (GR.octTo rw_ rw_.length o i ++ (List.range c).map (GR.octN rw_ o i))) ∧ k = GR.per rw_.length o i - c) := ⟨_, fun _ _ => Iff.rfl⟩
    refine codeAny_whileLoop W
      ?_ (GR.per rw_.length o i) ((hW _ _).mpr ⟨h6, tk6, _, ms, j1, cs, j2, 0, t5, t5, rfl, C, ?_, ?_, ?_, ?_, ?_, ?_, ?_, ?_, rfl⟩)
    · rintro k s' hWk
      obtain ⟨h', tk, mp, ms, j1, cs, j2, cc, u1, u2, rfl, C, m1, m2, m3, m4, m5, hst, hms, hcs, rfl⟩ := (hW _ _).mp hWk
      have hmo := (C.led (lm, listOf ms j1) (by simp)).1
      refine wpAny_hide fun Q1 E1 hQ1 _ => ?_
      refine wpAny_isTrue_Compare1 (zldX (s := s) C m5 (zldX (s := s) C m3 (znotin (s := St s h' tk) hmo hms (wpAny_truthy_bool ?_))))
      by_cases hin : GR.it o cc i ∈ GR.metTo rw_.length o i ++ (List.range cc).map fun j => GR.it o j i
      · have e : decide (((GR.it o cc i : Nat) : Int) ∈ zs (GR.metTo rw_.length o i ++ (List.range cc).map fun j => GR.it o j i)) = true := decide_eq_true (List.mem_map.mpr ⟨_, hin, rfl⟩)
        rw [e]
        refine hQ1 _ _ (ite_ff ?_)
        refine wpAny_execs_nil (wpAny_execs_nil ?_)
        refine hQ0 _ _ ⟨G', h', mp, _, tk, rfl, by rw [Nat.zero_add]; exact C, (hJ _ _ _ _).mpr ⟨rfl, m1, m2, m3, ms, j1, cs, j2, rfl, ?_, ?_⟩⟩
        · rw [GR.metTo_succ]
          rcases hst with ⟨is, hc2⟩ | ⟨is, rfl⟩
          · have hce : cc = GR.per rw_.length o i := by
              rcases Nat.lt_or_eq_of_le hc2 with q | q
              · exact absurd hin (S.free hi5 is q)
              · exact q
            rw [if_pos is]
            rw [hce] at hms
            exact hms
          · rw [if_neg is]
            exact hms
        · rw [GR.octTo_succ]
          rcases hst with ⟨is, hc2⟩ | ⟨is, rfl⟩
          · have hce : cc = GR.per rw_.length o i := by
              rcases Nat.lt_or_eq_of_le hc2 with q | q
              · exact absurd hin (S.free hi5 is q)
              · exact q
            rw [if_pos is]
            rw [hce] at hcs
            exact hcs
          · rw [if_neg is]
            exact hcs
      · have e : decide (((GR.it o cc i : Nat) : Int) ∈ zs (GR.metTo rw_.length o i ++ (List.range cc).map fun j => GR.it o j i)) = false := by
          refine decide_eq_false fun q => hin ?_
          obtain ⟨y, hy, e⟩ := List.mem_map.mp q
          have : y = GR.it o cc i := by
            have e : (y : Int) = ((GR.it o cc i : Nat) : Int) := e
            omega
          rw [← this]; exact hy
        rw [e]
        refine hQ1 _ _ (ite_tt ?_)
        refine wpAny_hide fun Q2 E2 hQ2 _ => ?_
        have is : GR.isStart rw_.length o i = true ∧ cc < GR.per rw_.length o i := by
          rcases hst with ⟨is, hc2⟩ | ⟨is, rfl⟩
          · refine ⟨is, ?_⟩
            rcases Nat.lt_or_eq_of_le hc2 with q | q
            · exact q
            · rw [q] at hin
              exact absurd (S.closed hi5) hin
          · exact absurd (List.mem_append_left _ (S.taken hi5 is)) hin
        have hpl := S.it_lt hi5 cc
        have hql := S.it_lt hi5 (cc + 1)
        have hper := (S.per_spec hi5).2.1
        have hmsz : ms.size < 100000 := by
          have h1 := hms.length
          have h2 := S.met_len i (by omega)
          have h3 : i * rw_.length ≤ 39 * 39 := Nat.mul_le_mul (by omega) (by omega)
          simp at h1
          omega
        have hcsz : cs.size < 100000 := by
          have h1 := hcs.length
          have h2 := S.oct_len rw_ i (by omega)
          have h3 : i * rw_.length ≤ 39 * 39 := Nat.mul_le_mul (by omega) (by omega)
          simp at h1
          omega
        refine wpAny_execs_cons (wpAny_Expr (zmeth PySem.F.plainAttrs_list PySem.F.slot_list_append PySem.F.type_list_append ?_))
        refine zldX (s := s) (v := .ref lm) C (by walk_at "lk") ⟨⟨_, hmo, rfl⟩, fun a e => ⟨_, by cases e; exact hmo, rfl⟩, ?_⟩
        refine args_cons (zldX (s := s) C (by walk_at "lk") (args_nil (zappend (D := lm) (its := ms) (n := j1) C (by simp) (.there .here) hmsz fun h7 C => ?_)))
        have hol : (GR.orderOf (zs rw_)).length = rw_.length := by rw [GR.orderOf_length]; exact hzl
        obtain ⟨q, hq1⟩ : ∃ q, (GR.orderOf (zs rw_))[GR.it o cc i]? = some q := ⟨_, List.getElem?_eq_getElem (by rw [hol]; exact hpl)⟩
        have hq2 : GR.it o (cc + 1) i = q := by
          have e : GR.ord (zs rw_) (GR.it o cc i) = q := by
            unfold GR.ord
            simp [List.getD, hq1]
          rw [ho] at e
          exact e
        obtain ⟨tq, hq3⟩ := hos.get (GR.it o cc i) (q : Int) (by rw [List.getElem?_map, hq1]; rfl)
        refine wpAny_execs_cons (wpAny_Assign_Name (Subscript_ (zldX (s := s) C (by walk_at "lk") (zldX (s := s) C (by walk_at "lk") (zitem (GR.it o cc i) (isList_of (C.led (lo, listOf os jo) (by simp)).1) rfl (by simpa using hq3) (by omega) (zstX (s := s) C fun h8 tk8 C => ?_))))))
        rw [hq2] at hql
        obtain ⟨d, hd1⟩ : ∃ d, rw_[q]? = some d := ⟨_, List.getElem?_eq_getElem hql⟩
        obtain ⟨td, hd2⟩ := hrs.get q (d : Int) (by rw [List.getElem?_map, hd1]; rfl)
        have hgo : ∀ (oct : Nat) (tt : Tok) (tk9 : Nat), oct = GR.octN rw_ o i cc → wpAny (model pw w) (A) (call (.builtin "list.append") [.ref lc, .int (oct : Nat) tt]) (fun v s' => v = .none ∧ ∃ h', s' = St s h' tk9 ∧ Cx G' L h' (fun y => if y = Str.ofString "place" then some (.int (q : Nat) tq) else mp y)
            [(I, rit (i + 1) (rw_.length - i - 1)), (lm, listOf (ms.push (.int (GR.it o cc i : Nat) u2)) (j1 + 1)), (lc, listOf (cs.push (.int (oct : Nat) tt)) (j2 + 1)), (lo, listOf os jo), (153, tabObj ps)]) (fun _ _ => False) (St s h8 tk9) := by
          intro oct tt tk9 hoct
          exact zappend (D := lc) (its := cs) (n := j2) C (by simp) (.there (.there .here)) hcsz fun h9 C => ⟨rfl, h9, rfl, C⟩
        refine wpAny_execs_cons (wpAny_Expr (zmeth PySem.F.plainAttrs_list PySem.F.slot_list_append PySem.F.type_list_append ?_))
        have hco := (C.led (lc, listOf cs j2) (by simp)).1
        refine zldX (s := s) (v := .ref lc) C (by walk_at "lk") ⟨⟨_, hco, rfl⟩, fun a e => ⟨_, by cases e; exact hco, rfl⟩, ?_⟩
        refine args_cons (wpAny_IfExp (wpAny_isTrue_Compare1 (zldX (s := s) C (by walk_at "lk") (zldX (s := s) C (by walk_at "lk") (eq_int (wpAny_truthy_bool ?_))))))
        have hfin : ∀ (oct : Nat) (tt : Tok) (tk9 : Nat), oct = GR.octN rw_ o i cc → ∀ h', Cx G' L h' (fun y => if y = Str.ofString "place" then some (.int (q : Nat) tq) else mp y)
            [(I, rit (i + 1) (rw_.length - i - 1)), (lm, listOf (ms.push (.int (GR.it o cc i : Nat) u2)) (j1 + 1)), (lc, listOf (cs.push (.int (oct : Nat) tt)) (j2 + 1)), (lo, listOf os jo), (153, tabObj ps)] →
            ∃ k', k' < GR.per rw_.length o i - cc ∧ W k' (St s h' tk9) := by
          intro oct tt tk9 hoct h' C
          refine ⟨GR.per rw_.length o i - (cc + 1), by omega, (hW _ _).mpr ⟨h', tk9, _, _, _, _, _, cc + 1, u1, tq, rfl, C, by walk_at "lk", by walk_at "lk", by walk_at "lk", by walk_at "lk", ?_, .inl ⟨is.1, is.2⟩, ?_, ?_, rfl⟩⟩
          · rw [hq2]; rfl
          · have e := ints_push (t := u2) (n := (GR.it o cc i : Nat)) hms
            rw [List.range_succ, List.map_append, ← List.append_assoc]
            simpa [zs] using e
          · have e := ints_push (t := tt) (n := (oct : Nat)) hcs
            rw [List.range_succ, List.map_append, ← List.append_assoc, List.map_singleton, ← hoct]
            simpa [zs] using e
        by_cases hqi : q = i
        · have e : (((q : Nat) : Int) == (i : Int)) = true := by simp [hqi]
          rw [e]
          refine ite_tt ?_
          refine Subscript_ (zcell (s := s) (hc.keeps C.keep) rfl (zldX (s := s) C (by walk_at "lk") (zitem q (ilk hra C.keep) rfl (by simpa using hd2) (by omega) (args_nil ?_))))
          have ho1 : d = GR.octN rw_ o i cc := by
            unfold GR.octN
            rw [hq2, if_pos hqi, ← hqi]
            simp [List.getD, hd1]
          refine wpAny_mono (hgo d td _ ho1) (fun v s' hv => ?_) fun _ _ x => x.elim
          obtain ⟨rfl, h', rfl, C⟩ := hv
          exact wpAny_execs_nil (hQ2 _ _ (hfin d td _ ho1 h' C))
        · have e : (((q : Nat) : Int) == (i : Int)) = false := by
            rw [beq_eq_false_iff_ne]
            omega
          rw [e]
          refine ite_ff ?_
          refine wpAny_BinOp (Subscript_ (zcell (s := s) (hc.keeps C.keep) rfl (zldX (s := s) C (by walk_at "lk") (zitem q (ilk hra C.keep) rfl (by simpa using hd2) (by omega) (zint fun _ _ => zadd ((d + 64 : Nat) : Int) (by omega) fun td2 _ => args_nil ?_)))))
          have ho1 : d + 64 = GR.octN rw_ o i cc := by
            unfold GR.octN
            rw [hq2, if_neg hqi]
            simp [List.getD, hd1]
          refine wpAny_mono (hgo (d + 64) td2 _ ho1) (fun v s' hv => ?_) fun _ _ x => x.elim
          obtain ⟨rfl, h', rfl, C⟩ := hv
          exact wpAny_execs_nil (hQ2 _ _ (hfin (d + 64) td2 _ ho1 h' C))
    · walk_at "lk"
    · walk_at "lk"
    · walk_at "lk"
    · walk_at "lk"
    · rw [show GR.it o 0 i = i from rfl]; walk_at "lk"
    · by_cases is : GR.isStart rw_.length o i = true
      · exact .inl ⟨is, Nat.zero_le _⟩
      · exact .inr ⟨is, rfl⟩
    · simpa using hms
    · simpa using hcs
  · rintro G' h5 m5 news tk5 hJi C
    obtain ⟨rfl, m1, m2, m3, ms, j1, cs, j2, rfl, hms, hcs⟩ := (hJ _ _ _ _).mp hJi
    refine hq h5 m5 tk5 cs j2 (C.sub ?_) hcs ?_ m2
    · exact .cons _ (.cons_cons _ (.cons _ (.cons_cons _ .slnil)))
    · have := S.oct_len rw_ rw_.length (Nat.le_refl _)
      have h1 : cs.size = (GR.octTo rw_ rw_.length o rw_.length).length := by simpa using hcs.length
      have h2 : rw_.length * rw_.length ≤ 39 * 39 := Nat.mul_le_mul (by omega) (by omega)
      omega
end
end Mine
end N4_text
section C4_text
open PySem PySem.W PySem.Calls PyProof.Rows
set_option maxRecDepth 100000
namespace Mine

noncomputable def st22 (i : Nat) : Stmt := (sBody (stm 22))[i]?.getD (.Pass default)
noncomputable abbrev env22 (L : Addr) (cd : Value) : Env := envOf (sName (stm 22)) (sScope (stm 22)) L 177 cd

theorem paired_append {α β : Type} {F : α → β → Prop} : ∀ {l : List α} {k : List β} {l' : List α} {k' : List β}, PySem.Paired F l k → PySem.Paired F l' k' → PySem.Paired F (l ++ l') (k ++ k')
  | _, _, _, _, .nil, h => h
  | _, _, _, _, .cons a r, h => .cons a (paired_append r h)
theorem IntsAre.flat {its : List Value} {l : List Int} (h : IntsAre its l) : ∀ K, IntsAre (List.replicate K its).flatten (List.replicate K l).flatten
  | 0 => .nil
  | K + 1 => by
    rw [List.replicate_succ, List.replicate_succ, List.flatten_cons, List.flatten_cons]
    exact IntsAre.append h (IntsAre.flat h K)

section
variable {w : World} {A : Around} {E : Value → Shared → Prop} {s : Shared} {h G : Heap} {tk : Nat} {L lt D : Addr} {cd : Value} {m : Str → Option Value} {ys : Array Value} {lot : List (List Int)} {N : Nat} {tz : Tok}
/-- one turn of the inner loop -/
theorem col_inner {I2 a : Addr} {oI : Obj} {I : Addr} {its ts : Array Value} {j jt c N : Nat} {l : List Int} {lotI : List (List Int)} {tc tz : Tok} {R : Result → Shared → Prop} {left : Nat} (hA : Room 331 A) (g : Good G)
    (C : Cx G L h m [(I2, rit (c + 1) left), (I, oI), (lt, listOf ts jt)]) (m1 : m "ring" = some (.ref a)) (m2 : m "cut" = some (.int (c : Nat) tc)) (m3 : m "size" = some (.int (N : Nat) tz)) (m4 : m "turns" = some (.ref lt))
    (ha : G.get? a = some (listOf its j)) (hi : IntsAre its.toList l) (hc : c < l.length) (hl : l.length ≤ 30) (hN : N ≤ 30) (hts : PySem.Paired (TurnAt G) ts.toList (GR.turnsOf lotI (2 * N) ++ (List.range c).map fun c => (GR.cut (2 * N) (GR.shift c (GR.seq l)), GR.lastOf l c))) (hsz : ts.size < 90000) :
    wpAny (model pw w) A (execs (sInner ((sInner (st22 3)).head?.getD (.Pass default))) (env22 L cd)) (fun fl s' => match fl with
        | .next | .cont => ∃ G' h' m' tk' ts' jt', s' = St s h' tk' ∧ Cx G' L h' m' [(I2, rit (c + 1) left), (I, oI), (lt, listOf ts' jt')] ∧ Keep G G' ∧ m' "ring" = some (.ref a) ∧ m' "size" = some (.int (N : Nat) tz) ∧ m' "turns" = some (.ref lt) ∧ m' "rings" = m "rings" ∧ ts'.size = ts.size + 1 ∧
            PySem.Paired (TurnAt G') ts'.toList (GR.turnsOf lotI (2 * N) ++ (List.range (c + 1)).map fun c => (GR.cut (2 * N) (GR.shift c (GR.seq l)), GR.lastOf l c))
        | .brk => False
        | .ret v => R (.ok (.ret v)) s') (fun _ _ => False) (St s h tk) := by
  have hsl : its.size = l.length := by simpa using hi.length
  refine wpAny_hideQ fun Q0 hQ0 => ?_
  refine wpAny_execs_cons (wpAny_Assign_Name (wpAny_BinOp (wpAny_BinOp (zslice ?_))))
  refine zld (s := s) C (by walk_at "lk") (wpAny_evalPart_some (zld (s := s) C (by walk_at "lk") (wpAny_evalPart_none ?_)))
  refine zslice_end (s := s) (its.toList.drop c) C (isList_of (C.keep _ _ ha)) (.int _ _) .none (slicePick_from' _ _) (fun h6 tk6 a6 C => ?_) (by rw [sizeLine_eq]; omega)
  refine zslice ?_
  refine zld (s := s) C (by walk_at "lk") (wpAny_evalPart_none (wpAny_evalPart_some (zld (s := s) C (by walk_at "lk") ?_)))
  refine zslice_end (s := s) (its.toList.take c) C (isList_of (C.keep _ _ ha)) .none (.int _ _) (slicePick_upto' _ _) (fun h7 tk7 a7 C => ?_) (by rw [sizeLine_eq]; omega)
  refine zadd_lists C (isList_of (C.led _ (.tail _ (.head _))).1) (isList_of C.hd) (fun a8 h8 tk8 C => ?_) (by simp; rw [sizeLine_eq]; omega)
  refine wpAny_BinOp (wpAny_BinOp (wpAny_BinOp (zint fun _ _ => zld (s := s) C (by walk_at "lk") (zmul (.of_left (by decide)) ((2 * N : Nat) : Int) (by omega) fun _ _ => ?_))))
  refine zcallB (s := s) g C.keep (args_cons (zld C (by walk_at "lk") (args_nil (zlen_list l.length (isList_of (C.keep _ _ ha)) hsl (by omega) fun t9 tk9 => ?_))))
  refine zfdiv (2 * N) l.length rfl rfl (by omega) (by omega) fun _ _ => zint fun _ _ => zadd ((2 * N / l.length + 1 : Nat) : Int) (by omega) fun _ _ => ?_
  have hdiv : 2 * N / l.length ≤ 60 := Nat.le_trans (Nat.div_le_self _ _) (by omega)
  have hm1 : l.length * (2 * N / l.length + 1) ≤ 30 * 61 := Nat.mul_le_mul hl (by omega)
  refine zmul_list (s := s) (2 * N / l.length + 1) C C.hd rfl (by omega) (by simp; omega) (by
    refine Nat.le_trans (Nat.le_of_eq ?_) (Nat.le_trans hm1 (by decide))
    congr 1
    simp
    omega) fun aM h10 tk10 C => ?_
  refine zst (s := s) C fun h11 tk11 C => ?_
  have hto := (C.led (lt, listOf ts jt) (by simp)).1
  have hrep : IntsAre (List.replicate (2 * N / l.length + 1) (its.toList.drop c ++ its.toList.take c)).flatten (List.replicate (2 * N / l.length + 1) (l.drop c ++ l.take c)).flatten := IntsAre.flat (IntsAre.append (hi.drop c) (hi.take c)) _
  have hword : ((List.replicate (2 * N / l.length + 1) (l.drop c ++ l.take c)).flatten).take (2 * N) = GR.cut (2 * N) (GR.shift c (GR.seq l)) := GR.turn_word hc (by
    have := Nat.div_add_mod (2 * N) l.length
    have h2 := Nat.mod_lt (2 * N) (show l.length > 0 by omega)
    rw [Nat.add_mul, Nat.mul_comm (2 * N / l.length) l.length]
    omega)
  refine wpAny_execs_cons (wpAny_Expr (zmeth PySem.F.plainAttrs_list PySem.F.slot_list_append PySem.F.type_list_append ?_))
  refine zld (s := s) (v := .ref lt) C (by walk_at "lk") ⟨⟨_, hto, rfl⟩, fun a e => ⟨_, by cases e; exact hto, rfl⟩, ?_⟩
  refine args_cons (Tuple_ (args_cons (zslice ?_)))
  refine zld (s := s) C (by walk_at "lk") (wpAny_evalPart_none (wpAny_evalPart_some (wpAny_BinOp (zint fun _ _ => zld (s := s) C (by walk_at "lk") (zmul (.of_left (by decide)) ((2 * N : Nat) : Int) (by omega) fun _ _ => ?_)))))
  refine zslice_end (s := s) _ C (isList_of (C.led (aM, _) (.head _)).1) .none (.int _ _) (slicePick_upto' _ _) (fun h12 tk12 aS C => ?_) (by
    rw [sizeLine_eq]
    have h1 := hrep.length
    rw [List.length_flatten, List.length_flatten, List.map_replicate, List.map_replicate] at h1
    have h2 : (2 * N / l.length + 1) * (l.drop c ++ l.take c).length ≤ 61 * 30 := Nat.mul_le_mul (by omega) (by simp; omega)
    simp at h1 h2 ⊢
    omega)
  refine args_cons (Subscript_ (zld (s := s) C (by walk_at "lk") (wpAny_BinOp (zld (s := s) C (by walk_at "lk") (zint fun _ _ => zsub ((c : Int) - 1) rfl fun _ _ => ?_)))))
  have hlast : ∃ d t, (∀ (Q : Value → Shared → Prop) (sl vl : PySem.Expr) (tok : Tok) (tkq : Nat), Q (.int d t) (St s h12 tkq) → subscripted sl false (.ref a) (.int ((c : Int) - 1) tok) = operate [.ref a, .int ((c : Int) - 1) tok] (getItem (.ref a) (.int ((c : Int) - 1) tok)) →
      wpAny (model pw w) A (subscriptTail vl sl (.ref a) (.int ((c : Int) - 1) tok)) Q (fun _ _ => False) (St s h12 tkq)) ∧ d = GR.lastOf l c := by
    have hia := isList_of (C.keep _ _ ha)
    cases c with
    | zero =>
      obtain ⟨d, hd⟩ : ∃ d, l[l.length - 1]? = some d := ⟨_, List.getElem?_eq_getElem (by omega)⟩
      obtain ⟨t, ht⟩ := hi.get _ _ hd
      refine ⟨d, t, fun Q sl vl tok tkq hQ hs => zitemNeg 1 hia (by omega) (by omega) (by omega) (by rw [hsl]; simpa using ht) (by omega) hQ hs, ?_⟩
      rw [GR.lastOf_zero (by omega)]
      simp [List.getD, hd]
    | succ c =>
      obtain ⟨d, hd⟩ : ∃ d, l[c]? = some d := ⟨_, List.getElem?_eq_getElem (by omega)⟩
      obtain ⟨t, ht⟩ := hi.get _ _ hd
      refine ⟨d, t, fun Q sl vl tok tkq hQ hs => zitem c hia (by omega) (by simpa using ht) (by omega) hQ hs, ?_⟩
      rw [GR.lastOf_succ (by omega)]
      simp [List.getD, hd]
  obtain ⟨d, td, hlast, hd⟩ := hlast
  refine hlast _ _ _ _ _ ?_ (by rfl)
  refine args_nil (znewTuple (s := s) C fun aT h13 tk13 C => ?_)
  obtain ⟨G', C, kG, hold⟩ := C.layN 6
  have hT := hold (aT, { cls := .type "tuple", data := .seq #[.ref aS, .int d td] 0 }) (by simp)
  have hS := hold (aS, listOf ((List.replicate (2 * N / l.length + 1) (its.toList.drop c ++ its.toList.take c)).flatten.take (2 * N)).toArray 0) (by simp)
  refine args_nil (zappend (D := lt) (its := ts) (n := jt) C (by simp) (.there (.there .here)) (by omega) fun h14 C => ?_)
  refine wpAny_execs_nil (hQ0 .next _ ⟨G', h14, _, _, _, _, rfl, C, kG, by walk_at "lk", by walk_at "lk", by walk_at "lk", by walk_at "lk", by simp, ?_⟩)
  rw [List.range_succ, List.map_append, ← List.append_assoc, Array.toList_push, List.map_singleton]
  refine paired_append (hts.mono fun _ _ x => x.keeps kG) (.cons ⟨aT, aS, _, 0, td, 0, rfl, ?_, hS, ?_⟩ .nil)
  · rw [← hd]; exact hT
  · rw [← hword]; simpa using hrep.take (2 * N)
end
end Mine
end C4_text
section C5_text
open PySem PySem.W PySem.Calls PyProof.Rows
set_option maxRecDepth 100000
namespace Mine

section
variable {w : World} {A : Around} {E : Value → Shared → Prop} {s : Shared} {h G : Heap} {tk : Nat} {L lt D : Addr} {cd : Value} {m : Str → Option Value} {ys : Array Value} {ns : List Nat} {tz : Tok} {j0 : Nat}
theorem total_take (lot : List (List Int)) (i : Nat) : GR.total (lot.take i) ≤ GR.total lot := by
  unfold GR.total
  rw [List.map_take]
  conv => rhs; rw [← List.take_append_drop i (lot.map List.length), List.sum_append]
  omega
theorem len_total {lot : List (List Int)} {l : List Int} (h : l ∈ lot) : l.length ≤ GR.total lot := by
  induction lot with
  | nil => cases h
  | cons a lot ih =>
    unfold GR.total at *
    rcases List.mem_cons.mp h with rfl | h
    · simp
    · have := ih h
      simp only [List.map_cons, List.sum_cons]
      omega
theorem col_turns {Q : Flow → Shared → Prop} (hA : Room 331 A) (g : Good G) (C : Cx G L h m [(lt, listOf #[] j0)]) (m1 : m "rings" = some (.ref D)) (m3 : m "size" = some (.int (GR.total (ns.map digs) : Nat) tz)) (m4 : m "turns" = some (.ref lt))
    (hD : G.IsList D ys) (hys : PySem.Paired (fun i v => ∃ a, v = .ref a ∧ Ints G a (digs (ns.getD i 0))) (List.range ns.length) ys.toList) (hlen : ns.length ≤ 30) (htot : GR.total (ns.map digs) ≤ 30)
    (hq : ∀ G' h' m' tk' ts jt, Keep G G' → Cx G' L h' m' [(lt, listOf ts jt)] → m' "turns" = some (.ref lt) → PySem.Paired (TurnAt G') ts.toList (GR.turnsOf (ns.map digs) (2 * GR.total (ns.map digs))) → Q .next (St s h' tk')) :
    wpAny (model pw w) A (exec (st22 3) (env22 L cd)) Q E (St s h tk) := by
  have hysz : ys.size = ns.length := by have := hys.length; simpa using this.symm
  refine wpAny_mono (E := fun _ _ => False) ?_ (fun _ _ x => x) fun _ _ x => x.elim
  refine wpAny_For (zld (s := s) C (by walk_at "lk") (zpyIter (s := s) C (ilk hD C.keep) fun h2 tk2 I oI C o1 o2 => ?_))
  obtain ⟨J, hJ⟩ : ∃ J : Nat → Heap → (Str → Option Value) → List (Addr × Obj) → Prop, ∀ i G' m news, J i G' m news ↔ (Keep G G' ∧ m "size" = some (.int (GR.total (ns.map digs) : Nat) tz) ∧ m "turns" = some (.ref lt) ∧ ∃ ts jt, news = [(lt, listOf ts jt)] ∧
      PySem.Paired (TurnAt G') ts.toList (GR.turnsOf ((ns.map digs).take i) (2 * GR.total (ns.map digs)))) := ⟨_, fun _ _ _ _ => Iff.rfl⟩
  refine zforList (s := s) (env := env22 L cd) (items := ys) J hA.1 C o1 o2 ((hJ _ _ _ _).mpr ⟨Keep.rfl', m3, m4, _, _, rfl, .nil⟩) (fun i G' m news hj => hD.at fun o e => ((hJ _ _ _ _).mp hj).1 _ _ e) ?_ ?_
  · rintro i v G' h3 m3' news tk3 oI' hi hJi C
    obtain ⟨kG, m3, m4, ts, jt, rfl, hts⟩ := (hJ _ _ _ _).mp hJi
    have hilt : i < ns.length := by
      have := (Array.getElem?_eq_some_iff.mp hi).1
      omega
    obtain ⟨v', hv', a, rfl, hia⟩ := paired_at hys i i (by simp [hilt])
    have hv : v = .ref a := by
      have e : ys.toList[i]? = ys[i]? := Array.getElem?_toList
      rw [e, hi] at hv'
      cases hv'
      rfl
    subst hv
    have hia2 := hia
    obtain ⟨its, j, ha, hii⟩ := hia2
    have hlI : (ns.map digs)[i]? = some (digs (ns.getD i 0)) := by
      rw [List.getElem?_map, List.getElem?_eq_getElem hilt]
      simp [List.getD, hilt]
    have hll : (digs (ns.getD i 0)).length ≤ 30 := Nat.le_trans (len_total (List.mem_of_getElem? hlI)) htot
    have hits : its.size = (digs (ns.getD i 0)).length := by simpa using hii.length
    have htsl : ts.size ≤ 30 := by
      have h1 := hts.length
      rw [GR.turns_len] at h1
      have := total_take (ns.map digs) i
      simp at h1
      omega
    refine wpAny_hide fun Q0 E0 hQ0 _ => ?_
    refine wpAny_execs_cons (wpAny_For (zcallT (s := s) (g.keeps kG) C.keep (args_cons (zcallB (s := s) (g.keeps kG) C.keep (args_cons (zld C (by walk_at "lk") (args_nil (zlen_list (digs (ns.getD i 0)).length (isList_of (C.keep _ _ (kG _ _ ha))) hits (by omega) fun t2 tk2 => args_nil ?_))))))))
    refine zrange1 (s := s) (digs (ns.getD i 0)).length C rfl (by omega) fun h4 tk4 I2 C => ?_
    obtain ⟨H, hH⟩ : ∃ H : Nat → Heap → (Str → Option Value) → List (Addr × Obj) → Prop, ∀ c G2 m news, H c G2 m news ↔ (Keep G' G2 ∧ m "ring" = some (.ref a) ∧ m "size" = some (.int (GR.total (ns.map digs) : Nat) tz) ∧ m "turns" = some (.ref lt) ∧ ∃ ts2 jt, news = [(I, oI'), (lt, listOf ts2 jt)] ∧ ts2.size = ts.size + c ∧
        PySem.Paired (TurnAt G2) ts2.toList (GR.turnsOf ((ns.map digs).take i) (2 * GR.total (ns.map digs)) ++ (List.range c).map fun c => (GR.cut (2 * GR.total (ns.map digs)) (GR.shift c (GR.seq (digs (ns.getD i 0)))), GR.lastOf (digs (ns.getD i 0)) c))) := ⟨_, fun _ _ _ _ => Iff.rfl⟩
    refine zforRange (s := s) (env := env22 L cd) 0 (digs (ns.getD i 0)).length H hA.1 C ((hH _ _ _ _).mpr ⟨Keep.rfl', by walk_at "lk", by walk_at "lk", by walk_at "lk", _, _, rfl, rfl, by simpa using hts⟩) ?_ ?_
    · rintro c G2 h5 m5 news tk5 t5 hc hHi C
      obtain ⟨kG2, m1, m3, m4, ts2, jt2, rfl, hsz2, hts2⟩ := (hH _ _ _ _).mp hHi
      have kk := kG.tr kG2
      refine wpAny_mono (col_inner (s := s) (its := its) (j := j) (c := 0 + c) (l := digs (ns.getD i 0)) (lotI := (ns.map digs).take i) (R := fun _ _ => False) hA (g.keeps kk) C (by walk_at "lk") (by walk_at "lk") (by walk_at "lk") (by walk_at "lk") (kk _ _ ha) hii (by omega) hll htot (by rw [Nat.zero_add]; exact hts2) (by omega)) (fun fl s' hs => ?_) fun _ _ x => x
      have fin : (∃ G3 h' m' tk' ts' jt', s' = St s h' tk' ∧ Cx G3 L h' m' [(I2, rit (0 + c + 1) ((digs (ns.getD i 0)).length - c - 1)), (I, oI'), (lt, listOf ts' jt')] ∧ Keep G2 G3 ∧ m' "ring" = some (.ref a) ∧ m' "size" = some (.int (GR.total (ns.map digs) : Nat) tz) ∧ m' "turns" = some (.ref lt) ∧ m' "rings" = (fun y => if y = "cut" then some (.int ((0 + c : Nat) : Int) t5) else m5 y) "rings" ∧ ts'.size = ts2.size + 1 ∧
            PySem.Paired (TurnAt G3) ts'.toList (GR.turnsOf ((ns.map digs).take i) (2 * GR.total (ns.map digs)) ++ (List.range (0 + c + 1)).map fun c => (GR.cut (2 * GR.total (ns.map digs)) (GR.shift c (GR.seq (digs (ns.getD i 0)))), GR.lastOf (digs (ns.getD i 0)) c))) →
          ∃ G3 h' m' news' tk', s' = St s h' tk' ∧ Cx G3 L h' m' ((I2, rit (0 + c + 1) ((digs (ns.getD i 0)).length - c - 1)) :: news') ∧ H (c + 1) G3 m' news' := by
        rintro ⟨G3, h', m', tk', ts', jt', rfl, C, kG3, n1, n2, n3, _, n5, n6⟩
        rw [Nat.zero_add c] at n6
        exact ⟨G3, h', m', _, tk', rfl, C, (hH _ _ _ _).mpr ⟨kG2.tr kG3, n1, n2, n3, ts', jt', rfl, by omega, n6⟩⟩
      cases fl with
      | next => exact fin hs
      | cont => exact fin hs
      | brk => exact hs
      | ret v => exact hs.elim
    · rintro G2 h5 m5 news tk5 hHi C
      obtain ⟨kG2, m1, m3, m4, ts2, jt2, rfl, hsz2, hts2⟩ := (hH _ _ _ _).mp hHi
      refine wpAny_execs_nil (hQ0 _ _ ⟨G2, h5, m5, _, tk5, rfl, C, (hJ _ _ _ _).mpr ⟨kG.tr kG2, m3, m4, ts2, jt2, rfl, ?_⟩⟩)
      rw [← GR.turnsOf_snoc] at hts2
      have e : (ns.map digs).take (i + 1) = (ns.map digs).take i ++ [digs (ns.getD i 0)] := by
        rw [List.take_add_one, hlI]
        rfl
      rw [e]
      exact hts2
  · rintro G' h3 m3' news tk3 hJi C
    obtain ⟨kG, m3, m4, ts, jt, rfl, hts⟩ := (hJ _ _ _ _).mp hJi
    refine hq G' h3 m3' tk3 ts jt kG C m4 ?_
    rw [List.take_of_length_le (by simp; omega)] at hts
    exact hts
end
end Mine
end C5_text
section C6_text
open PySem PySem.W PySem.Calls PyProof.Rows
set_option maxRecDepth 100000
namespace Mine

theorem sum_total (ns : List Nat) : ((List.range ns.length).map fun i => (((digs (ns.getD i 0)).length : Nat) : Int)).sum = ((GR.total (ns.map digs) : Nat) : Int) := by
  have e : ((List.range ns.length).map fun i => (((digs (ns.getD i 0)).length : Nat) : Int)) = ns.map fun n => (((digs n).length : Nat) : Int) := by
    have := congrArg (List.map fun n => (((digs n).length : Nat) : Int)) (map_getD_range 0 ns)
    rw [List.map_map] at this
    exact this
  rw [e]
  clear e
  induction ns with
  | nil => rfl
  | cons n ns ih =>
    unfold GR.total at *
    simp only [List.map_cons, List.sum_cons]
    rw [ih]
    omega
section
variable {prog : Program} {w : World} {A : Around} {E : Value → Shared → Prop} {s : Shared} {h : Heap} {tk : Nat}
/-- t[i] of a tuple -/
theorem zitemT {value slice : PySem.Expr} {t : Addr} {its : Array Value} {x : Int} {u : Tok} {v : Value} {Q : Value → Shared → Prop} (i : Nat) (ht : IsTup h t its) (hx : x = i) (hi : its[i]? = some v) (hi2 : i < 2 ^ 60) (hq : Q v (St s h tk))
    (hs : subscripted slice false (.ref t) (.int x u) = operate [.ref t, .int x u] (getItem (.ref t) (.int x u)) := by rfl) :
    wpAny (model prog w) A (subscriptTail value slice (.ref t) (.int x u)) Q E (St s h tk) := by
  subst hx
  have hlt := (Array.getElem?_eq_some_iff.mp hi).1
  refine tail_any (s := St s h tk) ht.typeIs PyProof.Rows.slot_tuple_getitem.lookup (PyProof.Rows.getItem_tuple (s := St s h tk) ht (by omega) (by omega) ?_ hi hq) hs
  unfold seqIndex?
  simp
  omega
end

/-- the rings of these numbers -/
theorem column_call {w : World} {A : Around} {s : Shared} {R : Result → Shared → Prop} {la : Addr} {vs : Array Value} {ns : List Nat} (hA : Room 330 A) (g : Good s.heap) (hla : s.heap.IsList la vs) (hvs : IntsAre vs.toList (zs ns))
    (hlen : ns.length ≤ 30) (hn : ∀ n ∈ ns, n < 64 ^ 40) (htot : GR.total (ns.map digs) ≤ 30)
    (h : ∀ a h' tk (T : List (List Int × Int)), Keep s.heap h' → s.heap.get? a = none → T.Perm (GR.turnsOf (ns.map digs) (2 * GR.total (ns.map digs))) → T.Pairwise (fun a b => GR.ltP b a = false) → Ints h' a (T.map (·.2)) → R (.ok (.ret (.ref a))) (St s h' tk)) :
    codeAny (model pw w) A (.call (.ref 177) ⟨[.ref la], []⟩) R s := by
  refine enter (binds := [("numbers", .ref la)]) (by unfold recursionLimit; have := hA.2.1; omega) g.lim g.f177 (fun _ _ _ _ _ => BindsTo.of_eq rfl) (by decide +kernel) (by simp; decide +kernel) rfl rfl rfl fun h₁ cd F => ?_
  have C := Cx.of_fr F
  have hA' := hA.deeper (envOf (sName (stm 22)) (sScope (stm 22)) s.heap.objs.size 177 cd)
  have hvl : vs.size = ns.length := by have := hvs.length; simpa using this
  refine wpAny_mono (E := fun _ _ => False) ?_ (fun _ _ x => x) fun _ _ x => x.elim
  refine wpAny_execs_cons (zAssignComp (zld (s := s) C (by walk_at "lk") ?_))
  refine zsrcList (s := s) hA'.1 C hla fun h2 tk2 I oI S C W hlive hfp hS => ?_
  refine zcompEndU (s := s) (fun _ => true) (fun G i v => ∃ a, v = .ref a ∧ Ints G a (digs (ns.getD i 0))) (fun _ _ _ _ k ⟨a, e, x⟩ => ⟨a, e, x.keeps k⟩) W hlive hfp C hS (by omega) (fun Cc => stepPlain fun i v G2 h3 tk3 m3 news3 E' hi hv kG C hm => ?_) fun D G2 h3 tk3 ys j kG C hys => ?_
  · obtain ⟨n, t, hn1, rfl⟩ := ints_nat hvs i v (by simpa using hv)
    have hgd : ns.getD i 0 = n := by simp [List.getD, hn1]
    refine zcall (s := s) (g.keeps kG) C.keep (g.keeps kG).f165 (args_cons (zldE C hm (args_nil ⟨C.keep, ?_⟩)))
    refine wpAny_call (figures_call (s := St s h3 tk3) (hA'.mono (by decide)) ((g.keeps kG).keeps C.keep) (hn n (List.mem_of_getElem? hn1)) fun a h4 tk4 k4 hn4 hi => ?_)
    obtain ⟨G4, C4, kG4, hold⟩ := C.freezeF k4
    obtain ⟨its, j, e, hi⟩ := hi
    exact ⟨G4, h4, tk4, _, rfl, kG4, C4, a, rfl, its, j, hold _ _ hn4 e, by rw [hgd]; exact hi⟩
  · obtain ⟨G3, C, kG3, hold⟩ := C.layN 1
    have hD := hold (D, listOf ys j) (by simp)
    have kk := kG.tr kG3
    have hysP : PySem.Paired (fun i v => ∃ a, v = .ref a ∧ Ints G3 a (digs (ns.getD i 0))) (List.range ns.length) ys.toList := by
      rw [took_all, hvl] at hys
      exact hys.mono fun _ _ ⟨a, e, x⟩ => ⟨a, e, x.keeps kG3⟩
    have hysz : ys.size = ns.length := by have := hysP.length; simpa using this.symm
    refine wpAny_execs_cons (wpAny_Assign_Name (zcallB (s := s) (g.keeps kk) C.keep (args_cons (zListComp (zld (s := s) C (by walk_at "lk") ?_)))))
    refine zsrcList (s := s) hA'.1 C (isList_of hD) fun h4 tk4 I2 oI2 S2 C W2 hlive2 hfp2 hS2 => ?_
    refine zcompEnd (s := s) (fun _ => true) (fun G i v => ∃ t, v = .int ((digs (ns.getD i 0)).length : Nat) t) (fun _ _ _ _ _ x => x) W2 hlive2 hfp2 C hS2 (by omega) (fun Cc => stepPlain fun i v G4 h5 tk5 m5 news5 E' hi hv kG4 C hm => ?_) fun D2 G4 h5 tk5 ys2 j2 kG4 C hys2 => ?_
    · obtain ⟨v', hv', a, rfl, its, jj, ha, hii⟩ := paired_at hysP i i (by rw [List.getElem?_range (by omega)])
      have e : ys.toList[i]? = ys[i]? := Array.getElem?_toList
      rw [e] at hv'
      have hv : ys[i]? = some v := hv
      rw [hv] at hv'
      cases hv'
      refine zcallB (s := s) ((g.keeps kk).keeps kG4) C.keep (args_cons (zldE C hm (args_nil (zlen_list (digs (ns.getD i 0)).length (isList_of (C.keep _ _ (kG4 _ _ ha))) (by simpa using hii.length) ?_ fun t6 tk6 => ⟨G4, h5, tk6, _, rfl, Keep.rfl', C, _, rfl⟩))))
      have hll : (digs (ns.getD i 0)).length ≤ GR.total (ns.map digs) := len_total (by
        have hil : i < ns.length := by omega
        refine List.mem_map.mpr ⟨ns.getD i 0, ?_, rfl⟩
        simp [List.getD, hil])
      omega
    · have hsum : ((List.range ns.length).map fun i => (((digs (ns.getD i 0)).length : Nat) : Int)).sum = ((GR.total (ns.map digs) : Nat) : Int) := by
        exact sum_total ns
      have hi2 : IntsAre ys2.toList ((List.range ns.length).map fun i => (((digs (ns.getD i 0)).length : Nat) : Int)) := by
        have := paired_ints hys2
        rw [took_all, hysz] at this
        exact this
      refine args_nil (zsum (s := s) hA'.1 (isList_of C.hd) hi2 fun h6 tk6 t6 k6 => ?_)
      have C := C.keeps k6
      rw [hsum]
      refine zst (s := s) C fun h7 tk7 C => ?_
      have C := C.dropN 1
      have kk2 := kk.tr kG4
      refine wpAny_execs_cons (wpAny_Assign_Name (List_ (args_nil (znewList (s := s) C fun lt h8 tk8 C => zst (s := s) C fun h9 tk9 C => ?_))))
      refine wpAny_execs_cons (col_turns (s := s) (D := D) (ys := ys) (ns := ns) (hA.deeper _) (g.keeps kk2) C (by walk_at "lk") (by walk_at "lk") (by walk_at "lk") ((isList_of hD).at fun o e => kG4 _ _ e) (hysP.mono fun _ _ ⟨a, e, x⟩ => ⟨a, e, x.keeps kG4⟩) hlen htot fun G5 h10 m10 tk10 ts jt kG5 C mt hts => ?_)
      have kk3 := kk2.tr kG5
      refine wpAny_execs_cons (wpAny_Return_some (zListComp ?_))
      refine zcallB (s := s) (g.keeps kk3) C.keep (args_cons (zld (s := s) C (by walk_at "lk") (args_nil ?_)))
      have htl : ts.toList.length = GR.total (ns.map digs) := by rw [hts.length, GR.turns_len]
      refine zsortedA (s := s) (vs := ts.toList) (by have := hA'.2.2; omega) C (isList_of C.hd) hts (by omega) fun D3 h11 tk11 j3 ys3 T C hT hP hys3 => ?_
      obtain ⟨G6, C, kG6, hold6⟩ := C.layN 1
      have hD3 := hold6 (D3, listOf ys3 j3) (by simp)
      have hys4 : PySem.Paired (TurnAt G6) ys3.toList T := hys3.mono fun _ _ x => x.keeps kG6
      have hTl : T.length = ys3.size := by have := hys4.length; simpa using this.symm
      have hTl2 : T.length = GR.total (ns.map digs) := by rw [hT.length_eq, GR.turns_len]
      refine zsrcList (s := s) hA'.1 C (isList_of hD3) fun h12 tk12 I3 oI3 S3 C W3 hlive3 hfp3 hS3 => ?_
      refine zcompEnd (s := s) (fun _ => true) (fun G i v => ∃ t, v = .int ((T.getD i ([], 0)).2) t) (fun _ _ _ _ _ x => x) W3 hlive3 hfp3 C hS3 (by omega) (fun Cc => stepPlain fun i v G7 h13 tk13 m13 news13 E' hi hv kG7 C hm => ?_) fun D4 G7 h13 tk13 ys4 j4 kG7 C hys5 => ?_
      · have hp := paired_getD Value.none ([], 0) hys4 i (by simpa using hi)
        have hv2 : ys3.toList.getD i Value.none = v := by
          have e : ys3.toList[i]? = ys3[i]? := Array.getElem?_toList
          simp only [List.getD, e, show ys3[i]? = some v from hv, Option.getD_some]
        rw [hv2] at hp
        obtain ⟨a, l, its, jj, t, nn, rfl, e2, e3, e4⟩ := hp
        refine Subscript_ (zldE C hm (zint fun _ _ => zitemT 1 ⟨_, C.keep _ _ (kG7 _ _ e2), rfl, _, rfl⟩ rfl rfl (by decide) ⟨G7, h13, _, _, rfl, Keep.rfl', C, _, rfl⟩))
      · have hints := paired_ints hys5
        rw [took_all, ← hTl] at hints
        have hmap : (List.range T.length).map (fun i => (T.getD i ([], 0)).2) = T.map (·.2) := by
          have := congrArg (List.map (·.2)) (map_getD_range ([], 0) T)
          rw [List.map_map] at this
          exact this
        rw [hmap] at hints
        have hk : Keep s.heap h13 := (((kk3.tr kG6).tr kG7).tr C.keep)
        refine h D4 h13 tk13 T hk ?_ hT hP ⟨ys4, j4, C.hd, hints⟩
        exact none_back ((kk3.tr kG6).tr kG7) C.hn
end Mine
end C6_text
section P1_text
open PySem PySem.W PySem.Calls PyProof.Rows
set_option maxRecDepth 100000
namespace Mine

noncomputable def sIf : Stmt → List Stmt
  | .If _ b _ _ => b
  | _ => []
section
variable {w : World} {A : Around} {s : Shared} {h G : Heap} {tk : Nat} {L : Addr} {cd : Value} {m : Str → Option Value} {news : List (Addr × Obj)} {R : Result → Shared → Prop}
noncomputable abbrev envP (L : Addr) (cd : Value) : Env := envOf (sName (stm 17)) (sScope (stm 17)) L 144 cd
noncomputable def b4 : List Stmt := sIf ((sBody (stm 17)).getD 6 (.Pass default))
noncomputable def b5 : List Stmt := (sBody (stm 17)).drop 7

set_option maxHeartbeats 4000000 in
theorem piece4 {n : Nat} {t : Tok} (C : Cx G L h m news) (h1 : m "which" = some (.int ((n / 6 : Nat) : Int) t)) (c4 : n % 6 = 4) 
    (fin : ∀ T h' tk t u, Keep G h' → G.get? T = none → h'.get? T = some (tupOf (pieceOf n).1 (pieceOf n).2 t u) → R (.ok (.ret (.ref T))) (St s h' tk)) :
    wpAny (model pw w) A (execs b4 (envP L cd)) (fun fl s' => ∃ v, fl = Flow.ret v ∧ R (.ok (.ret v)) s') (fun _ _ => False) (St s h tk) := by
  have kC := C.keep
  refine wpAny_execs_cons ?_
  refine wpAny_Assign_Name ?_ ?_
  rotate_left
  · exact swL
  with_reducible refine zListT (s := s) (ps := foldedL.map fun p => (sOf p.1, sOf p.2)) ?_ fun vs h2 tk2 k2 ht => ?_
  · decide +kernel
  obtain ⟨G4, C, kG4, hold⟩ := C.freezeF k2
  refine znewList (s := s) C (fun l h3 tk3 C => ?_) (by have := ht.length; rw [this, sizeLine_eq]; simp [foldedL])
  refine zst (s := s) C fun h4 tk4 C => ?_
  refine wpAny_execs_cons (wpAny_Return_some (Subscript_ (zld (s := s) C (by walk_at "lk") (wpAny_BinOp (zld (s := s) C (by walk_at "lk") (zint fun _ _ => zfmod (n / 6) 6 rfl rfl (by decide) fun _ _ => ?_))))))
  have hlt6 : n / 6 % 6 < 6 := Nat.mod_lt _ (by decide)
  have hp : pieceOf n = foldedL.getD (n / 6 % 6) ([], []) := by simp [pieceOf, c4]
  have hlt : n / 6 % 6 < foldedL.length := hlt6
  obtain ⟨T, t0, u0, e1, e2, e3⟩ := ht.at (n / 6 % 6) (sOf (pieceOf n).1, sOf (pieceOf n).2) (by
    rw [List.getElem?_map, hp, List.getD, List.getElem?_eq_getElem hlt]
    rfl)
  refine zitem (v := .ref T) (n / 6 % 6) (isList_of C.hd) rfl (by rw [← Array.getElem?_toList]; exact e1) (by omega) ?_
  exact ⟨_, rfl, fin T h4 _ t0 u0 (kG4.tr C.keep) (none_back kC e2) (C.keep _ _ (hold _ _ e2 e3))⟩

theorem items_ints {f : Nat → Int} {acc : Array Value} {n : Nat} (h : ItemsOf (fun i v => ∃ t, v = .int (f i) t) acc n) : IntsAre acc.toList ((List.range n).map f) := by
  have key : ∀ (l : List Value) (k : Nat), (∀ i v, l[i]? = some v → ∃ t, v = Value.int (f (k + i)) t) → IntsAre l ((List.range' k l.length).map f) := by
    intro l
    induction l with
    | nil => intro k _; exact .nil
    | cons v l ih =>
      intro k hk
      obtain ⟨t, rfl⟩ := hk 0 v rfl
      refine .cons _ t ?_
      refine ih (k + 1) fun i v hv => ?_
      obtain ⟨t, e⟩ := hk (i + 1) v (by simpa using hv)
      exact ⟨t, by rw [e]; congr 2; omega⟩
  have := key acc.toList 0 fun i v hv => by
    rw [Array.getElem?_toList] at hv
    obtain ⟨t, e⟩ := h.2 i v hv
    exact ⟨t, by rw [e, Nat.zero_add]⟩
  rw [Array.length_toList, h.1] at this
  rw [List.range_eq_range']
  exact this

theorem b1_at (i : Nat) (hi : i < 27) : ∃ c, (b1H.map (fun x : Nat => (x : Int)) ++ (List.range 16).map fun i : Nat => (65024 : Int) + (i : Int) * 1)[i]? = some ((c : Nat) : Int) ∧ b1N.getD i 0 = c ∧ c < 70000 := by
  refine ⟨b1N.getD i 0, ?_, rfl, ?_⟩
  · have : ∀ i : Nat, i < 27 → (b1H.map (fun x : Nat => (x : Int)) ++ (List.range 16).map fun i : Nat => (65024 : Int) + (i : Int) * 1)[i]? = some ((b1N.getD i 0 : Nat) : Int) := by decide +kernel
    exact this i hi
  · have : ∀ i : Nat, i < 27 → b1N.getD i 0 < 70000 := by decide +kernel
    exact this i hi

set_option maxHeartbeats 4000000 in
theorem piece5 {n : Nat} {t : Tok} (hA : A.handled = none) (g : Good G) (C : Cx G L h m news) (h1 : m "which" = some (.int ((n / 6 : Nat) : Int) t)) (c0 : n % 6 ≠ 0) (c1 : n % 6 ≠ 1) (c2 : n % 6 ≠ 2) (c3 : n % 6 ≠ 3) (c4 : n % 6 ≠ 4)
    (fin : ∀ T h' tk t u, Keep G h' → G.get? T = none → h'.get? T = some (tupOf (pieceOf n).1 (pieceOf n).2 t u) → R (.ok (.ret (.ref T))) (St s h' tk)) :
    wpAny (model pw w) A (execs b5 (envP L cd)) (fun fl s' => ∃ v, fl = Flow.ret v ∧ R (.ok (.ret v)) s') (fun _ _ => False) (St s h tk) := by
  refine wpAny_execs_cons ?_
  refine wpAny_Assign_Name ?_ ?_
  rotate_left
  · rfl
  refine wpAny_BinOp ?_
  with_reducible refine zListI (s := s) (ns := b1H.map fun x : Nat => (x : Int)) ?_ fun vs tk2 hvs => ?_
  · decide +kernel
  refine znewList (s := s) C (fun l1 h3 tk3 C => ?_) (by have := hvs.length; rw [this, sizeLine_eq]; simp [b1H])
  refine zcallT (s := s) g C.keep (args_cons (zcallT (s := s) g C.keep (args_cons (zint fun t1 tk4 => args_cons (zint fun t2 tk5 => args_nil ?_)))))
  refine call_range_2 (s := St s h3 _) (args_nil ?_)
  refine call_list_range (s := St s _ _) (n := 16) hA (Heap.get?_push_size _ rfl) (small_one (by omega) (by omega) (by omega) (by omega)) (by decide +kernel) (by decide) fun h6 tk6 acc c6 k6 hl6 hi6 => ?_
  have kp : Keep h3 h6 := fun b o e => k6 _ _ (Heap.get?_push_of_some _ e)
  have C := C.fresh (a := (h3.push { cls := .type "range", data := .fields #[.int 65024 t1, .int 65040 t2, .int 1 tk5] }).objs.size) (get_above (by rw [Heap.size_push]; exact Nat.le_succ _)) kp hl6
  have hl1 := C.led (l1, _) (.tail _ (.head _))
  have hi7 := items_ints (f := fun i : Nat => (65024 : Int) + (i : Int) * 1) hi6
  have hsz : vs.length = 11 := by have := hvs.length; rw [this]; rfl
  refine zadd_lists (s := s) C (isList_of hl1.1) (isList_of C.hd) (fun l7 h7 tk7 C => ?_) (by rw [hi6.1, List.size_toArray, hsz, sizeLine_eq]; decide)
  refine zst (s := s) C fun h8 tk8 C => ?_
  have hlt27 : n / 6 % 27 < 27 := Nat.mod_lt _ (by decide)
  obtain ⟨c, e1, e2, e3⟩ := b1_at _ hlt27
  obtain ⟨tc, hc⟩ := (ints_append hvs hi7).get (n / 6 % 27) (c : Int) e1
  have hp : pieceOf n = ([c], []) := by unfold pieceOf; rw [if_neg c0, if_neg c1, if_neg c2, if_neg c3, if_neg c4, e2]
  refine wpAny_execs_cons (wpAny_Return_some (ztupSS (s := s) (x := sOf [c]) (y := sOf []) C (fun Q tk hq => ?_) (fun Q tk hq => zstrE (by decide +kernel) hq) fun T h' tk' t u C => ?_))
  · refine zcallB (s := s) g C.keep (args_cons (Subscript_ (zld (s := s) C (by walk_at "lk") (wpAny_BinOp (zld (s := s) C (by walk_at "lk") (zint fun _ _ => zfmod (n / 6) 27 rfl rfl (by decide) fun _ _ => ?_))))))
    refine zitem (v := .int (c : Int) tc) (n / 6 % 27) (isList_of C.hd) rfl (by rw [← Array.getElem?_toList]; exact hc) (by omega) (args_nil ?_)
    refine chr_of_range (by omega) (by omega) ?_
    rw [Int.toNat_natCast]
    exact hq _ _
  · have := fin T h' tk' t u C.keep C.hn
    rw [hp] at this
    exact ⟨_, rfl, this C.hd⟩
end
end Mine
end P1_text
section P2_text
open PySem PySem.W PySem.Calls PyProof.Rows
set_option maxRecDepth 100000
namespace Mine
set_option maxHeartbeats 4000000 in
theorem piece_call {w : World} {A : Around} {s : Shared} {R : Result → Shared → Prop} {n : Nat} {t : Tok} (hA : Room 340 A) (g : Good s.heap)
    (h : ∀ T h' tk t u, Keep s.heap h' → s.heap.get? T = none → h'.get? T = some (tupOf (pieceOf n).1 (pieceOf n).2 t u) → R (.ok (.ret (.ref T))) (St s h' tk)) :
    codeAny (model pw w) A (.call (.ref 144) ⟨[.int n t], []⟩) R s := by
  refine enter (binds := [("number", .int n t)]) (by unfold recursionLimit; have := hA.2.1; omega) g.lim g.f144 (fun _ _ _ _ _ => BindsTo.of_eq rfl) (by decide +kernel) (by simp; decide +kernel) rfl rfl rfl fun h₁ cd F => ?_
  have C := Cx.of_fr F
  have hA' := hA.deeper (envOf (sName (stm 17)) (sScope (stm 17)) s.heap.objs.size 144 cd)
  refine wpAny_mono (E := fun _ _ => False) ?_ (fun _ _ x => x) fun _ _ x => x.elim
  refine wpAny_hideQ fun Q0 hQ0 => ?_
  have fin : ∀ (a b : List Nat) (m : Str → Option Value) (news : List (Addr × Obj)) (T : Addr) (h' : Heap) (tk' : Nat) (t u : Tok), pieceOf n = (a, b) → Cx s.heap s.heap.objs.size h' m ((T, tupOf a b t u) :: news) → Q0 (.ret (.ref T)) (St s h' tk') := by
    intro a b m news T h' tk' t u e C
    refine hQ0 _ _ (h T h' tk' t u C.keep C.hn ?_)
    rw [e]
    exact C.hd
  refine wpAny_execs_cons (wpAny_Assign_Name (wpAny_BinOp (zld (s := s) C (by walk_at "lk") (zint fun _ _ => zfdiv n 6 rfl rfl (by decide) (by decide) fun t8 _ => zst (s := s) C fun h2 tk2 C => ?_))))
  refine wpAny_execs_cons (wpAny_If (wpAny_isTrue_Compare1 (wpAny_BinOp (zld (s := s) C (by walk_at "lk") (zint fun _ _ => zfmod n 6 rfl rfl (by decide) fun _ _ => zint fun _ _ => eq_int (wpAny_truthy_bool ?_))))))
  by_cases c0 : n % 6 = 0
  · rw [show ((((n % 6 : Nat) : Int)) == 0) = true by simp [c0]]
    refine ite_tt (wpAny_execs_cons (wpAny_Return_some (ztupSS (s := s) (x := sOf [46]) (y := sOf [46]) C (fun Q tk hq => zstrE (by decide +kernel) hq) (fun Q tk hq => zstrE (by decide +kernel) hq) fun T h' tk' t u C => ?_)))
    exact fin [46] [46] _ _ T h' tk' t u (by simp [pieceOf, c0]) C
  rw [show ((((n % 6 : Nat) : Int)) == 0) = false by rw [beq_eq_false_iff_ne]; omega]
  refine ite_ff (wpAny_execs_nil ?_)
  refine wpAny_execs_cons (wpAny_If (wpAny_isTrue_Compare1 (wpAny_BinOp (zld (s := s) C (by walk_at "lk") (zint fun _ _ => zfmod n 6 rfl rfl (by decide) fun _ _ => zint fun _ _ => eq_int (wpAny_truthy_bool ?_))))))
  by_cases c1 : n % 6 = 1
  · rw [show ((((n % 6 : Nat) : Int)) == 1) = true by simp [c1]]
    refine ite_tt (wpAny_execs_cons (wpAny_Assign_Name (Subscript_ (List_ (args_cons (zstrE (s := s) (y := sOf [10]) (by decide +kernel) fun t0 _ => args_cons (zstrE (s := s) (y := sOf [13]) (by decide +kernel) fun t1 _ => args_cons (zstrE (s := s) (y := sOf [13, 10]) (by decide +kernel) fun t2 _ => args_nil (znewList (s := s) C fun l h3 tk3 C => ?_)))))))))
    refine wpAny_BinOp (zld (s := s) C (by walk_at "lk") (zint fun _ _ => zfmod (n / 6) 3 rfl rfl (by decide) fun _ _ => ?_))
    have hlt : n / 6 % 3 < 3 := Nat.mod_lt _ (by decide)
    obtain ⟨te, he⟩ : ∃ te, (#[Value.str (sOf [10]) t0, .str (sOf [13]) t1, .str (sOf [13, 10]) t2])[n / 6 % 3]? = some (.str (sOf (endsL.getD (n / 6 % 3) [])) te) := by
      rcases (by omega : n / 6 % 3 = 0 ∨ n / 6 % 3 = 1 ∨ n / 6 % 3 = 2) with e | e | e <;> rw [e] <;> exact ⟨_, rfl⟩
    refine zitem (n / 6 % 3) (isList_of C.hd) rfl he (by omega) (zst (s := s) C fun h4 tk4 C => ?_)
    refine wpAny_execs_cons (wpAny_Return_some (ztupSS (s := s) C (fun Q tk hq => zld C (by walk_at "lk") (hq _ _)) (fun Q tk hq => zld C (by walk_at "lk") (hq _ _)) fun T h' tk' t u C => ?_))
    exact fin _ _ _ _ T h' tk' t u (by simp [pieceOf, c1]) C
  rw [show ((((n % 6 : Nat) : Int)) == 1) = false by rw [beq_eq_false_iff_ne]; omega]
  refine ite_ff (wpAny_execs_nil ?_)
  have hlt4 : n / 6 % 4 < 4 := Nat.mod_lt _ (by decide)
  have hfist : (sOf fistL).cps[n / 6 % 4]? = some (fistL.getD (n / 6 % 4) 0) := by
    rcases (by omega : n / 6 % 4 = 0 ∨ n / 6 % 4 = 1 ∨ n / 6 % 4 = 2 ∨ n / 6 % 4 = 3) with e | e | e | e <;> rw [e] <;> rfl
  have hfl : fistL.getD (n / 6 % 4) 0 < 128 := by
    rcases (by omega : n / 6 % 4 = 0 ∨ n / 6 % 4 = 1 ∨ n / 6 % 4 = 2 ∨ n / 6 % 4 = 3) with e | e | e | e <;> rw [e] <;> decide
  refine wpAny_execs_cons (wpAny_Assign_Name (Subscript_ (zstrE (s := s) (y := sOf fistL) (by decide +kernel) fun tf _ => wpAny_BinOp (zld (s := s) C (by walk_at "lk") (zint fun _ _ => zfmod (n / 6) 4 rfl rfl (by decide) fun _ _ => zitemS (n / 6 % 4) rfl hfist (by omega) fun tl tkl => zst (s := s) C fun h5 tk5 C => ?_)))))
  refine wpAny_execs_cons (wpAny_If (wpAny_isTrue_Compare1 (wpAny_BinOp (zld (s := s) C (by walk_at "lk") (zint fun _ _ => zfmod n 6 rfl rfl (by decide) fun _ _ => zint fun _ _ => eq_int (wpAny_truthy_bool ?_))))))
  by_cases c2 : n % 6 = 2
  · rw [show ((((n % 6 : Nat) : Int)) == 2) = true by simp [c2]]
    refine ite_tt (wpAny_execs_cons (wpAny_Return_some (ztupSS (s := s) C (fun Q tk hq => zld C (by walk_at "lk") (hq _ _)) (fun Q tk hq => zld C (by walk_at "lk") (hq _ _)) fun T h' tk' t u C => ?_)))
    exact fin [_] [_] _ _ T h' tk' t u (by simp [pieceOf, c2]) C
  rw [show ((((n % 6 : Nat) : Int)) == 2) = false by rw [beq_eq_false_iff_ne]; omega]
  refine ite_ff (wpAny_execs_nil ?_)
  refine wpAny_execs_cons (wpAny_If (wpAny_isTrue_Compare1 (wpAny_BinOp (zld (s := s) C (by walk_at "lk") (zint fun _ _ => zfmod n 6 rfl rfl (by decide) fun _ _ => zint fun _ _ => eq_int (wpAny_truthy_bool ?_))))))
  by_cases c3 : n % 6 = 3
  · rw [show ((((n % 6 : Nat) : Int)) == 3) = true by simp [c3]]
    with_reducible refine ite_tt ?_
    with_reducible refine wpAny_execs_cons ?_
    with_reducible refine wpAny_Assign_Name ?_ ?_
    rotate_left
    · exact swL
    with_reducible refine zListI (s := s) (ns := capsL.map fun x : Nat => (x : Int)) ?_ fun vs tkv hvs => ?_
    · decide +kernel
    refine znewList (s := s) C (fun l h6 tk6 C => ?_) (by have := hvs.length; rw [this, sizeLine_eq]; simp [capsL])
    refine zst (s := s) C fun h7 tk7 C => ?_
    have hlt11 : n / 6 / 4 % 11 < 11 := Nat.mod_lt _ (by decide)
    obtain ⟨tc, hcap⟩ := hvs.get (n / 6 / 4 % 11) ((capsL.getD (n / 6 / 4 % 11) 0 : Nat) : Int) (by
      rw [List.getElem?_map, List.getElem?_eq_getElem (show n / 6 / 4 % 11 < capsL.length from hlt11)]
      simp [List.getD, show n / 6 / 4 % 11 < capsL.length from hlt11])
    have hcl : 65 ≤ capsL.getD (n / 6 / 4 % 11) 0 ∧ capsL.getD (n / 6 / 4 % 11) 0 < 1000000 := by
      have : ∀ i, i < 11 → 65 ≤ capsL.getD i 0 ∧ capsL.getD i 0 < 1000000 := by decide
      exact this _ hlt11
    have hfl2 : 97 ≤ fistL.getD (n / 6 % 4) 0 := by
      have : ∀ i, i < 4 → 97 ≤ fistL.getD i 0 := by decide
      exact this _ hlt4
    refine wpAny_execs_cons (wpAny_Return_some (ztupSS (s := s) (x := sOf [capsL.getD (n / 6 / 4 % 11) 0 + fistL.getD (n / 6 % 4) 0 - 97]) C (fun Q tk hq => ?_) (fun Q tk hq => zld C (by walk_at "lk") (hq _ _)) fun T h' tk' t u C => ?_))
    · refine zcallB (s := s) g C.keep (args_cons (wpAny_BinOp (wpAny_BinOp (Subscript_ (zld (s := s) C (by walk_at "lk") (wpAny_BinOp (wpAny_BinOp (zld (s := s) C (by walk_at "lk") (zint fun _ _ => zfdiv (n / 6) 4 rfl rfl (by decide) (by decide) fun _ _ => zint fun _ _ => zfmod (n / 6 / 4) 11 rfl rfl (by decide) fun _ _ => ?_)))))))))
      refine zitem (v := .int ((capsL.getD (n / 6 / 4 % 11) 0 : Nat) : Int) tc) (n / 6 / 4 % 11) (isList_of (C.led (l, listOf vs.toArray 0) (by simp)).1) rfl (by rw [← Array.getElem?_toList]; exact hcap) (by omega) ?_
      refine zcallB (s := s) g C.keep (args_cons (zld (s := s) C (by walk_at "lk") (args_nil (P.ord_of_char ?_))))
      refine zadd (s := s) (h := h7) ((capsL.getD (n / 6 / 4 % 11) 0 + fistL.getD (n / 6 % 4) 0 : Nat) : Int) (by omega) fun _ _ => zint fun _ _ => zsub ((capsL.getD (n / 6 / 4 % 11) 0 + fistL.getD (n / 6 % 4) 0 - 97 : Nat) : Int) (by omega) fun _ _ => args_nil ?_
      refine chr_of_range (by omega) (by omega) ?_
      rw [Int.toNat_natCast]
      exact hq _ _
    · exact fin [_] [_] _ _ T h' tk' t u (by simp [pieceOf, c3]) C
  rw [show ((((n % 6 : Nat) : Int)) == 3) = false by rw [beq_eq_false_iff_ne]; omega]
  refine ite_ff (wpAny_execs_nil ?_)
  refine wpAny_execs_cons (wpAny_If (wpAny_isTrue_Compare1 (wpAny_BinOp (zld (s := s) C (by walk_at "lk") (zint fun _ _ => zfmod n 6 rfl rfl (by decide) fun _ _ => zint fun _ tk9 => eq_int (wpAny_truthy_bool ?_))))))
  have mw : (fun y => if y = Str.ofString "letter" then some (Value.str { cps := #[fistL.getD (n / 6 % 4) 0] } tl) else (fun y => if y = Str.ofString "which" then some (Value.int ((n / 6 : Nat) : Int) t8) else List.lookup y (List.reverse [(Str.ofString "number", Value.int (↑n) t)])) y) (Str.ofString "which") = some (Value.int ((n / 6 : Nat) : Int) t8) := by walk_at "lk"
  have hh := hA'.1
  by_cases c4 : n % 6 = 4
  · rw [show ((((n % 6 : Nat) : Int)) == 4) = true by simp [c4]]
    with_reducible refine ite_tt ?_
    show wpAny _ _ (execs b4 (envP _ cd)) _ _ _
    with_reducible refine wpAny_mono (piece4 (R := R) C mw c4 h) ?_ ?_
    · rintro fl s' ⟨v, rfl, x⟩
      exact hQ0 (.ret v) _ x
    · exact fun _ _ x => x
  rw [show ((((n % 6 : Nat) : Int)) == 4) = false by rw [beq_eq_false_iff_ne]; omega]
  with_reducible refine ite_ff (wpAny_execs_nil ?_)
  show wpAny _ _ (execs b5 (envP _ cd)) _ _ _
  with_reducible refine wpAny_mono (piece5 (R := R) hh g C mw c0 c1 c2 c3 c4 h) ?_ ?_
  · rintro fl s' ⟨v, rfl, x⟩
    exact hQ0 (.ret v) _ x
  · exact fun _ _ x => x
end Mine
end P2_text
section Q0_text
open PySem PySem.W PySem.Calls PyProof.Rows
set_option maxRecDepth 100000
namespace Mine

theorem picked_take (n k : Nat) (hk : k ≤ n) : PySem.Builtin.Str.strSliceIndices none (some (k : Int)) 1 n = List.range k := by
  unfold PySem.Builtin.Str.strSliceIndices sliceRange
  have h0 : ¬ ((k : Int) < 0) := by omega
  have e : max 0 (min (k : Int) (n : Int)) = (k : Int) := by omega
  simp only [h0, if_false, show (1 : Int) > 0 from by decide, if_true, e]
  by_cases hz : (0 : Int) < (k : Int)
  · rw [if_pos hz]
    have e2 : (((k : Int) - 0 + 1 - 1) / 1).toNat = k := by omega
    rw [e2]
    refine (List.map_congr_left fun i _ => ?_).trans (List.map_id _)
    show (0 + 1 * (i : Int)).toNat = i
    omega
  · rw [if_neg hz]
    have : k = 0 := by omega
    subst this
    rfl
theorem picked_last (n : Nat) : PySem.Builtin.Str.strSliceIndices (some (-1)) none 1 n = if n = 0 then [] else [n - 1] := by
  unfold PySem.Builtin.Str.strSliceIndices sliceRange
  simp only [show ((-1 : Int) < 0) from by decide, if_true, show (1 : Int) > 0 from by decide]
  by_cases hn : n = 0
  · subst hn
    rfl
  · rw [if_neg hn]
    have e : max 0 (min (-1 + (n : Int)) (n : Int)) = ((n - 1 : Nat) : Int) := by omega
    rw [e, if_pos (by omega)]
    have e2 : (((n : Int) - ((n - 1 : Nat) : Int) + 1 - 1) / 1).toNat = 1 := by omega
    rw [e2]
    show [(((n - 1 : Nat) : Int) + 1 * ((0 : Nat) : Int)).toNat] = [n - 1]
    congr 1
theorem fm_range {α : Type} (l : List α) (k : Nat) (hk : k ≤ l.length) : (List.range k).filterMap (l[·]?) = l.take k := by
  induction k with
  | zero => rfl
  | succ k ih =>
    rw [List.range_succ, List.filterMap_append, ih (by omega), List.take_add_one]
    simp [List.getElem?_eq_getElem (show k < l.length by omega)]

section
variable {prog : Program} {w : World} {A : Around} {E : Value → Shared → Prop} {s : Shared} {h0 : Heap} {tk0 : Nat} {env : Env}
theorem keep_push (h : Heap) (o : Obj) : Keep h (h.push o) := fun _ _ e => Heap.get?_push_of_some _ e
/-- x[:k] -/
theorem zsliceTo {value e : PySem.Expr} {p pos : Pos} {Q : Value → Shared → Prop}
    (h : wpAny (model prog w) A (eval value env) (fun o s₁ => wpAny (model prog w) A (eval e env) (fun vu s₂ => ∃ (h : Heap) (tk : Nat) (xs : List Nat) (t : Tok) (k : Nat) (u : Tok), o = .str (sOf xs) t ∧ vu = .int (k : Int) u ∧ k ≤ xs.length ∧ xs.length ≤ 1000 ∧ s₂ = St s h tk ∧
      ∀ h' tk' t', Keep h h' → Q (.str (sOf (xs.take k)) t') (St s h' tk')) E s₁) E (St s h0 tk0))
    (ht : ∀ o r, letTemporaryGo value o r = pure () := by intro _ _; rfl) :
    wpAny (model prog w) A (eval (.Subscript value (.Slice none (some e) none p) pos) env) Q E (St s h0 tk0) := by
  refine wpAny_Subscript_str_slice ?_ ht
  refine wpAny_mono h (fun o s₁ h₁ => ?_) fun _ _ x => x
  refine evalPart_none_step ?_
  rw [evalPart_some]
  refine wpAny_mono h₁ (fun vu s₂ h₂ => ?_) fun _ _ x => x
  obtain ⟨h, tk, xs, t, k, u, rfl, rfl, hk, hl, rfl, hq⟩ := h₂
  refine ⟨sOf xs, t, none, some ((k : Int), u), rfl, rfl, rfl, ?_⟩
  have ep : slicePicked (sOf xs) none (some ((k : Int), u)) none = List.range k := picked_take _ _ (by simpa [Str.length] using hk)
  unfold sliceMade
  rw [ep]
  have es : (⟨((List.range k).filterMap ((sOf xs).cps[·]?)).toArray⟩ : Str) = sOf (xs.take k) := by
    have : (List.range k).filterMap ((sOf xs).cps[·]?) = xs.take k := by
      rw [← fm_range xs k hk]
      congr 1
      funext i
      simp
    rw [this]
  rw [es]
  by_cases hc : ((Option.map (fun x : Int × Tok => x.1) none).getD 1 == 1 && (List.range k).length == (sOf xs).length) = true
  · rw [if_pos hc]
    have hkl : k = xs.length := by simpa [Str.length] using hc
    subst hkl
    have := hq (h.push { cls := .type "slice", data := .fields #[partValue none, partValue (some ((xs.length : Int), u)), .none] }) tk t (keep_push _ _)
    rw [List.take_length] at this
    exact this
  · rw [if_neg hc]
    exact ⟨by show (xs.take k).toArray.size ≤ _; rw [List.size_toArray, List.length_take, sizeLine_eq]; omega, hq _ _ _ (keep_push _ _)⟩
/-- x[-1:] -/
theorem zsliceLast {value e : PySem.Expr} {p pos : Pos} {Q : Value → Shared → Prop}
    (h : wpAny (model prog w) A (eval value env) (fun o s₁ => wpAny (model prog w) A (eval e env) (fun vl s₂ => ∃ (h : Heap) (tk : Nat) (xs : List Nat) (t : Tok) (u : Tok), o = .str (sOf xs) t ∧ vl = .int (-1) u ∧ s₂ = St s h tk ∧
      ∀ h' tk' t', Keep h h' → Q (.str (sOf (xs.drop (xs.length - 1))) t') (St s h' tk')) E s₁) E (St s h0 tk0)) :
    wpAny (model prog w) A (eval (.Subscript value (.Slice (some e) none none p) pos) env) Q E (St s h0 tk0) := by
  refine Subscript_ ?_
  refine wpAny_mono h (fun o s₁ h₁ => ?_) fun _ _ x => x
  refine wpAny_Slice ?_
  rw [evalPart_some]
  refine wpAny_mono h₁ (fun vl s₂ h₂ => ?_) fun _ _ x => x
  obtain ⟨h, tk, xs, t, u, rfl, rfl, rfl, hq⟩ := h₂
  refine evalPart_none_step (evalPart_none_step ?_)
  refine kba_turn (value' := PySem.Expr.Name "x" ⟨0, 0, 0, 0⟩) (fun _ => rfl) ?_
  refine tail_any (typeIs_str _ _ _) PyProof.Rows.slot_str_getitem.lookup (wpAny_getItem_str_slice (l := some (-1, u)) (u := none) (st := none) ⟨_, Heap.get?_push_size _ rfl, rfl, rfl⟩ rfl ?_) rfl
  have ep : slicePicked (sOf xs) (some (-1, u)) none none = if xs.length = 0 then [] else [xs.length - 1] := by
    exact picked_last xs.length
  unfold sliceMade
  rw [ep]
  have es : (⟨((if xs.length = 0 then [] else [xs.length - 1]).filterMap ((sOf xs).cps[·]?)).toArray⟩ : Str) = sOf (xs.drop (xs.length - 1)) := by
    have : (if xs.length = 0 then [] else [xs.length - 1]).filterMap ((sOf xs).cps[·]?) = xs.drop (xs.length - 1) := by
      by_cases hn : xs.length = 0
      · have : xs = [] := List.eq_nil_of_length_eq_zero hn
        subst this
        rfl
      · rw [if_neg hn]
        have hlt : xs.length - 1 < xs.length := by omega
        rw [List.drop_eq_getElem_cons hlt, List.drop_of_length_le (by omega)]
        simp [hlt]
    rw [this]
  rw [es]
  by_cases hc : ((Option.map (fun x : Int × Tok => x.1) none).getD 1 == 1 && (if xs.length = 0 then [] else [xs.length - 1]).length == (sOf xs).length) = true
  · rw [if_pos hc]
    have hd : xs.drop (xs.length - 1) = xs := by
      have : xs.length ≤ 1 := by
        by_cases hn : xs.length = 0
        · omega
        · simp [Str.length, hn] at hc
          omega
      rw [show xs.length - 1 = 0 by omega, List.drop_zero]
    have := hq (h.push { cls := .type "slice", data := .fields #[partValue (some (-1, u)), partValue none, .none] }) tk t (keep_push _ _)
    rw [hd] at this
    exact this
  · rw [if_neg hc]
    refine ⟨by show (xs.drop (xs.length - 1)).toArray.size ≤ _; rw [List.size_toArray, List.length_drop, sizeLine_eq]; omega, hq _ _ _ (keep_push _ _)⟩
theorem sOf_append (a b : List Nat) : sOf a ++ sOf b = sOf (a ++ b) := by
  show (⟨a.toArray ++ b.toArray⟩ : Str) = _
  simp
/-- x + y of texts -/
theorem zaddS {h : Heap} {tk : Nat} {a b : List Nat} {t u : Tok} {Q : Value → Shared → Prop} (hl : a.length + b.length ≤ 1000) (hq : ∀ t' tk', Q (.str (sOf (a ++ b)) t') (St s h tk')) :
    wpAny (model prog w) A (binaryOp .Add (.str (sOf a) t) (.str (sOf b) u)) Q E (St s h tk) := by
  refine PySem.P.add_str (s := St s h tk) ?_
  have la : (sOf a).length = a.length := by simp [Str.length]
  have lb : (sOf b).length = b.length := by simp [Str.length]
  rw [la, lb]
  by_cases h1 : (a.length == 0) = true
  · rw [if_pos h1]
    have : a = [] := List.eq_nil_of_length_eq_zero (by simpa using h1)
    subst this
    exact hq _ _
  · rw [if_neg h1]
    by_cases h2 : (b.length == 0) = true
    · rw [if_pos h2]
      have : b = [] := List.eq_nil_of_length_eq_zero (by simpa using h2)
      subst this
      have := hq t tk
      rw [List.append_nil] at this
      exact this
    · rw [if_neg h2, sOf_append]
      refine ⟨?_, hq _ _⟩
      show (a ++ b).toArray.size ≤ _
      rw [List.size_toArray, List.length_append, sizeLine_eq]
      omega
theorem zlen_str {h : Heap} {tk : Nat} {x : List Nat} {t : Tok} {Q : Value → Shared → Prop} (hl : x.length ≤ 1000) (hq : ∀ t' tk', Q (.int (x.length : Nat) t') (St s h tk')) :
    wpAny (model prog w) A (call (.builtin "len") [.str (sOf x) t]) Q E (St s h tk) := by
  have la : (sOf x).length = x.length := by simp [Str.length]
  refine PySem.P.len_str (s := St s h tk) (by rw [la]; omega) ?_
  rw [la]
  exact hq _ _
theorem zeqS {h : Heap} {tk : Nat} {x y : List Nat} {t u : Tok} {Q : Value → Shared → Prop} (hq : Q (.bool (x == y)) (St s h tk)) :
    wpAny (model prog w) A (compareOp .Eq (.str (sOf x) t) (.str (sOf y) u)) Q E (St s h tk) := PySem.P.eq_str (s := St s h tk) (by simpa using hq)
theorem zneS {h : Heap} {tk : Nat} {x y : List Nat} {t u : Tok} {Q : Value → Shared → Prop} (hq : Q (.bool (x != y)) (St s h tk)) :
    wpAny (model prog w) A (compareOp .NotEq (.str (sOf x) t) (.str (sOf y) u)) Q E (St s h tk) := PySem.P.ne_str (s := St s h tk) (by simpa using hq)
end

/-- what _law_sent tells of the sign c behind the signs ahead -/
noncomputable def sentOf (ahead : List Nat) (c : Nat) : List Nat :=
  if c = 13 ∨ (c = 10 ∧ ahead ≠ [13]) then [13, 10]
  else if c = 46 ∧ (ahead = [] ∨ ahead = [13] ∨ ahead = [10]) then [46, 46]
  else if c ≠ 10 then [c]
  else []
noncomputable def aheadOf (l : List Nat) (k : Nat) : List Nat := (l.take k).drop ((l.take k).length - 1)
noncomputable def sentTo (l : List Nat) : Nat → List Nat
  | 0 => []
  | k + 1 => sentTo l k ++ sentOf (aheadOf l k) (l.getD k 0)
noncomputable def sentAll (l : List Nat) : List Nat := sentTo l l.length
theorem sentOf_len (a : List Nat) (c : Nat) : (sentOf a c).length ≤ 2 := by
  unfold sentOf
  split
  · simp
  · split
    · simp
    · split <;> simp
theorem sentTo_len (l : List Nat) (k : Nat) : (sentTo l k).length ≤ 2 * k := by
  induction k with
  | zero => simp [sentTo]
  | succ k ih =>
    have := sentOf_len (aheadOf l k) (l.getD k 0)
    simp only [sentTo, List.length_append]
    omega
end Mine
end Q0_text
section Q1_text
open PySem PySem.W PySem.Calls PyProof.Rows
set_option maxRecDepth 100000
namespace Mine

noncomputable def sFor : Stmt → List Stmt
  | .For _ _ b _ _ => b
  | _ => []
noncomputable def sElse : Stmt → List Stmt
  | .If _ _ b _ => b
  | _ => []
noncomputable def e18 : List Stmt := sElse ((sFor ((sBody (stm 18)).getD 1 (.Pass default))).getD 1 (.Pass default))
noncomputable def f18 : List Stmt := sElse (e18.getD 0 (.Pass default))
noncomputable def b18 : List Stmt := sFor ((sBody (stm 18)).getD 1 (.Pass default))
section
variable {w : World} {A : Around} {s : Shared} {h G : Heap} {tk : Nat} {L : Addr} {cd : Value} {m : Str → Option Value} {news : List (Addr × Obj)} {R : Result → Shared → Prop}
noncomputable abbrev env18 (L : Addr) (cd : Value) : Env := envOf (sName (stm 18)) (sScope (stm 18)) L 151 cd

/-- plain[k] -/
theorem zat18 {xs : List Nat} {k : Nat} {t u : Tok} {p1 p2 p3 : Pos} {Q : Value → Shared → Prop} {E : Value → Shared → Prop} (C : Cx G L h m news) (h1 : m "plain" = some (.str (sOf xs) t)) (h2 : m "k" = some (.int (k : Int) u)) (hk : k < xs.length) (hl : xs.length ≤ 1000)
    (hq : ∀ t' tk', Q (.str (sOf [xs.getD k 0]) t') (St s h tk')) : wpAny (model pw w) A (eval (.Subscript (.Name "plain" p1) (.Name "k" p2) p3) (env18 L cd)) Q E (St s h tk) := by
  refine Subscript_ (zld (s := s) C h1 (zld (s := s) C h2 (zitemS (c := xs.getD k 0) k rfl ?_ (by omega) hq)))
  show xs.toArray[k]? = _
  simp [List.getD, hk]

set_option maxHeartbeats 1000000 in
theorem sent_turn {xs told : List Nat} {k : Nat} {t u v : Tok} (C : Cx G L h m news) (h1 : m "plain" = some (.str (sOf xs) t)) (h2 : m "k" = some (.int (k : Int) u)) (h3 : m "told" = some (.str (sOf told) v))
    (hk : k < xs.length) (hl : xs.length ≤ 100) (ht : told.length ≤ 2 * k) :
    wpAny (model pw w) A (execs b18 (env18 L cd)) (fun fl s' => fl = .next ∧ ∃ h' tk' m' v', s' = St s h' tk' ∧ Cx G L h' m' news ∧ m' "plain" = some (.str (sOf xs) t) ∧ m' "told" = some (.str (sOf (told ++ sentOf (aheadOf xs k) (xs.getD k 0))) v')) (fun _ _ => False) (St s h tk) := by
  obtain ⟨Q1, hQ1⟩ : ∃ Q1 : Shared → Prop, ∀ s', Q1 s' ↔ (∃ h' tk' m' v', s' = St s h' tk' ∧ Cx G L h' m' news ∧ m' "plain" = some (.str (sOf xs) t) ∧ m' "told" = some (.str (sOf (told ++ sentOf (aheadOf xs k) (xs.getD k 0))) v')) := ⟨_, fun _ => Iff.rfl⟩
  refine wpAny_mono (Q := fun fl s' => fl = Flow.next ∧ Q1 s') (E := fun _ _ => False) ?_ (fun fl s' q => ⟨q.1, (hQ1 s').mp q.2⟩) (fun _ _ x => x)
  refine wpAny_execs_cons (wpAny_Assign_Name (zsliceLast (zsliceTo (zld (s := s) C h1 (zld (s := s) C h2 ⟨h, _, xs, t, k, u, rfl, rfl, by omega, by omega, rfl, fun h2 tk2 t2 k2 => ?_⟩)))))
  have C := C.keeps k2
  refine UnaryOp_ (zint fun t3 tk3 => PyProof.Rows.neg_int (s := St s h2 tk3) ⟨h2, _, xs.take k, t2, _, rfl, rfl, rfl, fun h4 tk4 t4 k4 => ?_⟩)
  have C := C.keeps k4
  refine zst (s := s) C fun h5 tk5 C => ?_
  have ea : (xs.take k).drop ((xs.take k).length - 1) = aheadOf xs k := rfl
  rw [ea] at C
  generalize hah : aheadOf xs k = ah at *
  have fin : ∀ (add : List Nat) (h' : Heap) (tk' : Nat) (m' : Str → Option Value) (v' : Tok), Cx G L h' m' news → m' "plain" = some (.str (sOf xs) t) → m' "told" = some (.str (sOf (told ++ add)) v') → add = sentOf ah (xs.getD k 0) →
      (Flow.next = Flow.next ∧ Q1 (St s h' tk')) := by
    rintro add h' tk' m' v' C a b rfl
    exact ⟨rfl, (hQ1 _).mpr ⟨h', tk', m', v', rfl, C, a, b⟩⟩
  generalize hc : xs.getD k 0 = c at *
  have zc : ∀ {h : Heap} {m : Str → Option Value} (C : Cx G L h m news) (h1 : m "plain" = some (.str (sOf xs) t)) (h2 : m "k" = some (.int (k : Int) u)) (tk : Nat) (p1 p2 p3 : Pos) (Q : Value → Shared → Prop) (E : Value → Shared → Prop),
      (∀ t' tk', Q (.str (sOf [c]) t') (St s h tk')) → wpAny (model pw w) A (eval (.Subscript (.Name "plain" p1) (.Name "k" p2) p3) (env18 L cd)) Q E (St s h tk) := by
    intro h m C h1 h2 tk p1 p2 p3 Q E hq
    subst hc
    exact zat18 C h1 h2 hk (by omega) hq
  refine wpAny_execs_cons (wpAny_If (wpAny_isTrue_BoolOp (wpAny_allTrue_Or_cons (wpAny_isTrue_Compare1 (zc C (by walk_at "lk") (by walk_at "lk") _ _ _ _ _ _ fun t6 tk6 => zstrE (s := s) (y := sOf [13]) (by decide +kernel) fun t7 tk7 => zeqS (wpAny_truthy_bool ?_))))))
  by_cases c13 : c = 13
  · rw [show (([c] == [13]) = true) by simp [c13]]
    refine ite_tt (ite_tt ?_)
    refine wpAny_execs_cons (wpAny_Assign_Name (wpAny_BinOp (zld (s := s) C (by walk_at "lk") (zstrE (s := s) (y := sOf [13, 10]) (by decide +kernel) fun t8 tk8 => zaddS (by simp; omega) fun t9 tk9 => zst (s := s) C fun h9 tk9 C => ?_))))
    refine wpAny_execs_nil (wpAny_execs_nil ?_)
    exact fin _ _ _ _ _ C (by walk_at "lk") (by walk_at "lk") (by simp [sentOf, c13])
  rw [show (([c] == [13]) = false) by simp [c13]]
  refine ite_ff ?_
  refine wpAny_allTrue_Or_cons (wpAny_isTrue_BoolOp (wpAny_allTrue_And_cons (wpAny_isTrue_Compare1 (zc C (by walk_at "lk") (by walk_at "lk") _ _ _ _ _ _ fun t6 tk6 => zstrE (s := s) (y := sOf [10]) (by decide +kernel) fun t7 tk7 => zeqS (wpAny_truthy_bool ?_)))))
  -- what stands behind «or»
  have orelse : ∀ tk, ¬ (c = 10 ∧ ah ≠ [13]) → wpAny (model pw w) A (execs e18 (env18 L cd)) (fun fl s' => fl = Flow.next ∧ Q1 s') (fun _ _ => False) (St s h5 tk) := by
    intro tk hno
    refine wpAny_execs_cons (wpAny_If (wpAny_isTrue_BoolOp (wpAny_allTrue_And_cons (wpAny_isTrue_Compare1 (zc C (by walk_at "lk") (by walk_at "lk") _ _ _ _ _ _ fun t6 tk6 => zstrE (s := s) (y := sOf [46]) (by decide +kernel) fun t7 tk7 => zeqS (wpAny_truthy_bool ?_))))))
    have last : ∀ tk, ¬ (c = 46 ∧ (ah = [] ∨ ah = [13] ∨ ah = [10])) → ∀ h5, Cx G L h5 (fun y => if y = Str.ofString "ahead" then some (Value.str (sOf ah) t4) else m y) news → wpAny (model pw w) A (execs f18 (env18 L cd)) (fun fl s' => fl = Flow.next ∧ Q1 s') (fun _ _ => False) (St s h5 tk) := by
      intro tk hno2 h5 C
      refine wpAny_execs_cons (wpAny_If (wpAny_isTrue_Compare1 (zc C (by walk_at "lk") (by walk_at "lk") _ _ _ _ _ _ fun t6 tk6 => zstrE (s := s) (y := sOf [10]) (by decide +kernel) fun t7 tk7 => zneS (wpAny_truthy_bool ?_))))
      by_cases c10 : c = 10
      · rw [show (([c] != [10]) = false) by simp [c10]]
        refine ite_ff (wpAny_execs_nil (wpAny_execs_nil ?_))
        have e : sentOf ah c = [] := by
          unfold sentOf
          rw [if_neg (fun q => q.elim c13 hno), if_neg hno2, if_neg (by simp [c10])]
        refine fin [] _ _ _ v C (by walk_at "lk") ?_ e.symm
        rw [List.append_nil]
        walk_at "lk"
      · rw [show (([c] != [10]) = true) by simp [c10]]
        refine ite_tt (wpAny_execs_cons (wpAny_Assign_Name (wpAny_BinOp (zld (s := s) C (by walk_at "lk") (zc C (by walk_at "lk") (by walk_at "lk") _ _ _ _ _ _ fun t8 tk8 => zaddS (by simp; omega) fun t9 tk9 => zst (s := s) C fun h9 tk9 C => ?_)))))
        refine wpAny_execs_nil (wpAny_execs_nil ?_)
        refine fin _ _ _ _ _ C (by walk_at "lk") (by walk_at "lk") ?_
        unfold sentOf
        rw [if_neg (fun q => q.elim c13 hno), if_neg hno2, if_pos c10]
    by_cases c46 : c = 46
    · rw [show (([c] == [46]) = true) by simp [c46]]
      refine ite_tt (wpAny_allTrue_And_cons (wpAny_isTrue_Compare1 (zld (s := s) C (by walk_at "lk") (List_ (args_cons (zstrE (s := s) (y := sOf []) (by decide +kernel) fun t10 _ => args_cons (zstrE (s := s) (y := sOf [13]) (by decide +kernel) fun t11 _ => args_cons (zstrE (s := s) (y := sOf [10]) (by decide +kernel) fun t12 _ => args_nil (znewList (s := s) C fun l6 h6 tk6 C => ?_)))))))))
      refine in_list_strs (s := St s h6 tk6) (vs := [.str (sOf []) t10, .str (sOf [13]) t11, .str (sOf [10]) t12]) (ys := [sOf [], sOf [13], sOf [10]]) (isList_of C.hd) (.cons _ _ (.cons _ _ (.cons _ _ .nil))) (wpAny_truthy_bool ?_)
      have C := C.tail
      by_cases ha : ah = [] ∨ ah = [13] ∨ ah = [10]
      · rw [show ([sOf [], sOf [13], sOf [10]].any (· == sOf ah)) = true by rcases ha with q | q | q <;> subst q <;> decide +kernel]
        refine ite_tt (wpAny_allTrue_And_nil (ite_tt ?_))
        refine wpAny_execs_cons (wpAny_Assign_Name (wpAny_BinOp (zld (s := s) C (by walk_at "lk") (zstrE (s := s) (y := sOf [46, 46]) (by decide +kernel) fun t8 tk8 => zaddS (by simp; omega) fun t9 tk9 => zst (s := s) C fun h9 tk9 C => ?_))))
        refine wpAny_execs_nil (wpAny_execs_nil ?_)
        refine fin _ _ _ _ _ C (by walk_at "lk") (by walk_at "lk") ?_
        unfold sentOf
        rw [if_neg (fun q => q.elim c13 hno), if_pos ⟨c46, ha⟩]
      · rw [show ([sOf [], sOf [13], sOf [10]].any (· == sOf ah)) = false by
          rw [List.any_eq_false]
          intro y hy q
          have e : y = sOf ah := by simpa using q
          simp only [List.mem_cons, List.not_mem_nil, or_false] at hy
          rcases hy with r | r | r <;> rw [e] at r <;> simp at r <;> simp [r] at ha]
        refine ite_ff (ite_ff ?_)
        show wpAny _ _ (execs f18 _) _ _ _
        have nn : ¬ (c = 46 ∧ (ah = [] ∨ ah = [13] ∨ ah = [10])) := fun q => ha q.2
        with_reducible refine wpAny_mono (last _ nn _ C) ?_ (fun _ _ x => x)
        rintro fl s' ⟨rfl, x⟩
        exact wpAny_execs_nil ⟨rfl, x⟩
    · rw [show (([c] == [46]) = false) by simp [c46]]
      refine ite_ff (ite_ff ?_)
      show wpAny _ _ (execs f18 _) _ _ _
      have nn : ¬ (c = 46 ∧ (ah = [] ∨ ah = [13] ∨ ah = [10])) := fun q => c46 q.1
      with_reducible refine wpAny_mono (last _ nn _ C) ?_ (fun _ _ x => x)
      rintro fl s' ⟨rfl, x⟩
      exact wpAny_execs_nil ⟨rfl, x⟩
  by_cases c10 : c = 10
  · rw [show (([c] == [10]) = true) by simp [c10]]
    refine ite_tt (wpAny_allTrue_And_cons (wpAny_isTrue_Compare1 (zld (s := s) C (by walk_at "lk") (zstrE (s := s) (y := sOf [13]) (by decide +kernel) fun t8 tk8 => zneS (wpAny_truthy_bool ?_)))))
    by_cases a13 : ah = [13]
    · rw [show ((ah != [13]) = false) by simp [a13]]
      refine ite_ff (ite_ff (wpAny_allTrue_Or_nil (ite_ff ?_)))
      show wpAny _ _ (execs e18 _) _ _ _
      have nn : ¬ (c = 10 ∧ ah ≠ [13]) := fun q => q.2 a13
      with_reducible refine wpAny_mono (orelse _ nn) ?_ (fun _ _ x => x)
      rintro fl s' ⟨rfl, x⟩
      exact wpAny_execs_nil ⟨rfl, x⟩
    · rw [show ((ah != [13]) = true) by simp [a13]]
      refine ite_tt (wpAny_allTrue_And_nil (ite_tt (ite_tt ?_)))
      refine wpAny_execs_cons (wpAny_Assign_Name (wpAny_BinOp (zld (s := s) C (by walk_at "lk") (zstrE (s := s) (y := sOf [13, 10]) (by decide +kernel) fun t8 tk8 => zaddS (by simp; omega) fun t9 tk9 => zst (s := s) C fun h9 tk9 C => ?_))))
      refine wpAny_execs_nil (wpAny_execs_nil ?_)
      exact fin _ _ _ _ _ C (by walk_at "lk") (by walk_at "lk") (by simp [sentOf, c10, a13])
  · rw [show (([c] == [10]) = false) by simp [c10]]
    refine ite_ff (ite_ff (wpAny_allTrue_Or_nil (ite_ff ?_)))
    show wpAny _ _ (execs e18 _) _ _ _
    have nn : ¬ (c = 10 ∧ ah ≠ [13]) := fun q => c10 q.1
    with_reducible refine wpAny_mono (orelse _ nn) ?_ (fun _ _ x => x)
    rintro fl s' ⟨rfl, x⟩
    exact wpAny_execs_nil ⟨rfl, x⟩
end
end Mine
end Q1_text
section Q2_text
open PySem PySem.W PySem.Calls PyProof.Rows
set_option maxRecDepth 100000
namespace Mine

theorem sent_call {w : World} {A : Around} {s : Shared} {R : Result → Shared → Prop} {xs : List Nat} {t : Tok} (hA : Room 340 A) (g : Good s.heap) (hl : xs.length ≤ 100)
    (h : ∀ h' tk t', Keep s.heap h' → R (.ok (.ret (.str (sOf (sentAll xs)) t'))) (St s h' tk)) :
    codeAny (model pw w) A (.call (.ref 151) ⟨[.str (sOf xs) t], []⟩) R s := by
  refine enter (binds := [("plain", .str (sOf xs) t)]) (by unfold recursionLimit; have := hA.2.1; omega) g.lim g.f151 (fun _ _ _ _ _ => BindsTo.of_eq rfl) (by decide +kernel) (by simp; decide +kernel) rfl rfl rfl fun h₁ cd F => ?_
  have C := Cx.of_fr F
  have hA' := hA.deeper (env18 s.heap.objs.size cd)
  refine wpAny_mono (E := fun _ _ => False) ?_ (fun _ _ x => x) fun _ _ x => x.elim
  refine wpAny_execs_cons (wpAny_Assign_Name (zstrE (s := s) (y := sOf []) (by decide +kernel) fun t1 tk1 => zst (s := s) C fun h2 tk2 C => ?_))
  refine wpAny_execs_cons (wpAny_For (zcallT (s := s) g C.keep (args_cons (zcallB (s := s) g C.keep (args_cons (zld (s := s) C (by walk_at "lk") (args_nil (zlen_str (by omega) fun t3 tk3 => args_nil ?_))))))))
  refine zrange1 (s := s) xs.length C rfl (by omega) fun h4 tk4 I C => ?_
  refine zforRange (s := s) (env := env18 s.heap.objs.size cd) 0 xs.length (fun i G m news => G = s.heap ∧ news = [] ∧ m "plain" = some (.str (sOf xs) t) ∧ ∃ v, m "told" = some (.str (sOf (sentTo xs i)) v)) hA'.1 C ⟨rfl, rfl, by walk_at "lk", _, by walk_at "lk"⟩ ?_ ?_
  · rintro i G h5 m5 news tk5 t5 hi ⟨rfl, rfl, m1, v, m2⟩ C
    show wpAny _ _ (execs b18 _) _ _ _
    have h1 := sent_turn (w := w) (s := s) (cd := cd) (A := A.deeper (env18 s.heap.objs.size cd)) (tk := tk5) C ((if_neg (by decide)).trans m1) (if_pos rfl) ((if_neg (by decide)).trans m2) (by omega) hl (by have := sentTo_len xs i; omega)
    refine wpAny_mono h1 ?_ (fun _ _ x => x)
    rintro fl s' ⟨rfl, h6, tk6, m6, v6, rfl, C6, a, b⟩
    rw [Nat.zero_add] at b
    exact ⟨s.heap, h6, m6, [], tk6, rfl, C6, rfl, rfl, a, v6, b⟩
  · rintro G h5 m5 news tk5 ⟨rfl, rfl, m1, v, m2⟩ C
    refine wpAny_execs_cons (wpAny_Return_some (zld (s := s) C m2 ?_))
    exact h _ _ _ C.keep
end Mine
end Q2_text
section R0_text
open PySem
set_option maxRecDepth 100000
namespace Mine.RX
open PySem.Sre

theorem runFor_succ (n : Nat) (m : M) : M.runFor (n + 1) m = if m.outcome.isSome then m else M.runFor n m.step := rfl
theorem runFor_add : ∀ (a b : Nat) (m : M), M.runFor (a + b) m = M.runFor b (M.runFor a m)
  | 0, b, m => by rw [Nat.zero_add]; rfl
  | a + 1, b, m => by
    rw [show a + 1 + b = a + b + 1 by omega, runFor_succ, runFor_succ]
    by_cases h : m.outcome.isSome = true
    · rw [if_pos h, if_pos h]
      cases b with
      | zero => rfl
      | succ b => rw [runFor_succ, if_pos h]
    · rw [if_neg h, if_neg h]
      exact runFor_add a b m.step
theorem runFor_stop {m : M} (h : m.outcome.isSome = true) : ∀ n, M.runFor n m = m
  | 0 => rfl
  | n + 1 => by rw [runFor_succ, if_pos h]

noncomputable def code1 : Array Nat := #[14, 4, 0, 1, 1, 6, 1, 16, 46, 1]
noncomputable def code2 : Array Nat := #[14, 9, 4, 1, 2, 16, 10, 16, 13, 0, 7, 7, 16, 13, 16, 10, 15, 18, 5, 16, 10, 15, 13, 11, 16, 13, 5, 5, 0, 16, 10, 1, 15, 2, 0, 1]

/-- a search is done -/
noncomputable def Ends (m : M) (r : Option (Nat × Nat)) (k : Nat) : Prop := ∃ n, n ≤ k ∧ match r with
  | some (a, b) => (M.runFor n m).outcome = some .matched ∧ (M.runFor n m).start = a ∧ (M.runFor n m).handed = b
  | none => (M.runFor n m).outcome = some .failed
theorem Ends.after {m m' : M} {r : Option (Nat × Nat)} {k j : Nat} (h : M.runFor j m = m') (e : Ends m' r k) : Ends m r (j + k) := by
  obtain ⟨n, hn, e⟩ := e
  refine ⟨j + n, by omega, ?_⟩
  rw [runFor_add, h]
  exact e
theorem Ends.le {m : M} {r : Option (Nat × Nat)} {k j : Nat} (e : Ends m r k) (h : k ≤ j) : Ends m r j := by
  obtain ⟨n, hn, e⟩ := e
  exact ⟨n, by omega, e⟩

/-- the first pattern stands at s -/
noncomputable def s1 (text : Array Nat) (lim s : Nat) (first must : Bool) (seen : Seen) : M :=
  { code := code1, text, lim, start := s, lastStart := lim, mustAdvance := must, pc := 5, pos := s, handed := s, outermost := first, marks := #[], lastmark := -1, lastindex := -1,
    frames := [{ wait := .nextStart, pc := 5, pos := s, outermost := first }], weight := 1, seen }
theorem s1_at (text : Array Nat) (lim s : Nat) (first must : Bool) (seen : Seen) :
    (s1 text lim s first must seen).step = if (s == 0 || text.getD (s - 1) 0 == 10) = true then { s1 text lim s first must ((seen.add 6).add 44) with pc := 7 } else { s1 text lim s first must ((seen.add 6).add 44) with answer := some false } := rfl
theorem s1_lit (text : Array Nat) (lim s : Nat) (first must : Bool) (seen : Seen) :
    ({ s1 text lim s first must seen with pc := 7 } : M).step = if s ≥ lim then { s1 text lim s first must (seen.add 16) with pc := 7, answer := some false } else
      (match (text.getD s 0 == 46) with
      | false => { s1 text lim s first must (seen.add 16) with pc := 7, answer := some false }
      | true => { s1 text lim s first must (seen.add 16) with pc := 9, pos := s + 1 }) := by
  cases h : (text.getD s 0 == 46)
  · show (if s ≥ lim then _ else match (Except.ok (text.getD s 0 == 46, seen.add 16) : Except String (Bool × Seen)) with
      | .error why => _
      | .ok (false, seen) => _
      | .ok (true, seen) => _) = _
    rw [h]
    rfl
  · show (if s ≥ lim then _ else match (Except.ok (text.getD s 0 == 46, seen.add 16) : Except String (Bool × Seen)) with
      | .error why => _
      | .ok (false, seen) => _
      | .ok (true, seen) => _) = _
    rw [h]
    rfl
theorem s1_fail (text : Array Nat) (lim s pc : Nat) (first must : Bool) (seen : Seen) (h : s < lim) :
    ({ s1 text lim s first must seen with pc, answer := some false } : M).step = s1 text lim (s + 1) false false seen := by
  show (if s < lim then s1 text lim (s + 1) false false seen else _) = _
  rw [if_pos h]
theorem s1_last (text : Array Nat) (lim s pc : Nat) (first must : Bool) (seen : Seen) (h : ¬ s < lim) :
    (M.runFor 2 ({ s1 text lim s first must seen with pc, answer := some false } : M)).outcome = some .failed := by
  have e : ({ s1 text lim s first must seen with pc, answer := some false } : M).step = { s1 text lim s first must seen with frames := [], weight := 0, answer := some false } := by
    show (if s < lim then _ else { s1 text lim s first must seen with frames := [], weight := 0, answer := some false }) = _
    rw [if_neg h]
  rw [runFor_succ]
  show (M.runFor 1 (M.step _)).outcome = _
  rw [e]
  rfl
theorem s1_good (text : Array Nat) (lim s : Nat) (first : Bool) (seen : Seen) :
    (M.runFor 3 ({ s1 text lim s first false seen with pc := 9, pos := s + 1 } : M)).outcome = some .matched ∧ (M.runFor 3 ({ s1 text lim s first false seen with pc := 9, pos := s + 1 } : M)).start = s ∧
      (M.runFor 3 ({ s1 text lim s first false seen with pc := 9, pos := s + 1 } : M)).handed = s + 1 := by
  cases first <;> exact ⟨rfl, rfl, rfl⟩

theorem run1 {m : M} (h : m.outcome = none) : M.runFor 1 m = m.step := by rw [runFor_succ, h]; rfl
noncomputable def hit1 (text : Array Nat) (s : Nat) : Bool := (s == 0 || text.getD (s - 1) 0 == 10) && text.getD s 0 == 46
noncomputable def find1 (text : Array Nat) : Nat → Nat → Option (Nat × Nat)
  | 0, _ => none
  | d + 1, s => if hit1 text s = true then some (s, s + 1) else find1 text d (s + 1)
theorem ends1 (text : Array Nat) (lim : Nat) : ∀ (d s : Nat) (first : Bool) (seen : Seen), s + d = lim → Ends (s1 text lim s first false seen) (find1 text d s) (5 * d + 5)
  | d, s, first, seen, hd => by
    have a1 := s1_at text lim s first false seen
    by_cases hat : (s == 0 || text.getD (s - 1) 0 == 10) = true
    · rw [if_pos hat] at a1
      refine (Ends.after (j := 1) ((run1 rfl).trans a1) (k := 5 * d + 4) ?_).le (by omega)
      have a2 := s1_lit text lim s first false ((seen.add 6).add 44)
      cases d with
      | zero =>
        rw [if_pos (by omega)] at a2
        refine (Ends.after (j := 1) ((run1 rfl).trans a2) (k := 2) ?_).le (by omega)
        exact ⟨2, by omega, s1_last _ _ _ _ _ _ _ (by omega)⟩
      | succ d =>
        rw [if_neg (by omega)] at a2
        cases hc : (text.getD s 0 == 46) with
        | false =>
          rw [hc] at a2
          refine (Ends.after (j := 1) ((run1 rfl).trans a2) (k := 5 * d + 6) ?_).le (by omega)
          refine (Ends.after (j := 1) ((run1 rfl).trans (s1_fail _ _ _ _ _ _ _ (by omega))) (k := 5 * d + 5) ?_).le (by omega)
          have : find1 text (d + 1) s = find1 text d (s + 1) := by
            show (if hit1 text s = true then _ else _) = _
            rw [if_neg]
            unfold hit1
            rw [hc]
            simp
          rw [this]
          exact ends1 text lim d (s + 1) false _ (by omega)
        | true =>
          rw [hc] at a2
          refine (Ends.after (j := 1) ((run1 rfl).trans a2) (k := 3) ?_).le (by omega)
          have : find1 text (d + 1) s = some (s, s + 1) := by
            show (if hit1 text s = true then _ else _) = _
            rw [if_pos]
            unfold hit1
            rw [hc, hat]
            rfl
          rw [this]
          exact ⟨3, by omega, s1_good _ _ _ _ _⟩
    · rw [if_neg hat] at a1
      refine (Ends.after (j := 1) ((run1 rfl).trans a1) (k := 5 * d + 3) ?_).le (by omega)
      cases d with
      | zero => exact ⟨2, by omega, s1_last _ _ _ _ _ _ _ (by omega)⟩
      | succ d =>
        refine (Ends.after (j := 1) ((run1 rfl).trans (s1_fail _ _ _ _ _ _ _ (by omega))) (k := 5 * d + 5) ?_).le (by omega)
        have : find1 text (d + 1) s = find1 text d (s + 1) := by
          show (if hit1 text s = true then _ else _) = _
          rw [if_neg]
          unfold hit1
          intro q
          rw [Bool.and_eq_true] at q
          exact hat q.1
        rw [this]
        exact ends1 text lim d (s + 1) false _ (by omega)
/-- the first pattern's search -/
theorem search1 (text : Array Nat) (lim s : Nat) (h : s ≤ lim) : Ends (forSearch code1 text 0 s lim false) (find1 text (lim - s) s) (5 * (lim - s) + 5) := by
  by_cases h1 : lim - s < 1
  · have e : lim - s = 0 := by omega
    have : forSearch code1 text 0 s lim false = (if (decide (s > lim) || decide (lim - s < 1)) = true then ({ s1 text lim s true false (({} : Seen).add 14) with frames := [], weight := 0, lastStart := 0 } : M).say false else _) := rfl
    rw [this, if_pos (by simp [h1]), e]
    exact ⟨1, by omega, rfl⟩
  · have : forSearch code1 text 0 s lim false = (if (decide (s > lim) || decide (lim - s < 1)) = true then _ else s1 text lim s true false (({} : Seen).add 14)) := rfl
    rw [this, if_neg (by simp; omega)]
    exact ends1 text lim (lim - s) s true _ (by omega)
end Mine.RX
end R0_text
section R1_text
open PySem
set_option maxRecDepth 100000
namespace Mine.RX
open PySem.Sre

/-- the second pattern's machine -/
noncomputable def g (text : Array Nat) (lim s pc pos handed : Nat) (om : Bool) (frames : List Sre.Frame) (weight : Nat) (seen : Seen) (answer : Option Bool) : M :=
  { code := code2, text, lim, start := s, lastStart := lim, pc, pos, handed, outermost := om, marks := #[], lastmark := -1, lastindex := -1, frames, weight, seen, answer }
noncomputable def nS (s : Nat) (first : Bool) : Sre.Frame := { wait := .nextStart, pc := 10, pos := s, outermost := first }
noncomputable def nB (alt s : Nat) (first : Bool) : Sre.Frame := { wait := .nextBranch, pc := alt, pos := s, outermost := first, kept := { lastmark := -1, lastindex := -1, whole := false, marks := #[] } }
noncomputable def lN (p : Nat) (first : Bool) : Sre.Frame := { wait := .lookNot, pc := 26, pos := p, outermost := first, kept := { lastmark := -1, lastindex := -1, whole := false, marks := #[] } }
section
variable (text : Array Nat) (lim s pos handed weight : Nat) (om : Bool) (frames : List Sre.Frame) (seen : Seen)
theorem lit12_yes (h : pos < lim) (hc : text.getD pos 0 = 13) : (g text lim s 12 pos handed om frames weight seen none).step = g text lim s 14 (pos + 1) handed om frames weight (seen.add 16) none := by
  show (if pos ≥ lim then _ else match (Except.ok (text.getD pos 0 == 13, seen.add 16) : Except String (Bool × Seen)) with
    | .error why => _
    | .ok (false, seen) => _
    | .ok (true, seen) => _) = _
  rw [if_neg (by omega), show (text.getD pos 0 == 13) = true by simp [hc]]
  rfl
theorem lit12_no (h : ¬ (pos < lim ∧ text.getD pos 0 = 13)) : (g text lim s 12 pos handed om frames weight seen none).step = g text lim s 12 pos handed om frames weight (seen.add 16) (some false) := by
  show (if pos ≥ lim then g text lim s 12 pos handed om frames weight (seen.add 16) (some false) else match (Except.ok (text.getD pos 0 == 13, seen.add 16) : Except String (Bool × Seen)) with
    | .error why => _
    | .ok (false, seen) => _
    | .ok (true, seen) => _) = _
  by_cases hp : pos ≥ lim
  · rw [if_pos hp]
  · rw [if_neg hp, show (text.getD pos 0 == 13) = false by rw [beq_eq_false_iff_ne]; exact fun q => h ⟨by omega, q⟩]
    rfl
theorem lit14_yes (h : pos < lim) (hc : text.getD pos 0 = 10) : (g text lim s 14 pos handed om frames weight seen none).step = g text lim s 16 (pos + 1) handed om frames weight (seen.add 16) none := by
  show (if pos ≥ lim then _ else match (Except.ok (text.getD pos 0 == 10, seen.add 16) : Except String (Bool × Seen)) with
    | .error why => _
    | .ok (false, seen) => _
    | .ok (true, seen) => _) = _
  rw [if_neg (by omega), show (text.getD pos 0 == 10) = true by simp [hc]]
  rfl
theorem lit14_no (h : ¬ (pos < lim ∧ text.getD pos 0 = 10)) : (g text lim s 14 pos handed om frames weight seen none).step = g text lim s 14 pos handed om frames weight (seen.add 16) (some false) := by
  show (if pos ≥ lim then g text lim s 14 pos handed om frames weight (seen.add 16) (some false) else match (Except.ok (text.getD pos 0 == 10, seen.add 16) : Except String (Bool × Seen)) with
    | .error why => _
    | .ok (false, seen) => _
    | .ok (true, seen) => _) = _
  by_cases hp : pos ≥ lim
  · rw [if_pos hp]
  · rw [if_neg hp, show (text.getD pos 0 == 10) = false by rw [beq_eq_false_iff_ne]; exact fun q => h ⟨by omega, q⟩]
    rfl
theorem lit19_yes (h : pos < lim) (hc : text.getD pos 0 = 10) : (g text lim s 19 pos handed om frames weight seen none).step = g text lim s 21 (pos + 1) handed om frames weight (seen.add 16) none := by
  show (if pos ≥ lim then _ else match (Except.ok (text.getD pos 0 == 10, seen.add 16) : Except String (Bool × Seen)) with
    | .error why => _
    | .ok (false, seen) => _
    | .ok (true, seen) => _) = _
  rw [if_neg (by omega), show (text.getD pos 0 == 10) = true by simp [hc]]
  rfl
theorem lit19_no (h : ¬ (pos < lim ∧ text.getD pos 0 = 10)) : (g text lim s 19 pos handed om frames weight seen none).step = g text lim s 19 pos handed om frames weight (seen.add 16) (some false) := by
  show (if pos ≥ lim then g text lim s 19 pos handed om frames weight (seen.add 16) (some false) else match (Except.ok (text.getD pos 0 == 10, seen.add 16) : Except String (Bool × Seen)) with
    | .error why => _
    | .ok (false, seen) => _
    | .ok (true, seen) => _) = _
  by_cases hp : pos ≥ lim
  · rw [if_pos hp]
  · rw [if_neg hp, show (text.getD pos 0 == 10) = false by rw [beq_eq_false_iff_ne]; exact fun q => h ⟨by omega, q⟩]
    rfl
theorem lit24_yes (h : pos < lim) (hc : text.getD pos 0 = 13) : (g text lim s 24 pos handed om frames weight seen none).step = g text lim s 26 (pos + 1) handed om frames weight (seen.add 16) none := by
  show (if pos ≥ lim then _ else match (Except.ok (text.getD pos 0 == 13, seen.add 16) : Except String (Bool × Seen)) with
    | .error why => _
    | .ok (false, seen) => _
    | .ok (true, seen) => _) = _
  rw [if_neg (by omega), show (text.getD pos 0 == 13) = true by simp [hc]]
  rfl
theorem lit24_no (h : ¬ (pos < lim ∧ text.getD pos 0 = 13)) : (g text lim s 24 pos handed om frames weight seen none).step = g text lim s 24 pos handed om frames weight (seen.add 16) (some false) := by
  show (if pos ≥ lim then g text lim s 24 pos handed om frames weight (seen.add 16) (some false) else match (Except.ok (text.getD pos 0 == 13, seen.add 16) : Except String (Bool × Seen)) with
    | .error why => _
    | .ok (false, seen) => _
    | .ok (true, seen) => _) = _
  by_cases hp : pos ≥ lim
  · rw [if_pos hp]
  · rw [if_neg hp, show (text.getD pos 0 == 13) = false by rw [beq_eq_false_iff_ne]; exact fun q => h ⟨by omega, q⟩]
    rfl
theorem lit29_yes (h : pos < lim) (hc : text.getD pos 0 = 10) : (g text lim s 29 pos handed om frames weight seen none).step = g text lim s 31 (pos + 1) handed om frames weight (seen.add 16) none := by
  show (if pos ≥ lim then _ else match (Except.ok (text.getD pos 0 == 10, seen.add 16) : Except String (Bool × Seen)) with
    | .error why => _
    | .ok (false, seen) => _
    | .ok (true, seen) => _) = _
  rw [if_neg (by omega), show (text.getD pos 0 == 10) = true by simp [hc]]
  rfl
theorem lit29_no (h : ¬ (pos < lim ∧ text.getD pos 0 = 10)) : (g text lim s 29 pos handed om frames weight seen none).step = g text lim s 29 pos handed om frames weight (seen.add 16) (some false) := by
  show (if pos ≥ lim then g text lim s 29 pos handed om frames weight (seen.add 16) (some false) else match (Except.ok (text.getD pos 0 == 10, seen.add 16) : Except String (Bool × Seen)) with
    | .error why => _
    | .ok (false, seen) => _
    | .ok (true, seen) => _) = _
  by_cases hp : pos ≥ lim
  · rw [if_pos hp]
  · rw [if_neg hp, show (text.getD pos 0 == 10) = false by rw [beq_eq_false_iff_ne]; exact fun q => h ⟨by omega, q⟩]
    rfl
end
theorem good35 (text : Array Nat) (lim s pos handed : Nat) (alt : Nat) (first : Bool) (seen : Seen) (r : Option (Nat × Nat)) (hr : r = some (s, pos)) : Ends (g text lim s 35 pos handed first [nB alt s first, nS s first] 2 seen none) r 4 := by
  subst hr
  cases first <;> exact ⟨4, by omega, rfl, rfl, rfl⟩
noncomputable def find2At (text : Array Nat) (lim s : Nat) : Nat × Nat := (s, if text.getD s 0 = 13 ∧ s + 1 < lim ∧ text.getD (s + 1) 0 = 10 then s + 2 else s + 1)
theorem at2 (text : Array Nat) (lim s : Nat) (first : Bool) (seen : Seen) (hs : s < lim) (hc : text.getD s 0 = 10 ∨ text.getD s 0 = 13) :
    Ends (g text lim s 10 s s first [nS s first] 1 seen none) (some (find2At text lim s)) 30 := by
  refine (Ends.after (j := 1) (m' := g text lim s 12 s s first [nB 11 s first, nS s first] 2 _ none) rfl (k := 29) ?_)
  by_cases h13 : text.getD s 0 = 13
  · refine (Ends.after (j := 1) ((run1 rfl).trans (lit12_yes _ _ _ _ _ _ _ _ _ hs h13)) (k := 28) ?_)
    by_cases h10 : s + 1 < lim ∧ text.getD (s + 1) 0 = 10
    · refine (Ends.after (j := 1) ((run1 rfl).trans (lit14_yes _ _ _ _ _ _ _ _ _ h10.1 h10.2)) (k := 27) ?_)
      refine (Ends.after (j := 1) (m' := g text lim s 35 (s + 1 + 1) s first [nB 11 s first, nS s first] 2 _ none) rfl (k := 26) ?_)
      exact (good35 _ _ _ _ _ _ _ _ _ (by unfold find2At; rw [if_pos ⟨h13, h10⟩])).le (by omega)
    · refine (Ends.after (j := 1) ((run1 rfl).trans (lit14_no _ _ _ _ _ _ _ _ _ h10)) (k := 27) ?_)
      refine (Ends.after (j := 1) (m' := g text lim s 19 s s first [nB 18 s first, nS s first] 2 _ none) rfl (k := 26) ?_)
      refine (Ends.after (j := 1) ((run1 rfl).trans (lit19_no _ _ _ _ _ _ _ _ _ (by rw [h13]; omega))) (k := 25) ?_)
      refine (Ends.after (j := 1) (m' := g text lim s 24 s s first [nB 23 s first, nS s first] 2 _ none) rfl (k := 24) ?_)
      refine (Ends.after (j := 1) ((run1 rfl).trans (lit24_yes _ _ _ _ _ _ _ _ _ hs h13)) (k := 23) ?_)
      refine (Ends.after (j := 1) (m' := g text lim s 29 (s + 1) (s + 1) false [lN (s + 1) first, nB 23 s first, nS s first] 3 _ none) rfl (k := 22) ?_)
      refine (Ends.after (j := 1) ((run1 rfl).trans (lit29_no _ _ _ _ _ _ _ _ _ h10)) (k := 21) ?_)
      refine (Ends.after (j := 2) (m' := g text lim s 35 (s + 1) (s + 1) first [nB 23 s first, nS s first] 2 _ none) rfl (k := 19) ?_)
      exact (good35 _ _ _ _ _ _ _ _ _ (by unfold find2At; rw [if_neg (fun q => h10 q.2)])).le (by omega)
  · have hc : text.getD s 0 = 10 := hc.resolve_right h13
    refine (Ends.after (j := 1) ((run1 rfl).trans (lit12_no _ _ _ _ _ _ _ _ _ (fun q => h13 q.2))) (k := 28) ?_)
    refine (Ends.after (j := 1) (m' := g text lim s 19 s s first [nB 18 s first, nS s first] 2 _ none) rfl (k := 27) ?_)
    refine (Ends.after (j := 1) ((run1 rfl).trans (lit19_yes _ _ _ _ _ _ _ _ _ hs hc)) (k := 26) ?_)
    refine (Ends.after (j := 1) (m' := g text lim s 35 (s + 1) s first [nB 18 s first, nS s first] 2 _ none) rfl (k := 25) ?_)
    exact (good35 _ _ _ _ _ _ _ _ _ (by unfold find2At; rw [if_neg (fun q => h13 q.1)])).le (by omega)
end Mine.RX
end R1_text
section R2_text
open PySem
set_option maxRecDepth 100000
namespace Mine.RX
open PySem.Sre

theorem inSet2 (c : Nat) (seen : Seen) : inSet code2 c code2.size 5 true seen = if (c == 10) = true then .ok (true, seen.add 16) else if (c == 13) = true then .ok (true, (seen.add 16).add 16) else .ok (false, ((seen.add 16).add 16).add 0) := rfl
noncomputable def find2 (text : Array Nat) (lim : Nat) : Nat → Nat → Option (Nat × Nat)
  | 0, _ => none
  | d + 1, s => if text.getD s 0 = 10 ∨ text.getD s 0 = 13 then some (find2At text lim s) else find2 text lim d (s + 1)
noncomputable def first2 (text : Array Nat) : Nat → Nat → Option Nat
  | 0, _ => none
  | d + 1, s => if text.getD s 0 = 10 ∨ text.getD s 0 = 13 then some s else first2 text d (s + 1)
theorem find2_eq (text : Array Nat) (lim : Nat) : ∀ d s, find2 text lim d s = (first2 text d s).map (find2At text lim)
  | 0, _ => rfl
  | d + 1, s => by
    unfold find2 first2
    split
    · rfl
    · exact find2_eq text lim d (s + 1)
theorem first2_spec (text : Array Nat) : ∀ d s k, first2 text d s = some k → s ≤ k ∧ k < s + d ∧ (text.getD k 0 = 10 ∨ text.getD k 0 = 13)
  | 0, _, _, h => by cases h
  | d + 1, s, k, h => by
    unfold first2 at h
    split at h
    · cases h
      exact ⟨by omega, by omega, by assumption⟩
    · have := first2_spec text d (s + 1) k h
      exact ⟨by omega, by omega, this.2.2⟩
theorem admitted2 (m : M) (hc : m.code = code2) : ∀ (d fuel s : Nat) (seen : Seen), s + d = m.lim → d < fuel → ∃ seen', M.admitted m fuel s seen = .ok (first2 m.text d s, seen')
  | 0, fuel + 1, s, seen, hd, hf => by
    refine ⟨seen, ?_⟩
    show (if s ≥ m.lim then _ else _) = _
    rw [if_pos (by omega)]
    rfl
  | d + 1, fuel + 1, s, seen, hd, hf => by
    have e : M.admitted m (fuel + 1) s seen = (if s ≥ m.lim then .ok (none, seen) else
      match inSet m.code (m.text.getD s 0) m.code.size 5 true seen with
      | .ok (true, seen) => .ok (some s, seen)
      | .ok (false, seen) => M.admitted m fuel (s + 1) seen
      | .error why => .error why) := rfl
    rw [e, if_neg (by omega), hc, inSet2]
    unfold first2
    by_cases h10 : m.text.getD s 0 = 10
    · rw [show (m.text.getD s 0 == 10) = true by simp [h10], if_pos rfl, if_pos (.inl h10)]
      exact ⟨_, rfl⟩
    · rw [show (m.text.getD s 0 == 10) = false by rw [beq_eq_false_iff_ne]; exact h10, if_neg (by decide)]
      by_cases h13 : m.text.getD s 0 = 13
      · rw [show (m.text.getD s 0 == 13) = true by simp [h13], if_pos rfl, if_pos (.inr h13)]
        exact ⟨_, rfl⟩
      · rw [show (m.text.getD s 0 == 13) = false by rw [beq_eq_false_iff_ne]; exact h13, if_neg (by decide), if_neg (fun q => q.elim h10 h13)]
        exact admitted2 m hc d fuel (s + 1) _ (by omega) (by omega)
/-- the second pattern's search -/
theorem search2 (text : Array Nat) (lim s : Nat) (h : s ≤ lim) : Ends (forSearch code2 text 0 s lim false) (find2 text lim (lim - s) s) 30 := by
  by_cases h1 : lim - s < 1
  · have e : lim - s = 0 := by omega
    have : forSearch code2 text 0 s lim false = (if (decide (s > lim) || decide (lim - s < 1)) = true then ({ g text lim s 10 s s true [] 0 (({} : Seen).add 14) none with lastStart := 0 } : M).say false else _) := rfl
    rw [this, if_pos (by simp [h1]), e]
    exact ⟨1, by omega, rfl⟩
  · have : forSearch code2 text 0 s lim false = (if (decide (s > lim) || decide (lim - s < 1)) = true then _ else M.attemptFrom (g text lim s 10 s s true [] 0 (({} : Seen).add 14) none) s true) := rfl
    rw [this, if_neg (by simp; omega)]
    obtain ⟨seen', ha⟩ := admitted2 (g text lim s 10 s s true [] 0 (({} : Seen).add 14) none) rfl (lim - s) (lim + 1 - s) s (({} : Seen).add 14) (show s + (lim - s) = lim by omega) (by omega)
    have e : M.attemptFrom (g text lim s 10 s s true [] 0 (({} : Seen).add 14) none) s true = (match M.admitted (g text lim s 10 s s true [] 0 (({} : Seen).add 14) none) (lim + 1 - s) s (({} : Seen).add 14) with
      | .ok (some k, seen) => g text lim k 10 k k true [nS k true] 1 seen none
      | .ok (none, seen) => (g text lim s 10 s s true [] 0 seen (some false))
      | .error why => M.stick (g text lim s 10 s s true [] 0 (({} : Seen).add 14) none) why) := rfl
    rw [e, ha, find2_eq]
    show Ends (match (Except.ok (first2 text (lim - s) s, seen') : Except String (Option Nat × Seen)) with
      | .ok (some k, seen) => g text lim k 10 k k true [nS k true] 1 seen none
      | .ok (none, seen) => (g text lim s 10 s s true [] 0 seen (some false))
      | .error why => M.stick (g text lim s 10 s s true [] 0 (({} : Seen).add 14) none) why) ((first2 text (lim - s) s).map (find2At text lim)) 30
    cases hf : first2 text (lim - s) s with
    | none => exact ⟨1, by omega, rfl⟩
    | some k =>
      have sp := first2_spec text _ _ _ hf
      exact at2 text lim k true seen' (by omega) sp.2.2

/-- what a pattern's sub makes of a text, from start on -/
noncomputable def subFrom (text : List Nat) (F : Nat → Option (Nat × Nat)) (repl : List Nat) : Nat → Nat → List Nat
  | 0, _ => []
  | fuel + 1, st => match F st with
    | some (a, b) => (text.drop st).take (a - st) ++ repl ++ subFrom text F repl fuel b
    | none => text.drop st
theorem subFrom_succ (text : List Nat) (F : Nat → Option (Nat × Nat)) (repl : List Nat) (fuel st : Nat) : subFrom text F repl (fuel + 1) st = match F st with
    | some (a, b) => (text.drop st).take (a - st) ++ repl ++ subFrom text F repl fuel b
    | none => text.drop st := rfl
noncomputable def F1 (text : List Nat) (st : Nat) : Option (Nat × Nat) := find1 text.toArray (text.length - st) st
noncomputable def F2 (text : List Nat) (st : Nat) : Option (Nat × Nat) := find2 text.toArray text.length (text.length - st) st
theorem find1_spec (text : Array Nat) : ∀ d s a b, find1 text d s = some (a, b) → s ≤ a ∧ a < s + d ∧ b = a + 1
  | 0, _, _, _, h => by cases h
  | d + 1, s, a, b, h => by
    unfold find1 at h
    split at h
    · cases h
      exact ⟨by omega, by omega, rfl⟩
    · have := find1_spec text d (s + 1) a b h
      exact ⟨by omega, by omega, this.2.2⟩
theorem F1_spec {text : List Nat} {st a b : Nat} (h : F1 text st = some (a, b)) : st ≤ a ∧ a < b ∧ b ≤ text.length := by
  have := find1_spec _ _ _ _ _ h
  exact ⟨this.1, by omega, by omega⟩
theorem F2_spec {text : List Nat} {st a b : Nat} (h : F2 text st = some (a, b)) : st ≤ a ∧ a < b ∧ b ≤ text.length := by
  unfold F2 at h
  rw [find2_eq] at h
  cases hf : first2 text.toArray (text.length - st) st with
  | none => rw [hf] at h; cases h
  | some k =>
    rw [hf] at h
    have := first2_spec _ _ _ _ hf
    simp only [Option.map_some, Option.some.injEq] at h
    unfold find2At at h
    cases h
    refine ⟨this.1, ?_, ?_⟩ <;> split <;> omega
end Mine.RX
end R2_text
section R3_text
open PySem
set_option maxRecDepth 100000
namespace Mine.RX
open PySem.Sre

noncomputable def dots (bol : Bool) : List Nat → List Nat
  | [] => []
  | c :: r => if bol = true ∧ c = 46 then 46 :: 46 :: dots false r else c :: dots (c == 10) r
theorem dots_cons (bol : Bool) (c : Nat) (r : List Nat) : dots bol (c :: r) = if bol = true ∧ c = 46 then 46 :: 46 :: dots false r else c :: dots (c == 10) r := rfl
noncomputable def crlf : List Nat → List Nat
  | [] => []
  | [c] => if c = 13 ∨ c = 10 then [13, 10] else [c]
  | c :: d :: r => if c = 13 ∧ d = 10 then 13 :: 10 :: crlf r else if c = 13 ∨ c = 10 then 13 :: 10 :: crlf (d :: r) else c :: crlf (d :: r)

theorem sub_skip {text : List Nat} {F : Nat → Option (Nat × Nat)} {repl : List Nat} {st fuel : Nat} (hs : st < text.length) (e : F st = F (st + 1)) (hF : ∀ a b, F (st + 1) = some (a, b) → st + 1 ≤ a) :
    subFrom text F repl (fuel + 1) st = text[st] :: subFrom text F repl (fuel + 1) (st + 1) := by
  unfold subFrom
  rw [e]
  cases h : F (st + 1) with
  | none => exact List.drop_eq_getElem_cons hs
  | some p =>
    obtain ⟨a, b⟩ := p
    have := hF a b h
    show (text.drop st).take (a - st) ++ repl ++ _ = text[st] :: ((text.drop (st + 1)).take (a - (st + 1)) ++ repl ++ _)
    rw [List.drop_eq_getElem_cons hs, show a - st = (a - (st + 1)) + 1 by omega, List.take_succ_cons]
    simp
theorem getD_arr (text : List Nat) (i : Nat) : text.toArray.getD i 0 = text.getD i 0 := by simp [Array.getD_eq_getD_getElem?]
theorem sub1 (text : List Nat) : ∀ (d st fuel : Nat), st + d = text.length → d < fuel → subFrom text (F1 text) [46, 46] fuel st = dots (st == 0 || text.getD (st - 1) 0 == 10) (text.drop st)
  | 0, st, fuel + 1, h, hf => by
    have e : F1 text st = none := by unfold F1; rw [show text.length - st = 0 by omega]; rfl
    unfold subFrom
    rw [e, List.drop_of_length_le (by omega)]
    rfl
  | d + 1, st, fuel + 1, h, hf => by
    have hs : st < text.length := by omega
    have e0 : F1 text st = if hit1 text.toArray st = true then some (st, st + 1) else F1 text (st + 1) := by
      unfold F1
      rw [show text.length - st = (text.length - (st + 1)) + 1 by omega]
      rfl
    have hg : text.getD st 0 = text[st] := by simp [List.getD, hs]
    rw [List.drop_eq_getElem_cons hs]
    by_cases hh : hit1 text.toArray st = true
    · rw [if_pos hh] at e0
      unfold subFrom
      rw [e0]
      show (text.drop st).take (st - st) ++ [46, 46] ++ subFrom text (F1 text) [46, 46] fuel (st + 1) = _
      have ih := sub1 text d (st + 1) fuel (by omega) (by omega)
      rw [ih]
      unfold hit1 at hh
      rw [Bool.and_eq_true] at hh
      have h46 : text[st] = 46 := by
        have := hh.2
        rw [getD_arr, hg] at this
        simpa using this
      rw [dots_cons, if_pos ⟨by have := hh.1; rw [getD_arr] at this; exact this, h46⟩, Nat.add_sub_cancel, hg, h46, Nat.sub_self]
      rfl
    · rw [if_neg hh] at e0
      rw [sub_skip hs e0 (fun a b q => (F1_spec q).1), sub1 text d (st + 1) (fuel + 1) (by omega) (by omega)]
      rw [dots_cons, if_neg, Nat.add_sub_cancel, hg]
      · rfl
      · rintro ⟨q1, q2⟩
        refine hh ?_
        unfold hit1
        rw [getD_arr, getD_arr, q1, hg, q2]
        rfl
theorem crlf_cons (c : Nat) (r : List Nat) (h : ¬ (c = 10 ∨ c = 13)) : crlf (c :: r) = c :: crlf r := by
  cases r with
  | nil => unfold crlf; rw [if_neg (by omega)]
  | cons d r => rw [show crlf (c :: d :: r) = if c = 13 ∧ d = 10 then 13 :: 10 :: crlf r else if c = 13 ∨ c = 10 then 13 :: 10 :: crlf (d :: r) else c :: crlf (d :: r) by rw [crlf], if_neg (by omega), if_neg (by omega)]
theorem crlf_end (c : Nat) (r : List Nat) (h : c = 10 ∨ c = 13) (hn : ¬ (c = 13 ∧ ∃ r', r = 10 :: r')) : crlf (c :: r) = 13 :: 10 :: crlf r := by
  cases r with
  | nil => unfold crlf; rw [if_pos (by omega)]
  | cons d r => rw [show crlf (c :: d :: r) = if c = 13 ∧ d = 10 then 13 :: 10 :: crlf r else if c = 13 ∨ c = 10 then 13 :: 10 :: crlf (d :: r) else c :: crlf (d :: r) by rw [crlf], if_neg (fun q => hn ⟨q.1, r, by rw [q.2]⟩), if_pos (by omega)]
theorem crlf_both (r : List Nat) : crlf (13 :: 10 :: r) = 13 :: 10 :: crlf r := by rw [crlf, if_pos ⟨rfl, rfl⟩]
theorem crlf_len : ∀ (n : Nat) (l : List Nat), l.length ≤ n → (crlf l).length ≤ 2 * l.length := by
  intro n
  induction n with
  | zero =>
    intro l hl
    have : l = [] := List.eq_nil_of_length_eq_zero (by omega)
    subst this
    simp [crlf]
  | succ n ih =>
    intro l hl
    cases l with
    | nil => simp [crlf]
    | cons c r =>
      have hr : r.length ≤ n := by simpa using hl
      have i1 := ih r hr
      by_cases hc : c = 10 ∨ c = 13
      · by_cases hb : c = 13 ∧ ∃ r', r = 10 :: r'
        · obtain ⟨rfl, r', rfl⟩ := hb
          have i2 := ih r' (by simp at hr; omega)
          rw [crlf_both]
          simp only [List.length_cons]
          omega
        · rw [crlf_end c r hc hb]
          simp only [List.length_cons]
          omega
      · rw [crlf_cons c r hc]
        simp only [List.length_cons]
        omega
theorem sub2 (text : List Nat) : ∀ (d st fuel : Nat), st + d = text.length → d < fuel → subFrom text (F2 text) [13, 10] fuel st = crlf (text.drop st) := by
  intro d
  induction d using Nat.strongRecOn with
  | ind d ih =>
  intro st fuel h hf
  obtain ⟨fuel, rfl⟩ : ∃ f, fuel = f + 1 := ⟨fuel - 1, by omega⟩
  cases d with
  | zero =>
    have e : F2 text st = none := by unfold F2; rw [show text.length - st = 0 by omega]; rfl
    unfold subFrom
    rw [e, List.drop_of_length_le (by omega)]
    rfl
  | succ d =>
    have hs : st < text.length := by omega
    have hg : text.getD st 0 = text[st] := by simp [List.getD, hs]
    have e0 : F2 text st = if text.toArray.getD st 0 = 10 ∨ text.toArray.getD st 0 = 13 then some (find2At text.toArray text.length st) else F2 text (st + 1) := by
      unfold F2
      rw [show text.length - st = (text.length - (st + 1)) + 1 by omega]
      rfl
    rw [getD_arr, hg] at e0
    by_cases hh : text[st] = 10 ∨ text[st] = 13
    · rw [if_pos hh] at e0
      unfold subFrom
      rw [e0]
      unfold find2At
      show (text.drop st).take (st - st) ++ [13, 10] ++ subFrom text (F2 text) [13, 10] fuel (if _ then st + 2 else st + 1) = _
      rw [getD_arr, getD_arr, hg]
      by_cases h2 : text[st] = 13 ∧ st + 1 < text.length ∧ text.getD (st + 1) 0 = 10
      · have hs1 := h2.2.1
        have hg1 : text.getD (st + 1) 0 = text[st + 1] := by simp [List.getD, hs1]
        rw [if_pos h2, ih (d - 1) (by omega) (st + 2) fuel (by omega) (by omega), List.drop_eq_getElem_cons hs, List.drop_eq_getElem_cons hs1, h2.1, ← hg1, h2.2.2, crlf_both]
        simp
      · rw [if_neg h2, ih d (by omega) (st + 1) fuel (by omega) (by omega), List.drop_eq_getElem_cons hs, crlf_end _ _ hh]
        · simp
        · rintro ⟨q, r', e⟩
          have hs1 : st + 1 < text.length := by
            have := congrArg List.length e
            simp at this
            omega
          refine h2 ⟨q, hs1, ?_⟩
          rw [List.drop_eq_getElem_cons hs1] at e
          simp [List.getD, hs1]
          exact (List.cons.inj e).1
    · rw [if_neg hh] at e0
      rw [sub_skip hs e0 (fun a b q => (F2_spec q).1), ih d (by omega) (st + 1) (fuel + 1) (by omega) (by omega), List.drop_eq_getElem_cons hs, crlf_cons _ _ hh]

/-- what is told, from a state on -/
noncomputable def go (ah : List Nat) : List Nat → List Nat
  | [] => []
  | c :: r => sentOf ah c ++ go [c] r
theorem aheadOf_succ (l : List Nat) (k : Nat) (h : k < l.length) : aheadOf l (k + 1) = [l.getD k 0] := by
  unfold aheadOf
  rw [List.take_add_one, List.getElem?_eq_getElem h]
  have : (l.take k ++ (some l[k]).toList).length - 1 = (l.take k).length := by
    rw [List.length_append]
    show (l.take k).length + 1 - 1 = _
    omega
  rw [this, List.drop_left]
  simp [List.getD, h]
theorem sentTo_go (l : List Nat) : ∀ (d k : Nat), k + d = l.length → sentTo l l.length = sentTo l k ++ go (aheadOf l k) (l.drop k)
  | 0, k, h => by
    rw [List.drop_of_length_le (by omega), show k = l.length by omega]
    simp [go]
  | d + 1, k, h => by
    have hk : k < l.length := by omega
    rw [sentTo_go l d (k + 1) (by omega), List.drop_eq_getElem_cons hk, aheadOf_succ l k hk]
    have hg : l.getD k 0 = l[k] := by simp [List.getD, hk]
    show sentTo l k ++ sentOf (aheadOf l k) (l.getD k 0) ++ go [l.getD k 0] (l.drop (k + 1)) = sentTo l k ++ (sentOf (aheadOf l k) l[k] ++ go [l[k]] (l.drop (k + 1)))
    rw [hg, List.append_assoc]
theorem sentAll_go (l : List Nat) : sentAll l = go [] l := by
  have := sentTo_go l l.length 0 (by omega)
  unfold sentAll
  rw [this]
  rfl
theorem go_cons (ah : List Nat) (c : Nat) (r : List Nat) : go ah (c :: r) = sentOf ah c ++ go [c] r := rfl
theorem sentOf_13 (ah : List Nat) : sentOf ah 13 = [13, 10] := by simp [sentOf]
theorem sentOf_10 (ah : List Nat) (h : ah ≠ [13]) : sentOf ah 10 = [13, 10] := by simp [sentOf, h]
theorem sentOf_10n : sentOf [13] 10 = [] := by simp [sentOf]
theorem sentOf_rest (ah : List Nat) (c : Nat) (h10 : c ≠ 10) (h13 : c ≠ 13) : sentOf ah c = if c = 46 ∧ (ah = [] ∨ ah = [13] ∨ ah = [10]) then [46, 46] else [c] := by
  unfold sentOf
  rw [if_neg (fun q => q.elim h13 fun q => h10 q.1), if_pos h10]
theorem dots_crlf : ∀ (n : Nat) (l : List Nat), l.length ≤ n →
    (∀ ah, (ah = [] ∨ ah = [10]) → dots true (crlf l) = go ah l) ∧ ((∀ r, l ≠ 10 :: r) → dots true (crlf l) = go [13] l) ∧ (∀ x, x ≠ 10 → x ≠ 13 → dots false (crlf l) = go [x] l) := by
  intro n
  induction n with
  | zero =>
    intro l hl
    have : l = [] := List.eq_nil_of_length_eq_zero (by omega)
    subst this
    exact ⟨fun _ _ => rfl, fun _ => rfl, fun _ _ _ => rfl⟩
  | succ n ih =>
    intro l hl
    cases l with
    | nil => exact ⟨fun _ _ => rfl, fun _ => rfl, fun _ _ _ => rfl⟩
    | cons c r =>
      have hr : r.length ≤ n := by simpa using hl
      have I := ih r hr
      by_cases hc : c = 10 ∨ c = 13
      · -- an end
        have key : ∀ b ah, (c = 10 → ah ≠ [13]) → dots b (crlf (c :: r)) = go ah (c :: r) := by
          intro b ah hah
          by_cases hb : c = 13 ∧ ∃ r', r = 10 :: r'
          · obtain ⟨rfl, r', rfl⟩ := hb
            have I2 := ih r' (by simp at hr; omega)
            rw [crlf_both, dots_cons, if_neg (by simp), dots_cons, if_neg (by simp), go_cons, sentOf_13, go_cons, sentOf_10n]
            show 13 :: 10 :: dots true (crlf r') = 13 :: 10 :: go [10] r'
            rw [I2.1 [10] (.inr rfl)]
          · rw [crlf_end c r hc hb, dots_cons, if_neg (by simp), dots_cons, if_neg (by simp), go_cons]
            rcases hc with rfl | rfl
            · rw [sentOf_10 ah (hah rfl)]
              show 13 :: 10 :: dots true (crlf r) = 13 :: 10 :: go [10] r
              rw [I.1 [10] (.inr rfl)]
            · rw [sentOf_13]
              show 13 :: 10 :: dots true (crlf r) = 13 :: 10 :: go [13] r
              rw [I.2.1 fun r' e => hb ⟨rfl, r', e⟩]
        refine ⟨fun ah h => key true ah fun _ => ?_, fun h => key true [13] fun q => absurd (by rw [q]) (h r), fun x h1 h2 => key false [x] fun _ q => h2 (by simpa using q)⟩
        rcases h with rfl | rfl <;> simp
      · have h10 : c ≠ 10 := fun q => hc (.inl q)
        have h13 : c ≠ 13 := fun q => hc (.inr q)
        have hb : (c == 10) = false := by simp [h10]
        have I3 := I.2.2 c h10 h13
        have s46 : ∀ ah, (ah = [] ∨ ah = [13] ∨ ah = [10]) → dots true (crlf (c :: r)) = go ah (c :: r) := by
          intro ah h
          rw [crlf_cons c r hc, dots_cons, go_cons, sentOf_rest ah c h10 h13]
          by_cases h46 : c = 46
          · subst h46
            rw [if_pos ⟨rfl, rfl⟩, if_pos ⟨rfl, h⟩, I3]
            rfl
          · rw [if_neg (fun q => h46 q.2), if_neg (fun q => h46 q.1), hb, I3]
            rfl
        refine ⟨fun ah h => s46 ah ?_, fun _ => s46 [13] (.inr (.inl rfl)), fun x h1 h2 => ?_⟩
        · rcases h with rfl | rfl <;> simp
        · rw [crlf_cons c r hc, dots_cons, if_neg (by simp), go_cons, hb, I3, sentOf_rest [x] c h10 h13, if_neg]
          · rfl
          · rintro ⟨_, q⟩
            simp at q
            exact q.elim h2 h1
theorem quoted (l : List Nat) : dots true (crlf l) = sentAll l := by
  rw [sentAll_go]
  exact (dots_crlf l.length l (Nat.le_refl _)).1 [] (.inl rfl)
end Mine.RX
end R3_text
section R4_text
open PySem PySem.W PySem.Calls PyProof.Rows
set_option maxRecDepth 100000
namespace Mine.RX
open PySem.Builtin.Re
section
variable {prog : Program} {w : World} {M : PySem.Model} {A : Around} {E : Value → Shared → Prop} {s : Shared}

theorem zdrive {m : Sre.M} {n : Nat} {Q : Sre.M → Shared → Prop} (h : (Sre.M.runFor n m).outcome.isSome = true) (hq : Q (Sre.M.runFor n m) s) : ∀ {turns : Nat} {m' : Sre.M} {j : Nat}, Sre.M.runFor j m = m' → n ≤ 4 * turns + j → 0 < turns →
    wpAny M A (reDrive turns m') Q E s := by
  intro turns
  induction turns with
  | zero =>
    intro m' j hj hn h0
    exact absurd h0 (Nat.lt_irrefl 0)
  | succ turns zdrive =>
    intro m' j hj hn _
    have e4 : Sre.M.runFor (j + 4) m = Sre.M.runFor 4 m' := by rw [runFor_add, hj]
    show wpAny M A (if (Sre.M.runFor 4 m').outcome.isSome = true then pure (Sre.M.runFor 4 m') else do rule "sre.turn"; reDrive turns (Sre.M.runFor 4 m')) Q E s
    by_cases hc : (Sre.M.runFor 4 m').outcome.isSome = true
    · rw [if_pos hc]
      have : Sre.M.runFor 4 m' = Sre.M.runFor n m := by
        rcases Nat.le_total (j + 4) n with q | q
        · rw [show n = (j + 4) + (n - (j + 4)) by omega, runFor_add, e4, runFor_stop hc]
        · rw [← e4, show j + 4 = n + (j + 4 - n) by omega, runFor_add, runFor_stop h]
      rw [this]
      exact wpAny_pure hq
    · rw [if_neg hc]
      have hlt : j + 4 < n := by
        apply Classical.byContradiction
        intro q
        refine hc ?_
        rw [← e4, show j + 4 = n + (j + 4 - n) by omega, runFor_add, runFor_stop h]
        exact h
      refine wpAny_bind (wpAny_rule ?_)
      exact zdrive e4 (by omega) (by omega)
theorem zrules {f : Nat → PUnit → Sem (ForInStep PUnit)} {Q : PUnit → Shared → Prop} (hf : ∀ i Q, Q (ForInStep.yield ⟨⟩) s → wpAny M A (f i ⟨⟩) Q E s) (hq : Q ⟨⟩ s) : ∀ l : List Nat, wpAny M A (forIn l PUnit.unit f) Q E s
  | [] => by rw [List.forIn_nil]; exact wpAny_pure hq
  | a :: l => by
    rw [List.forIn_cons]
    refine wpAny_bind (hf a _ ?_)
    exact zrules hf hq l
theorem zrun {m : Sre.M} {r : Option (Nat × Nat)} {k : Nat} {Q : Option Sre.M → Shared → Prop} (e : Ends m r k) (hk : k ≤ 1000)
    (hn : r = none → Q none s) (hq : ∀ a b, r = some (a, b) → ∀ m', m'.start = a → m'.handed = b → Q (some m') s) : wpAny M A (reRunToEnd m) Q E s := by
  obtain ⟨n, hnk, e⟩ := e
  have ho : (Sre.M.runFor n m).outcome.isSome = true := by
    cases r with
    | none => rw [e]; rfl
    | some p => rw [e.1]; rfl
  unfold reRunToEnd
  refine wpAny_bind (zdrive (n := n) ho ?_ (j := 0) rfl (by omega) (Nat.two_pow_pos 64))
  refine wpAny_bind (zrules (fun i Q hQ => ?_) ?_ _)
  · by_cases hc : (Sre.M.runFor n m).seen.has i = true
    · rw [if_pos hc]
      exact wpAny_bind (wpAny_rule (wpAny_pure hQ))
    · rw [if_neg hc]
      exact wpAny_pure hQ
  · cases r with
    | none =>
      have e : (Sre.M.runFor n m).outcome = some .failed := e
      show wpAny M A (match (Sre.M.runFor n m).outcome with
        | some .matched => pure (some (Sre.M.runFor n m))
        | some .failed => pure none
        | some (.stuck why) => unsupported _
        | none => unsupported _) Q E s
      rw [e]
      exact wpAny_pure (hn rfl)
    | some p =>
      have e1 : (Sre.M.runFor n m).outcome = some .matched := e.1
      show wpAny M A (match (Sre.M.runFor n m).outcome with
        | some .matched => pure (some (Sre.M.runFor n m))
        | some .failed => pure none
        | some (.stuck why) => unsupported _
        | none => unsupported _) Q E s
      rw [e1]
      exact wpAny_pure (hq p.1 p.2 rfl _ e.2.1 e.2.2)
end
end Mine.RX
end R4_text
section R5_text
open PySem PySem.W PySem.Calls PyProof.Rows
set_option maxRecDepth 100000
namespace Mine.RX
open PySem.Builtin.Re

/-- a compiled pattern -/
noncomputable def PatAt (h : Heap) (a : Addr) (code : Array Nat) : Prop := ∃ o vs c oc items n, h.get? a = some o ∧ o.cls = .type "re.Pattern" ∧ o.dict = none ∧ o.data = .fields vs ∧ vs.getD 5 .none = .ref c ∧ h.get? c = some oc ∧ oc.data = .seq items n ∧
  (items.map reRawOf).map (·.toNat) = code ∧ reRawNat (vs.getD 2 .none) = 0 ∧ reRawNat (vs.getD 6 .none) = 0
theorem PatAt.keeps {h h' : Heap} {a : Addr} {code : Array Nat} (p : PatAt h a code) (k : Keep h h') : PatAt h' a code :=
  let ⟨o, vs, c, oc, items, n, h1, h2, h3, h4, h5, h6, r⟩ := p; ⟨o, vs, c, oc, items, n, k _ _ h1, h2, h3, h4, h5, k _ _ h6, r⟩

theorem entry_loop : entryFor table "re.Pattern.sub.loop" = some Builtin.«re.Pattern.sub.loop» := entryFor_of_tree (by kernel_rfl)
theorem entry_sub : entryFor table "re.Pattern.sub" = some Builtin.«re.Pattern.sub» := entryFor_of_tree (by kernel_rfl)
theorem plain_loop : plainId "re.Pattern.sub.loop" = true := by decide +kernel
theorem plain_sub : plainId "re.Pattern.sub" = true := by decide +kernel

section
variable {prog : Program} {w : World} {A : Around} {E : Value → Shared → Prop} {s : Shared} {h G : Heap} {tk : Nat} {L : Addr} {m : Str → Option Value} {news : List (Addr × Obj)}
theorem zwhole {pat : Addr} {code : Array Nat} {x : Str} {t : Tok} {Q : ReTarget → Shared → Prop} (hp : PatAt h pat code)
    (hq : Q { pattern := .ref pat, string := .str x t, code, text := x.cps, kind := 0, groups := 0, pos := 0, lim := x.cps.size } (St s h tk)) :
    wpAny (model prog w) A (reWholeTarget (.ref pat) (.str x t)) Q E (St s h tk) := by
  obtain ⟨o, vs, c, oc, items, n, h1, h2, h3, h4, h5, h6, h7, h8, h9, h10⟩ := hp
  unfold reWholeTarget
  refine wpAny_bind (wpAny_fieldsOf (s := St s h tk) h1 h4 ?_)
  refine wpAny_bind (m := reTextOf (.str x t)) (wpAny_pure ?_)
  rw [h10]
  show wpAny _ _ (do
    pure { pattern := .ref pat, string := .str x t, code := (← reRawItems (vs.getD 5 .none)).map (·.toNat), text := x.cps, kind := 0, groups := reRawNat (vs.getD 2 .none), pos := 0, lim := x.cps.size }) Q E _
  rw [h5, h9]
  refine wpAny_bind (wpAny_bind (wpAny_seqItems (s := St s h tk) h6 h7 (wpAny_pure ?_)))
  refine wpAny_pure ?_
  show Q { pattern := .ref pat, string := .str x t, code := (items.map reRawOf).map (·.toNat), text := x.cps, kind := 0, groups := 0, pos := 0, lim := x.cps.size } (St s h tk)
  rw [h8]
  exact hq
theorem zslice {x : List Nat} {a b : Nat} {Q : Value → Shared → Prop} (hl : x.length ≤ 1000) (hq : Q (.str (sOf ((x.drop a).take (b - a))) tk) (St s h (tk + 1))) :
    wpAny (model prog w) A (reSlice (sOf x).cps 0 a b) Q E (St s h tk) := by
  have e : (⟨(sOf x).cps.extract a b⟩ : Str) = sOf ((x.drop a).take (b - a)) := by
    show (⟨x.toArray.extract a b⟩ : Str) = _
    rw [List.extract_toArray]
  show wpAny _ _ (mkStr ⟨(sOf x).cps.extract a b⟩) Q E _
  rw [e]
  refine wpAny_mkStr (s := St s h tk) hq ?_
  show ((x.drop a).take (b - a)).toArray.size ≤ _
  rw [List.size_toArray, List.length_take, List.length_drop, sizeLine_eq]
  omega
theorem zpush {l : Addr} {items : Array Value} {j : Nat} {v : Value} {Q : Unit → Shared → Prop} (C : Cx G L h m ((l, listOf items j) :: news)) (hs : items.size ≤ 10000)
    (hq : ∀ h', Cx G L h' m ((l, listOf (items.push v) (j + 1)) :: news) → Q () (St s h' tk)) : wpAny (model prog w) A (updateSeq l (·.push v)) Q E (St s h tk) := by
  refine wpAny_updateSeq (s := St s h tk) C.hd rfl ?_ (by rw [sizeLine_eq]; omega) (by rw [Array.size_push, sizeLine_eq]; omega)
  refine hq _ (C.up Up.here ?_ ?_)
  · exact fun b o hb e => (Heap.get?_update_ne _ _ _ _ hb).trans e
  · have := Heap.get?_update_self (Obj.mapSeq (·.push v)) C.hd (by rfl)
    refine this.trans ?_
    simp [Obj.mapSeq, W.listOf]

theorem strs_push {vs : List Value} {ys : List Str} (h : StrsAre vs ys) (x : Str) (t : Tok) : StrsAre (vs ++ [.str x t]) (ys ++ [x]) := by
  induction h with
  | nil => exact .cons _ _ .nil
  | cons a b _ ih => exact .cons _ _ ih
theorem joined : ∀ ys : List (List Nat), Txt.join (sOf []) (ys.map sOf) = sOf ys.flatten
  | [] => rfl
  | [x] => by
    show sOf x = _
    simp
  | x :: y :: r => by
    have ih := joined (y :: r)
    have e : Txt.join (sOf []) ((x :: y :: r).map sOf) = sOf x ++ sOf [] ++ Txt.join (sOf []) ((y :: r).map sOf) := by
      show Builtin.Str.glued _ _ = _ ++ Builtin.Str.glued _ _
      rw [PySem.StrLaws.glued_eq_join, PySem.StrLaws.glued_eq_join]
      rfl
    rw [e, ih, sOf_append, sOf_append]
    simp

set_option maxHeartbeats 1000000 in
theorem sub_loop {R : Result → Shared → Prop} {pat lst : Addr} {code : Array Nat} {text repl : List Nat} {t u : Tok} {F : Nat → Option (Nat × Nat)} (hlen : text.length ≤ 100) (hrl : repl.length ≤ 2)
    (hF : ∀ st, st ≤ text.length → Ends (Sre.forSearch code text.toArray 0 st text.length false) (F st) 1000) (hspec : ∀ st a b, F st = some (a, b) → st ≤ a ∧ a < b ∧ b ≤ text.length) (hp : PatAt G pat code) :
    ∀ (fuel st n : Nat) (h : Heap) (tk : Nat) (items : Array Value) (ys : List (List Nat)) {j : Nat}, st ≤ text.length → text.length - st < fuel → Cx G L h m ((lst, listOf items j) :: news) → StrsAre items.toList (ys.map sOf) → (ys.map List.length).sum + ys.length ≤ 5 * st →
      (∀ h' tk' t' items' j, Cx G L h' m ((lst, listOf items' j) :: news) → R (.ok (.ret (.str (sOf (ys.flatten ++ subFrom text F repl fuel st)) t'))) (St s h' tk')) →
      codeAny (model prog w) A (.builtin "re.Pattern.sub.loop" ⟨[.ref pat, .str (sOf text) t, .str (sOf repl) u, rawInt (0 : Int), rawInt (0 : Int), rawInt n, rawInt st, rawInt st, .bool false, .ref lst, .bool false], []⟩) R (St s h tk) := by
  intro fuel
  induction fuel with
  | zero => intro st n h tk items ys j h1 h2; omega
  | succ fuel ih =>
    intro st n h tk items ys j hst hf C hys hw hR
    refine codeAny_builtin entry_loop ?_
    rw [Around.under_plainId plain_loop _]
    unfold Builtin.«re.Pattern.sub.loop»
    refine wpAny_bind (zwhole (s := s) (hp.keeps C.keep) ?_)
    refine wpAny_bind (m := reLiteralCannotBeTurned (.str (sOf repl) u)) (wpAny_pure ?_)
    show wpAny _ _ (reNextFound { pattern := .ref pat, string := .str (sOf text) t, code := code, text := (sOf text).cps, kind := 0, groups := 0, pos := 0, lim := (sOf text).cps.size } ((st : Int)).toNat false >>= _) _ _ _
    have hsz : (sOf text).cps.size = text.length := by simp
    refine wpAny_bind ?_
    show wpAny _ _ (reRunToEnd (Sre.forSearch code text.toArray 0 ((st : Int)).toNat (sOf text).cps.size false)) _ _ _
    rw [Int.toNat_natCast, hsz]
    have iwe : ys.length ≤ 5 * st := by omega
    have isz : items.size = ys.length := by have := hys.len_eq; simpa using this
    have tail : ∀ (h : Heap) (tk : Nat) (items' : Array Value) (j' : Nat) (ys' : List (List Nat)), Cx G L h m ((lst, listOf items' j') :: news) → StrsAre items'.toList (ys'.map sOf) → (ys'.map List.length).sum + ys'.length ≤ 1000 →
        (∀ h' tk' t' items' j, Cx G L h' m ((lst, listOf items' j) :: news) → R (.ok (.ret (.str (sOf ys'.flatten) t'))) (St s h' tk')) →
        wpAny (model prog w) A.in1 (do
          let joiner ← reSlice (sOf text).cps 0 0 0
          let r ← seqItems? (.ref lst)
          let text ← if (r.getD #[]).isEmpty then pure joiner else call (.builtin (if ((0 : Nat) == 0) = true then "str.join" else "bytes.join")) [joiner, .ref lst]
          ret text) (fun fin s' => match fin with
                | Fin.done f => R (Except.ok f) s'
                | Fin.again c' => c'.quiet = true ∧ codeAny (model prog w) A c' R s') (fun e s' => R (Except.error e) s') (St s h tk) := by
      intro h tk items' j' ys' C hys hw hR
      refine wpAny_bind (zslice (s := s) (by omega) ?_)
      refine wpAny_bind (wpAny_seqItems (s := St s h _) C.hd rfl ?_)
      have e0 : sOf ((text.drop 0).take (0 - 0)) = sOf [] := by simp
      rw [e0]
      have sz : items'.size = ys'.length := by have := hys.len_eq; simpa using this
      show wpAny _ _ (if items'.isEmpty = true then (pure (Value.str (sOf []) tk) >>= fun text => ret text) else (call (.builtin "str.join") [.str (sOf []) tk, .ref lst] >>= fun text => ret text)) _ _ _
      by_cases hz : items'.isEmpty = true
      · rw [if_pos hz]
        have : ys' = [] := List.eq_nil_of_length_eq_zero (by rw [← sz]; simpa using congrArg Array.size (Array.isEmpty_iff.mp hz))
        subst this
        exact wpAny_bind (wpAny_pure (wpAny_pure (hR _ _ _ _ _ C)))
      · rw [if_neg hz]
        refine wpAny_bind ?_
        refine join_listW (s := St s h _) (isList_of C.hd) hys (by show ([] : List Nat).toArray.size ≤ _; simp) ?_ fun t' k => ?_
        · rw [List.map_map, List.length_map]
          have : (ys'.map (Str.length ∘ sOf)) = ys'.map List.length := List.map_congr_left fun x _ => by simp [Str.length]
          rw [this]
          omega
        · rw [joined]
          exact wpAny_pure (hR _ _ _ _ _ C)
    refine zrun (hF st hst) (by omega) (fun hfs => ?_) fun a b hfs m' hma hmb => ?_
    · have e0 : subFrom text F repl (fuel + 1) st = text.drop st := by rw [subFrom_succ, hfs]
      rw [e0] at hR
      show wpAny _ _ (if st < text.length then _ else _) _ _ _
      by_cases hlt : st < text.length
      · rw [if_pos hlt]
        refine wpAny_bind (zslice (s := s) (by omega) ?_)
        refine wpAny_bind (zpush (s := s) C (by omega) fun h2 C => ?_)
        have e1 : (text.drop st).take (text.length - st) = text.drop st := List.take_of_length_le (by simp)
        rw [e1] at C
        refine tail h2 _ _ _ (ys ++ [text.drop st]) C ?_ ?_ fun h' tk' t' items' j C => ?_
        · rw [Array.toList_push, List.map_append]
          exact strs_push hys _ _
        · simp only [List.map_append, List.sum_append, List.length_append, List.map_cons, List.map_nil, List.sum_cons, List.sum_nil, List.length_cons, List.length_nil, List.length_drop]
          omega
        · have := hR h' tk' t' items' j C
          simpa using this
      · rw [if_neg hlt]
        refine tail h tk _ _ ys C hys (by omega) fun h' tk' t' items' j C => ?_
        have := hR h' tk' t' items' j C
        rw [List.drop_of_length_le (by omega), List.append_nil] at this
        exact this
    · have sp := hspec st a b hfs
      have e0 : subFrom text F repl (fuel + 1) st = (text.drop st).take (a - st) ++ repl ++ subFrom text F repl fuel b := by rw [subFrom_succ, hfs]
      rw [e0] at hR
      subst hma hmb
      have next : ∀ (h : Heap) (tk : Nat) (items' : Array Value) (j' : Nat) (ys' : List (List Nat)), Cx G L h m ((lst, listOf items' j') :: news) → StrsAre items'.toList (ys'.map sOf) → (ys'.map List.length).sum + ys'.length ≤ 5 * st + (m'.start - st) + 1 → items'.size ≤ 10000 →
          ys'.flatten = ys.flatten ++ (text.drop st).take (m'.start - st) →
          wpAny (model prog w) A.in1 (do
            updateSeq lst (·.push (.str (sOf repl) u))
            (again (Code.builtin "re.Pattern.sub.loop" ⟨[.ref pat, .str (sOf text) t, .str (sOf repl) u, rawInt 0, rawInt 0, rawInt ((n : Int) + 1), rawInt (m'.handed : Nat), rawInt (m'.handed : Nat), .bool (m'.handed == m'.start), .ref lst, .bool false], []⟩) : Sem PySem.Fin)) (fun fin s' => match fin with
                | Fin.done f => R (Except.ok f) s'
                | Fin.again c' => c'.quiet = true ∧ codeAny (model prog w) A c' R s') (fun e s' => R (Except.error e) s') (St s h tk) := by
        intro h tk items' j' ys' C hys hw hz hfl
        refine wpAny_bind (zpush (s := s) C hz fun h2 C => ?_)
        refine wpAny_pure ⟨plainId_quiet plain_loop _, ?_⟩
        have eb : (m'.handed == m'.start) = false := by rw [beq_eq_false_iff_ne]; omega
        rw [eb]
        refine ih m'.handed (n + 1) h2 tk _ (ys' ++ [repl]) sp.2.2 (by omega) C ?_ ?_ fun h' tk' t' items' j C => ?_
        · rw [Array.toList_push, List.map_append]
          exact strs_push hys _ _
        · simp only [List.map_append, List.sum_append, List.length_append, List.map_cons, List.map_nil, List.sum_cons, List.sum_nil, List.length_cons, List.length_nil]
          omega
        · have := hR h' tk' t' items' j C
          simp only [List.flatten_append, hfl, List.flatten_cons, List.flatten_nil, List.append_nil]
          simpa using this
      show wpAny _ _ (if st < m'.start then _ else _) _ _ _
      by_cases hlt : st < m'.start
      · rw [if_pos hlt]
        refine wpAny_bind (zslice (s := s) (by omega) ?_)
        refine wpAny_bind (zpush (s := s) C (by omega) fun h2 C => ?_)
        refine next h2 _ _ _ (ys ++ [(text.drop st).take (m'.start - st)]) C ?_ ?_ (by rw [Array.size_push]; omega) (by simp)
        · rw [Array.toList_push, List.map_append]
          exact strs_push hys _ _
        · simp only [List.map_append, List.sum_append, List.length_append, List.map_cons, List.map_nil, List.sum_cons, List.sum_nil, List.length_cons, List.length_nil, List.length_take, List.length_drop]
          omega
      · rw [if_neg hlt]
        refine next h tk _ _ ys C hys (by omega) (by omega) ?_
        rw [show m'.start - st = 0 by omega]
        simp
end
end Mine.RX
end R5_text
section R6_text
open PySem PySem.W PySem.Calls PyProof.Rows
set_option maxRecDepth 100000
namespace Mine.RX
open PySem.Builtin.Re
theorem plainAttrs_re : PlainAttrs "re.Pattern" := ⟨⟨"object.__getattribute__", by rw [typeLookup_type, builtinLookup_eq_fast]; kernel_rfl, by decide +kernel⟩, by rw [typeLookup_type, builtinLookup_eq_fast]; kernel_rfl⟩
theorem slot_re_sub : Slot "re.Pattern" "sub" "re.Pattern.sub" :=
  .of (owner := "re.Pattern") (n := "sub") (by rw [typeLookup_type, builtinLookup_eq_fast]; kernel_rfl) (by decide +kernel) (by decide +kernel) (by decide +kernel)
    (by first | exact .inl (by decide +kernel) | exact .inr (by decide +kernel)) (by rw [isSubtype_type]; kernel_rfl)
theorem type_re_sub : typeOf (.builtin "re.Pattern.sub") = pure (.type "method_descriptor") := by show builtinType _ = _; rw [builtinType_eq_fast]; kernel_rfl
theorem owner_re : Manifest.owners.lookup (String.ofList ['n', 'r', 'e', 't', 't', 'a', 'P', '.', 'e', 'r'].reverse) = some Manifest.sig_re_Pattern := by kernel_rfl
theorem str_nocall : typeLookup (.type "str") "__call__" = pure none := by rw [typeLookup_type, builtinLookup_eq_fast]; kernel_rfl
theorem args_re_sub (a b c : Value) : argsOk "re.Pattern.sub" ⟨[a, b, c], []⟩ := by
  unfold argsOk; rw [signature?_of (id := "re.Pattern.sub") (n := ['b', 'u', 's']) (o := ['n', 'r', 'e', 't', 't', 'a', 'P', '.', 'e', 'r']) (by kernel_rfl) owner_re]; kernel_rfl

section
variable {prog : Program} {w : World} {A : Around} {E : Value → Shared → Prop} {s : Shared} {h G : Heap} {tk : Nat} {L : Addr} {m : Str → Option Value} {news : List (Addr × Obj)}
set_option maxHeartbeats 1000000 in
/-- pat.sub(repl, text) -/
theorem zsub {Q : Value → Shared → Prop} {pat : Addr} {code : Array Nat} {text repl : List Nat} {t u : Tok} {F : Nat → Option (Nat × Nat)} (C : Cx G L h m news) (hlen : text.length ≤ 100) (hrl : repl.length ≤ 2) (h92 : (sOf repl).cps.contains 92 = false)
    (hF : ∀ st, st ≤ text.length → Ends (Sre.forSearch code text.toArray 0 st text.length false) (F st) 1000) (hspec : ∀ st a b, F st = some (a, b) → st ≤ a ∧ a < b ∧ b ≤ text.length) (hp : PatAt G pat code)
    (hq : ∀ h' tk' t', Cx G L h' m news → Q (.str (sOf (subFrom text F repl (text.length + 1) 0)) t') (St s h' tk')) :
    wpAny (model prog w) A (call (.builtin "re.Pattern.sub") [.ref pat, .str (sOf repl) u, .str (sOf text) t]) Q E (St s h tk) := by
  have hT : (St s h tk).TypeIs (.ref pat) "re.Pattern" := by
    obtain ⟨o, vs, c, oc, items, n, h1, h2, _⟩ := hp.keeps C.keep
    exact ⟨o, h1, h2⟩
  refine wpAny_call (codeAny_call_builtin slot_re_sub.plain entry_sub (slot_re_sub.check _ _ _ _ _ _ _ _ hT (args_re_sub _ _ _) ?_))
  unfold Builtin.«re.Pattern.sub»
  unfold reSubstitute
  refine wpAny_bind (wpAny_of_eq (a := [some (Value.str (sOf repl) u), some (Value.str (sOf text) t), none]) (by kernel_rfl) ?_)
  refine wpAny_bind (m := (pure (0 : Int) : Sem Int)) (wpAny_pure ?_)
  refine wpAny_bind (wpAny_specialOf (typeIs_str _ _ _) str_nocall ?_)
  refine wpAny_bind (m := asStr? (.str (sOf repl) u)) (wpAny_pure ?_)
  refine wpAny_bind (m := (pure (!(sOf repl).cps.contains 92) : Sem Bool)) (wpAny_pure ?_)
  rw [h92]
  refine wpAny_bind (m := (pure (Value.str (sOf repl) u, (0 : Int)) : Sem (Value × Int))) (wpAny_pure ?_)
  refine wpAny_bind (wpAny_holding (zwhole (s := s) (hp.keeps C.keep) ?_))
  refine wpAny_bind (znewList (s := s) C fun l h2 tk2 C => ?_)
  refine wpAny_pure ⟨plainId_quiet plain_loop _, ?_⟩
  refine sub_loop (s := s) hlen hrl hF hspec hp (text.length + 1) 0 0 h2 _ #[] [] (by omega) (by omega) C .nil (by simp) fun h' tk' t' items' j C => ?_
  exact hq _ _ _ C.tail
end
/-- quotedata -/
theorem quote_call {w : World} {A : Around} {s : Shared} {R : Result → Shared → Prop} {xs : List Nat} {t : Tok} (hA : Room 340 A) (g : Good s.heap) (p1 : PatAt s.heap 61 code1) (p2 : PatAt s.heap 66 code2) (hl : xs.length ≤ 30)
    (h : ∀ h' tk t', Keep s.heap h' → R (.ok (.ret (.str (sOf (sentAll xs)) t'))) (St s h' tk)) :
    codeAny (model pw w) A (.call (.ref 73) ⟨[.str (sOf xs) t], []⟩) R s := by
  refine enter (binds := [("data", .str (sOf xs) t)]) (by unfold recursionLimit; have := hA.2.1; omega) g.lim g.f73 (fun _ _ _ _ _ => BindsTo.of_eq rfl) (by decide +kernel) (by simp; decide +kernel) rfl rfl rfl fun h₁ cd F => ?_
  have C := Cx.of_fr F
  refine wpAny_mono (E := fun _ _ => False) ?_ (fun _ _ x => x) fun _ _ x => x.elim
  refine wpAny_execs_cons (wpAny_Return_some (zmeth plainAttrs_re slot_re_sub type_re_sub (zglob (s := s) g C.keep ⟨?_, ?_, ?_⟩)))
  · obtain ⟨o, vs, c, oc, items, n, h1, h2, _⟩ := p1.keeps C.keep
    exact ⟨o, h1, h2⟩
  · intro a e
    cases e
    obtain ⟨o, vs, c, oc, items, n, h1, h2, h3, _⟩ := p1.keeps C.keep
    exact ⟨o, h1, h3⟩
  refine args_cons (zstrE (s := s) (y := sOf [46, 46]) (by decide +kernel) fun t1 tk1 => args_cons (zmeth plainAttrs_re slot_re_sub type_re_sub (zglob (s := s) g C.keep ⟨?_, ?_, ?_⟩)))
  · obtain ⟨o, vs, c, oc, items, n, h1, h2, _⟩ := p2.keeps C.keep
    exact ⟨o, h1, h2⟩
  · intro a e
    cases e
    obtain ⟨o, vs, c, oc, items, n, h1, h2, h3, _⟩ := p2.keeps C.keep
    exact ⟨o, h1, h3⟩
  refine args_cons (zglob (s := s) g C.keep (args_cons (zld (s := s) C (by walk_at "lk") (args_nil ?_))))
  have e13 : (Value.str "\r\n" 382) = Value.str (sOf [13, 10]) 382 := by
    have : ("\r\n" : Str) = sOf [13, 10] := by decide +kernel
    rw [this]
  rw [e13]
  refine zsub (s := s) (F := F2 xs) C (by omega) (by simp) (by decide +kernel) (fun st hst => ?_) (fun st a b => F2_spec) p2 fun h2 tk2 t2 C => args_nil ?_
  · have := search2 xs.toArray xs.length st hst
    exact this.le (by omega)
  rw [sub2 xs xs.length 0 _ (by omega) (by omega), List.drop_zero]
  have hcl : (crlf xs).length ≤ 100 := by
    have := crlf_len _ xs (Nat.le_refl _)
    omega
  refine zsub (s := s) (F := F1 (crlf xs)) C hcl (by simp) (by decide +kernel) (fun st hst => ?_) (fun st a b => F1_spec) p1 fun h3 tk3 t3 C => ?_
  · have := search1 (crlf xs).toArray (crlf xs).length st hst
    exact this.le (by omega)
  rw [sub1 (crlf xs) (crlf xs).length 0 _ (by omega) (by omega), List.drop_zero]
  rw [show dots ((0 : Nat) == 0 || (crlf xs).getD (0 - 1) 0 == 10) (crlf xs) = dots true (crlf xs) from rfl, quoted]
  exact h _ _ _ C.keep
end Mine.RX
end R6_text
section H0_text
open PySem
set_option maxRecDepth 100000
namespace Mine
namespace GR
theorem sum_flat {α β : Type} (f : α → List β) : ∀ l : List α, (l.flatMap f).length = ((l.map f).map List.length).sum
  | [] => rfl
  | a :: l => by
    rw [List.flatMap_cons, List.length_append, sum_flat f l]
    rfl
theorem total_rings (row : List Int) : total (ringsOf row) = row.length := by
  have S := std row
  have h := S.orbs_perm.length_eq
  rw [List.length_range, sum_flat] at h
  unfold total ringsOf
  refine Eq.trans ?_ h
  rw [List.map_map, List.map_map]
  congr 1
  refine List.map_congr_left fun s _ => ?_
  simp [ringAt, orb]
theorem lexB_first (le : Bool) : ∀ (xs ys : List Int) (k : Nat), xs.length = ys.length → k < xs.length → (∀ j, j < k → xs.getD j 0 = ys.getD j 0) → ys.getD k 0 < xs.getD k 0 → lexB le xs ys = false
  | [], _, k, _, h, _, _ => by simp at h
  | _ :: _, [], _, h, _, _, _ => by simp at h
  | x :: xs, y :: ys, 0, _, _, _, h => by
    have h : y < x := by simpa using h
    have hne : ¬ x = y := by omega
    simp only [lexB, hne, if_false]
    exact decide_eq_false (by omega)
  | x :: xs, y :: ys, k + 1, hl, hk, he, h => by
    have e : x = y := by simpa using he 0 (by omega)
    simp only [lexB, e, if_true]
    exact lexB_first le xs ys k (by simpa using hl) (by simpa using hk) (fun j hj => by simpa using he (j + 1) (by omega)) (by simpa using h)
theorem low_of_lyn {l : List Int} (h : Lyn l) : LowD l := by
  intro c c1 hc
  obtain ⟨k, h1, h2⟩ := h.2 c (by omega) hc
  have hlen : (l.drop c ++ l.take c).length = l.length := by simp; omega
  have hs : ∀ i, seq l i = l.getD (i % l.length) 0 := fun i => rfl
  have hk : k < l.length := by
    apply Classical.byContradiction
    intro q
    have e : ∀ i, seq l i = shift c (seq l) i := by
      intro i
      have hm : i % l.length < l.length := Nat.mod_lt _ h.1
      have := h1 (i % l.length) (by omega)
      rw [seq_mod] at this
      rw [this]
      show seq l (i % l.length + c) = seq l (i + c)
      rw [← seq_mod l (i % l.length + c), ← seq_mod l (i + c), Nat.mod_add_mod]
    have := e k
    omega
  have ht : ∀ i, i < l.length → (l.drop c ++ l.take c).getD i 0 = shift c (seq l) i := fun i hi => by
    rw [turn_get hc hi]
    rfl
  have hq : ∀ i, i < l.length → l.getD i 0 = seq l i := fun i hi => by
    rw [hs, Nat.mod_eq_of_lt hi]
  refine lexB_first true _ _ k hlen (by omega) (fun j hj => ?_) ?_
  · rw [ht j (by omega), hq j (by omega)]
    exact (h1 j hj).symm
  · rw [ht k hk, hq k hk]
    exact h2

/-- the number of some figures -/
noncomputable def valZ (ds : List Int) : Nat := valD 0 (ds.map Int.toNat)
theorem valZ_digs : ∀ (k n : Nat), n < 64 ^ k → valZ (digs n) = n
  | 0, n, h => by
    have : n = 0 := by simpa using h
    subst this
    rw [digs_zero]
    rfl
  | k + 1, n, h => by
    by_cases hn : n = 0
    · subst hn
      rw [digs_zero]
      rfl
    · rw [digs_pos hn]
      have ih := valZ_digs k (n / 64) (by rw [Nat.pow_succ] at h; omega)
      unfold valZ at *
      rw [List.map_append, List.map_cons, List.map_nil, Int.toNat_natCast, valD_snoc, ih]
      omega
theorem lt_pow (n : Nat) : n < 64 ^ n := Nat.lt_pow_self (by decide)
theorem valZ_digs' (n : Nat) : valZ (digs n) = n := valZ_digs n n (lt_pow n)
theorem zs_inj {a b : List Nat} (h : zs a = zs b) : a = b := by
  have := congrArg (List.map Int.toNat) h
  simpa [List.map_map, Function.comp_def] using this
theorem zs_of {l : List Int} (h : ∀ x ∈ l, 0 ≤ x) : zs (l.map Int.toNat) = l := by
  show (l.map Int.toNat).map (fun n : Nat => (n : Int)) = l
  rw [List.map_map]
  refine (List.map_congr_left fun x hx => ?_).trans (List.map_id _)
  show ((x.toNat : Nat) : Int) = x
  have := h x hx
  omega

/-- a row's figures -/
structure RowOk (r : List Nat) : Prop where
  lt : ∀ d ∈ r, d < 64
  pos : ∀ d ∈ r, 0 < d
theorem RowOk.dg {r : List Nat} (h : RowOk r) : (numsOf r).map digs = ringsOf (zs r) := digs_nums r h.lt h.pos
theorem RowOk.lyn {r : List Nat} (h : RowOk r) {n : Nat} (hn : n ∈ numsOf r) : Lyn (digs n) := by
  have : digs n ∈ (numsOf r).map digs := List.mem_map_of_mem hn
  rw [h.dg] at this
  exact lyn_of_rings this
theorem RowOk.total {r : List Nat} (h : RowOk r) : GR.total ((numsOf r).map digs) = r.length := by
  rw [h.dg, total_rings]
  simp
theorem RowOk.nums_lt {r : List Nat} (h : RowOk r) {n : Nat} (hn : n ∈ numsOf r) : n < 64 ^ r.length := by
  have ht := h.total
  unfold numsOf at hn
  obtain ⟨s, hs, rfl⟩ := List.mem_map.mp hn
  have S := std (zs r)
  rw [show (zs r).length = r.length by simp] at S
  have hsn := (S.mem_starts.mp hs).1
  have := valD_lt (ringN r r.length (ord (zs r)) s) 0 0 (by simp) (by
    intro d hd
    unfold ringN at hd
    obtain ⟨c, _, rfl⟩ := List.mem_map.mp hd
    have hlt := S.it_lt hsn (c + 1)
    refine h.lt _ ?_
    rw [List.getD, List.getElem?_eq_getElem hlt]
    exact List.getElem_mem _)
  have hp := (S.per_spec hsn).2.1
  have hl : (ringN r r.length (ord (zs r)) s).length ≤ r.length := by simpa [ringN] using hp
  rw [Nat.zero_add] at this
  exact Nat.lt_of_lt_of_le this (Nat.pow_le_pow_right (by decide) hl)
theorem RowOk.nums_len {r : List Nat} (h : RowOk r) : (numsOf r).length ≤ r.length := by
  have ht := h.total
  have key : ∀ l : List Nat, (∀ n ∈ l, Lyn (digs n)) → l.length ≤ GR.total (l.map digs) := by
    intro l
    induction l with
    | nil => intro _; simp [GR.total]
    | cons a l ih =>
      intro hl
      have h1 := (hl a (.head _)).1
      have h2 := ih fun n hn => hl n (.tail _ hn)
      unfold GR.total at *
      simp only [List.map_cons, List.sum_cons, List.length_cons]
      omega
  rw [← ht]
  exact key _ fun n hn => h.lyn hn
theorem RowOk.ne {r : List Nat} (h : RowOk r) (hr : r ≠ []) : numsOf r ≠ [] := by
  intro e
  have := h.total
  rw [e] at this
  have : r.length = 0 := by simpa [GR.total] using this.symm
  exact hr (List.eq_nil_of_length_eq_zero this)
theorem RowOk.column {r : List Nat} (h : RowOk r) {T : List (List Int × Int)} (hp : T.Perm (turnsOf ((numsOf r).map digs) (2 * GR.total ((numsOf r).map digs)))) (hs : T.Pairwise fun a b => ltP b a = false) : T.map (·.2) = zs r := by
  rw [h.total, h.dg] at hp
  refine column_rings (zs r) T ?_ hs
  rw [show (zs r).length = r.length by simp]
  exact hp
theorem digs_mem_pos {n : Nat} : ∀ (k : Nat), n < 64 ^ k → ∀ x ∈ digs n, 0 ≤ x ∧ x < 64 := by
  intro k
  induction k generalizing n with
  | zero =>
    intro h
    have : n = 0 := by simpa using h
    subst this
    rw [digs_zero]
    simp
  | succ k ih =>
    intro h x hx
    by_cases hn : n = 0
    · subst hn
      rw [digs_zero] at hx
      cases hx
    · rw [digs_pos hn] at hx
      rcases List.mem_append.mp hx with hx | hx
      · exact ih (by rw [Nat.pow_succ] at h; omega) x hx
      · simp at hx
        omega
/-- a lot of such numbers: its column is a row, and the row's numbers are the lot -/
theorem lot_column {r : List Nat} (h : RowOk r) {lot : List Nat} (hl : ∀ n ∈ lot, n ∈ numsOf r) {T : List (List Int × Int)} (hp : T.Perm (turnsOf (lot.map digs) (2 * GR.total (lot.map digs)))) (hs : T.Pairwise fun a b => ltP b a = false) :
    ∃ r2 : List Nat, T.map (·.2) = zs r2 ∧ RowOk r2 ∧ r2.length = GR.total (lot.map digs) ∧ (numsOf r2).Perm lot := by
  have hlyn : ∀ l ∈ lot.map digs, Lyn l := by
    intro l hl2
    obtain ⟨n, hn, rfl⟩ := List.mem_map.mp hl2
    exact h.lyn (hl n hn)
  -- the figures of the column
  have hfig : ∀ x ∈ T.map (·.2), 0 < x ∧ x < 64 := by
    intro x hx
    have h1 : x ∈ (turnsOf (lot.map digs) (2 * GR.total (lot.map digs))).map (·.2) := (hp.map _).mem_iff.mp hx
    unfold turnsOf at h1
    obtain ⟨q, hq, rfl⟩ := List.mem_map.mp h1
    obtain ⟨l, hl2, hq⟩ := List.mem_flatMap.mp hq
    obtain ⟨c, hc, rfl⟩ := List.mem_map.mp hq
    obtain ⟨n, hn, rfl⟩ := List.mem_map.mp hl2
    -- a figure of a ring of r is a figure of r
    have hm : digs n ∈ (numsOf r).map digs := List.mem_map_of_mem (hl n hn)
    rw [h.dg] at hm
    unfold ringsOf at hm
    obtain ⟨st, hst, e⟩ := List.mem_map.mp hm
    have S := std (zs r)
    have hsn := (S.mem_starts.mp hst).1
    have h0 : 0 < (digs n).length := (hlyn _ hl2).1
    have hx : lastOf (digs n) c ∈ digs n := by
      unfold lastOf seq
      have hmm : (c + (digs n).length - 1) % (digs n).length < (digs n).length := Nat.mod_lt _ h0
      rw [List.getD, List.getElem?_eq_getElem hmm]
      exact List.getElem_mem _
    have hx2 := hx
    have hx2 : lastOf (ringAt (fig (zs r)) (zs r).length (ord (zs r)) st) c ∈ (List.range (per (zs r).length (ord (zs r)) st)).map (U (fig (zs r)) (ord (zs r)) st) := by
      rw [← e] at hx2
      exact hx2
    obtain ⟨j, _, e2⟩ := List.mem_map.mp hx2
    have hlt := S.it_lt hsn (j + 1)
    have hlt2 : it (ord (zs r)) (j + 1) st < r.length := by simpa using hlt
    have e3 : U (fig (zs r)) (ord (zs r)) st j = ((r.getD (it (ord (zs r)) (j + 1) st) 0 : Nat) : Int) := by
      unfold U
      exact fig_zs r _
    have hmem : r.getD (it (ord (zs r)) (j + 1) st) 0 ∈ r := by
      rw [List.getD, List.getElem?_eq_getElem hlt2]
      exact List.getElem_mem _
    have a1 := h.pos _ hmem
    have a2 := h.lt _ hmem
    show 0 < lastOf (digs n) c ∧ lastOf (digs n) c < 64
    have e4 : lastOf (digs n) c = ((r.getD (it (ord (zs r)) (j + 1) st) 0 : Nat) : Int) := by
      have : lastOf (digs n) c = lastOf (ringAt (fig (zs r)) (zs r).length (ord (zs r)) st) c := by rw [e]
      rw [this, ← e3]
      exact e2.symm
    rw [e4]
    omega
  have hz : zs ((T.map (·.2)).map Int.toNat) = T.map (·.2) := zs_of fun x hx => by have := hfig x hx; omega
  have ok : RowOk ((T.map (·.2)).map Int.toNat) := by
    constructor
    · intro d hd
      obtain ⟨x, hx, rfl⟩ := List.mem_map.mp hd
      have := hfig x hx
      omega
    · intro d hd
      obtain ⟨x, hx, rfl⟩ := List.mem_map.mp hd
      have := hfig x hx
      omega
  refine ⟨(T.map (·.2)).map Int.toNat, hz.symm, ok, ?_, ?_⟩
  · rw [List.length_map, List.length_map, hp.length_eq, turns_len]
  · have P := rings_column (lot.map digs) hlyn T hp hs
    rw [← hz, ← ok.dg] at P
    have P2 := P.map valZ
    have e0 : ∀ l : List Nat, (l.map digs).map valZ = l.map (valZ ∘ digs) := fun l => List.map_map
    rw [e0, e0] at P2
    have e : ∀ l : List Nat, l.map (valZ ∘ digs) = l := fun l => (List.map_congr_left fun n _ => valZ_digs' n).trans (List.map_id _)
    rw [e, e] at P2
    exact P2
theorem sorted_eq {a b : List Int} (p : a.Perm b) (ha : a.Pairwise (· ≤ ·)) (hb : b.Pairwise (· ≤ ·)) : a = b :=
  List.Perm.eq_of_pairwise (le := (· ≤ ·)) (fun x y _ _ h g => by omega) ha hb p
end GR
end Mine
end H0_text
section H1_text
open PySem
set_option maxRecDepth 100000
namespace Mine
open RX

/-- what the law reads of its script -/
noncomputable def drawnOf (ns : List Int) : List Nat :=
  let d := (ns.take 5).map fun x => (x % 1000000).toNat
  d ++ [22, 7, 5, 0, 27].drop d.length ++ [16]
theorem drawn_len (ns : List Int) : (drawnOf ns).length = 6 := by
  unfold drawnOf
  simp
  omega
theorem drawn_split (ns : List Int) : ∃ l, drawnOf ns = l ++ [16] := ⟨_, rfl⟩

noncomputable def hid (c : Nat) : Bool := decide ((c : Int) ∈ b1L)
noncomputable def foldN (c : Nat) : List Nat := (foldOf c).cps.toList
noncomputable def prepOf (l : List Nat) : List Nat := (l.filter fun c => !hid c).flatMap foldN
noncomputable def plainSet : List (List Nat) := [[46], [10], [13], [13, 10], [102], [105], [115], [116], [102, 102], [102, 105], [115, 115], [115, 116], []]
noncomputable def okPiece (p : List Nat × List Nat) : Bool := p.1.all foldOk && (prepOf p.1 == p.2) && decide (p.1.length ≤ 2) && plainSet.contains p.2
theorem ok0 : okPiece ([46], [46]) = true := by decide +kernel
theorem ok1 : endsL.all (fun e => okPiece (e, e)) = true := by decide +kernel
theorem ok2 : fistL.all (fun e => okPiece ([e], [e])) = true := by decide +kernel
theorem ok3 : capsL.all (fun c => fistL.all fun e => okPiece ([c + e - 97], [e])) = true := by decide +kernel
theorem ok4 : foldedL.all okPiece = true := by decide +kernel
theorem ok5 : b1N.all (fun c => okPiece ([c], [])) = true := by decide +kernel
theorem getD_mem {α : Type} {l : List α} {i : Nat} {d : α} (h : i < l.length) : l.getD i d ∈ l := by
  rw [List.getD, List.getElem?_eq_getElem h]
  exact List.getElem_mem _
theorem ok_piece (n : Nat) : okPiece (pieceOf n) = true := by
  unfold pieceOf
  split
  · exact ok0
  · split
    · exact List.all_eq_true.mp ok1 _ (getD_mem (Nat.mod_lt _ (by decide)))
    · split
      · exact List.all_eq_true.mp ok2 _ (getD_mem (Nat.mod_lt _ (by decide)))
      · split
        · exact List.all_eq_true.mp (List.all_eq_true.mp ok3 _ (getD_mem (Nat.mod_lt _ (by decide)))) _ (getD_mem (Nat.mod_lt _ (by decide)))
        · split
          · exact List.all_eq_true.mp ok4 _ (getD_mem (Nat.mod_lt _ (by decide)))
          · exact List.all_eq_true.mp ok5 _ (getD_mem (by have : b1N.length = 27 := by decide
                                                          rw [this]; exact Nat.mod_lt _ (by decide)))
theorem ok_parts {n : Nat} : (∀ c ∈ (pieceOf n).1, foldOk c = true) ∧ prepOf (pieceOf n).1 = (pieceOf n).2 ∧ (pieceOf n).1.length ≤ 2 ∧ (pieceOf n).2 ∈ plainSet := by
  have h := ok_piece n
  unfold okPiece at h
  simp only [Bool.and_eq_true, List.all_eq_true, beq_iff_eq, decide_eq_true_eq, List.contains_iff_mem] at h
  exact ⟨h.1.1.1, h.1.1.2, h.1.2, h.2⟩

noncomputable def spelledOf (dr : List Nat) : List Nat := (dr.map fun n => (pieceOf n).1).flatten
noncomputable def plainOf (dr : List Nat) : List Nat := (dr.map fun n => (pieceOf n).2).flatten
theorem prep_append (a b : List Nat) : prepOf (a ++ b) = prepOf a ++ prepOf b := by simp [prepOf]
theorem prep_plain : ∀ dr : List Nat, prepOf (spelledOf dr) = plainOf dr
  | [] => rfl
  | n :: dr => by
    show prepOf ((pieceOf n).1 ++ spelledOf dr) = (pieceOf n).2 ++ plainOf dr
    rw [prep_append, ok_parts.2.1, prep_plain dr]
theorem spelled_ok {dr : List Nat} {c : Nat} (h : c ∈ spelledOf dr) : foldOk c = true := by
  unfold spelledOf at h
  obtain ⟨l, hl, hc⟩ := List.mem_flatten.mp h
  obtain ⟨n, _, rfl⟩ := List.mem_map.mp hl
  exact ok_parts.1 c hc
theorem spelled_len : ∀ dr : List Nat, (spelledOf dr).length ≤ 2 * dr.length
  | [] => by simp [spelledOf]
  | n :: dr => by
    show ((pieceOf n).1 ++ spelledOf dr).length ≤ _
    have := spelled_len dr
    have h2 := (ok_parts (n := n)).2.2.1
    simp only [List.length_append, List.length_cons]
    omega
noncomputable def lastA (ah : List Nat) (l : List Nat) : List Nat := match l.getLast? with
  | some c => [c]
  | none => ah
theorem go_append : ∀ (a b ah : List Nat), go ah (a ++ b) = go ah a ++ go (lastA ah a) b
  | [], b, ah => rfl
  | c :: a, b, ah => by
    rw [List.cons_append, go_cons, go_cons, go_append a b [c], List.append_assoc]
    congr 3
    unfold lastA
    cases a with
    | nil => rfl
    | cons d a =>
      rw [List.getLast?_cons_cons, List.getLast?_cons]
theorem sent_single (ah : List Nat) (c : Nat) : (go ah [c]).length ≤ 2 := by
  rw [go_cons, List.length_append]
  exact sentOf_len ah c
theorem sent_letter (ah : List Nat) {c : Nat} (h1 : c ≠ 13) (h2 : c ≠ 10) (h3 : c ≠ 46) : sentOf ah c = [c] := by
  unfold sentOf
  rw [if_neg (fun h => h.elim h1 fun h => h2 h.1), if_neg (fun h => h3 h.1), if_pos h2]
theorem sent_pair (ah : List Nat) {c d : Nat} (h : c ∈ [102, 115]) (h' : d ∈ [102, 105, 115, 116]) : (go ah [c, d]).length ≤ 2 := by
  have k : ∀ c ∈ [102, 105, 115, 116], c ≠ 13 ∧ c ≠ 10 ∧ c ≠ 46 := by decide
  have hc := k c (by revert c; decide)
  have hd := k d h'
  rw [go_cons, go_cons, sent_letter ah hc.1 hc.2.1 hc.2.2, sent_letter [c] hd.1 hd.2.1 hd.2.2]
  exact Nat.le_refl 2
theorem go_small {p : List Nat} (h : p ∈ plainSet) (ah : List Nat) : (go ah p).length ≤ 2 := by
  have k : ∀ p ∈ plainSet, (∃ c, p = [c]) ∨ p = [13, 10] ∨ p = [] ∨ ∃ c d, p = [c, d] ∧ c ∈ [102, 115] ∧ d ∈ [102, 105, 115, 116] := by
    intro p h
    unfold plainSet at h
    repeat first
      | exact absurd h (by exact List.not_mem_nil)
      | (rcases List.mem_cons.mp h with rfl | h'
         · first
           | exact .inl ⟨_, rfl⟩
           | exact .inr (.inl rfl)
           | exact .inr (.inr (.inl rfl))
           | exact .inr (.inr (.inr ⟨_, _, rfl, by decide, by decide⟩))
         clear h; rename_i h'; have h := h'; clear h')
  rcases k p h with ⟨c, rfl⟩ | rfl | rfl | ⟨c, d, rfl, h1, h2⟩
  · exact sent_single ah c
  · rw [go_cons, show sentOf ah 13 = [13, 10] from if_pos (.inl rfl)]
    exact Nat.le_refl 2
  · exact Nat.zero_le _
  · exact sent_pair ah h1 h2
theorem plain_len : ∀ dr : List Nat, (plainOf dr).length ≤ 2 * dr.length
  | [] => by simp [plainOf]
  | n :: dr => by
    show ((pieceOf n).2 ++ plainOf dr).length ≤ _
    have := plain_len dr
    have h2 := (ok_parts (n := n)).2.2.2
    have h3 : (pieceOf n).2.length ≤ 2 := by
      have : ∀ p ∈ plainSet, p.length ≤ 2 := by decide
      exact this _ h2
    simp only [List.length_append, List.length_cons]
    omega
theorem sent_len : ∀ (dr ah : List Nat), (go ah (plainOf dr)).length ≤ 2 * dr.length
  | [], ah => by simp [plainOf, go]
  | n :: dr, ah => by
    show (go ah ((pieceOf n).2 ++ plainOf dr)).length ≤ _
    rw [go_append]
    have := sent_len dr (lastA ah (pieceOf n).2)
    have h2 := go_small (ok_parts (n := n)).2.2.2 ah
    simp only [List.length_append, List.length_cons]
    omega
noncomputable def signs : List Nat := [10, 13, 46, 102, 105, 115, 116]
theorem go_mem : ∀ (l ah : List Nat) (x : Nat), x ∈ go ah l → x ∈ l ∨ x = 13 ∨ x = 10 ∨ x = 46
  | [], _, _, h => by cases h
  | c :: l, ah, x, h => by
    rw [go_cons] at h
    rcases List.mem_append.mp h with h | h
    · unfold sentOf at h
      split at h
      · simp at h; omega
      · split at h
        · simp at h; omega
        · split at h
          · simp at h; exact .inl (by simp [h])
          · cases h
    · rcases go_mem l [c] x h with h | h
      · exact .inl (.tail _ h)
      · exact .inr h
theorem plain_signs {dr : List Nat} {c : Nat} (h : c ∈ plainOf dr) : c ∈ signs := by
  unfold plainOf at h
  obtain ⟨l, hl, hc⟩ := List.mem_flatten.mp h
  obtain ⟨n, _, rfl⟩ := List.mem_map.mp hl
  have : ∀ p ∈ plainSet, ∀ c ∈ p, c ∈ signs := by decide
  exact this _ (ok_parts (n := n)).2.2.2 c hc
theorem sent_signs {dr : List Nat} {c : Nat} (h : c ∈ sentAll (plainOf dr)) : c ∈ signs := by
  rw [sentAll_go] at h
  rcases go_mem _ _ _ h with h | h | h | h
  · exact plain_signs h
  · subst h; decide
  · subst h; decide
  · subst h; decide
/-- a sign's figure -/
noncomputable def figOf (c : Nat) : Nat := signs.idxOf c + 1
noncomputable def rowOf (dr : List Nat) : List Nat := (sentAll (plainOf dr)).map figOf
theorem row_ok (dr : List Nat) : GR.RowOk (rowOf dr) := by
  have key : ∀ c ∈ signs, 0 < figOf c ∧ figOf c < 64 := by decide
  constructor
  · intro d hd
    obtain ⟨c, hc, rfl⟩ := List.mem_map.mp hd
    exact (key c (sent_signs hc)).2
  · intro d hd
    obtain ⟨c, hc, rfl⟩ := List.mem_map.mp hd
    exact (key c (sent_signs hc)).1
theorem row_len (dr : List Nat) : (rowOf dr).length ≤ 2 * dr.length := by
  unfold rowOf
  rw [List.length_map, sentAll_go]
  exact sent_len dr []
theorem row_ne (l : List Nat) : rowOf (l ++ [16]) ≠ [] := by
  unfold rowOf
  rw [sentAll_go]
  have e : plainOf (l ++ [16]) = plainOf l ++ [115, 115] := by
    unfold plainOf
    rw [List.map_append, List.flatten_append]
    rfl
  rw [e, go_append]
  intro h
  have := congrArg List.length h
  simp [go, sentOf] at this
end Mine
end H1_text
section V0_text
open PySem PySem.W PySem.Calls PyProof.Rows
set_option maxRecDepth 100000
namespace Mine

noncomputable def st23 (i : Nat) : Stmt := (sBody (stm 23))[i]?.getD (.Pass default)
noncomputable abbrev env23 (L : Addr) (cd : Value) : Env := envOf (sName (stm 23)) (sScope (stm 23)) L 182 cd
noncomputable def d5 (ns : List Int) : List Nat := (ns.take 5).map fun x => (x % 1000000).toNat

section
variable {w : World} {A : Around} {E : Value → Shared → Prop} {s : Shared} {h G : Heap} {tk : Nat} {L : Addr} {cd : Value} {m : Str → Option Value} {news : List (Addr × Obj)}

/-- drawn = [x % 1000000 for x in script[:5]] -/
theorem law0 {Q : Flow → Shared → Prop} {ls : Addr} {vs : Array Value} {ns : List Int} (hA : Room 310 A) (C : Cx G L h m news) (m1 : m "script" = some (.ref ls)) (hls : G.IsList ls vs) (hvs : IntsAre vs.toList ns) (hlen : ns.length ≤ 63)
    (hq : ∀ G' h' m' tk' D, Keep G G' → Cx G' L h' m' news → m' "drawn" = some (.ref D) → Ints G' D (zs (d5 ns)) → Q .next (St s h' tk')) :
    wpAny (model pw w) A (exec (st23 0) (env23 L cd)) Q E (St s h tk) := by
  have hsz : vs.size = ns.length := by have := hvs.length; simpa using this
  refine zAssignComp (zslice ?_)
  refine zld (s := s) C m1 (wpAny_evalPart_none (wpAny_evalPart_some (zint fun t5 tk5 => ?_)))
  refine zslice_end (s := s) (vs.toList.take 5) C (ilk hls C.keep) .none (.int _ _) (slicePick_upto' _ 5) (fun h6 tk6 a C => ?_) (by rw [sizeLine_eq]; omega)
  obtain ⟨G1, C, kG1, hold⟩ := C.layN 1
  refine zsrcList (s := s) hA.1 C (isList_of (hold (a, listOf (vs.toList.take 5).toArray 0) (by simp))) fun h7 tk7 I oI S C W hlive hfp hS => ?_
  have hts : (vs.toList.take 5).toArray.size = (ns.take 5).length := by simp; omega
  refine zcompEndU (s := s) (fun _ => true) (fun G i v => ∃ t, v = .int (((d5 ns).getD i 0 : Nat) : Int) t) (fun _ _ _ _ _ x => x) W hlive hfp C hS (by rw [hts]; simp; omega) (fun Cc => stepPlain fun i v G2 h3 tk3 m3 news3 E' hi hv kG C hm => ?_) fun D G2 h3 tk3 ys j kG C hys => ?_
  · have hv : vs.toList[i]? = some v := by
      have e : (vs.toList.take 5)[i]? = some v := by simpa using hv
      rw [List.getElem?_take_of_lt (by simp at hi; omega)] at e
      exact e
    obtain ⟨x, t, rfl, hx⟩ := hvs.at i v hv
    have hd : ((d5 ns).getD i 0 : Int) = x % 1000000 := by
      unfold d5
      have h5 : i < 5 := by simp at hi; omega
      rw [List.getD, List.getElem?_map, List.getElem?_take_of_lt h5, hx]
      show (((x % 1000000).toNat : Nat) : Int) = _
      have := Int.emod_nonneg x (show (1000000 : Int) ≠ 0 by decide)
      omega
    refine wpAny_BinOp (zldE C hm (zint fun t1 tk1 => mod_int' (s := St s h3 tk1) (by decide) ?_))
    rw [Int.fmod_eq_emod_of_nonneg _ (by decide), ← hd]
    exact ⟨G2, h3, _, _, rfl, Keep.rfl', C, _, rfl⟩
  · have hints := paired_ints hys
    rw [took_all, hts] at hints
    have e : (List.range (ns.take 5).length).map (fun i => (((d5 ns).getD i 0 : Nat) : Int)) = zs (d5 ns) := by
      have hl : (ns.take 5).length = (d5 ns).length := by simp [d5]
      rw [hl]
      have := congrArg (List.map fun n : Nat => (n : Int)) (map_getD_range 0 (d5 ns))
      rw [List.map_map] at this
      exact this
    rw [e] at hints
    obtain ⟨G3, C, kG3, hold3⟩ := C.layN 1
    exact hq G3 h3 _ tk3 D ((kG1.tr kG).tr kG3) C (if_pos rfl) ⟨ys, j, hold3 (D, listOf ys j) (by simp), hints⟩

/-- a slice of a list, whatever the list's own term is -/
theorem zsliceD {prog : Program} {env : Env} {value : PySem.Expr} {lower upper : Option PySem.Expr} {p pos : Pos} {s : Shared} {Q : Value → Shared → Prop}
    (hq : wpAny (model prog w) A (eval value env) (fun o s₁ => wpAny (model prog w) A (evalPart lower env) (fun vl s₂ => wpAny (model prog w) A (evalPart upper env) (fun vu s₃ => SliceAt o vl vu Q s₃) E s₂) E s₁) E s) :
    wpAny (model prog w) A (eval (.Subscript value (.Slice lower upper none p) pos) env) Q E s := by
  refine Subscript_ ?_
  refine wpAny_mono hq (fun o s₁ h₁ => ?_) fun _ _ x => x
  refine wpAny_Slice ?_
  refine wpAny_mono h₁ (fun vl s₂ h₂ => ?_) fun _ _ x => x
  refine wpAny_mono h₂ (fun vu s₃ h₃ => ?_) fun _ _ x => x
  obtain ⟨l, items, lo, hi, rfl, hl, hsz, pl, pu, hQ⟩ := h₃
  refine evalPart_none_step ?_
  refine kba_turn (value' := PySem.Expr.Name "x" ⟨0, 0, 0, 0⟩) (fun _ => rfl) ?_
  refine tail_any (hl.push _).typeIs slot_list_getitem.lookup (wpAny_getItem_list_slice (hl.push _) (Heap.IsSliceOf.new ..) pl pu .none (by simp) ?_ hsz) rfl
  rw [Heap.size_push]
  exact hQ
/-- drawn = drawn + [22, 7, 5, 0, 27][len(drawn):] + [16] -/
theorem law1 {Q : Flow → Shared → Prop} {D : Addr} {ds : List Nat} (g : Good G) (C : Cx G L h m news) (m1 : m "drawn" = some (.ref D)) (hD : Ints G D (zs ds)) (hlen : ds.length ≤ 5)
    (hq : ∀ G' h' m' tk' D', Keep G G' → Cx G' L h' m' news → m' "drawn" = some (.ref D') → Ints G' D' (zs (ds ++ [22, 7, 5, 0, 27].drop ds.length ++ [16])) → Q .next (St s h' tk')) :
    wpAny (model pw w) A (exec (st23 1) (env23 L cd)) Q E (St s h tk) := by
  obtain ⟨its, j, hD, hi⟩ := hD
  have hsz : its.size = ds.length := by have := hi.length; simpa using this
  refine wpAny_Assign_Name ?_ ?_
  rotate_left
  · rfl
  refine wpAny_BinOp (wpAny_BinOp (zld (s := s) C m1 ?_))
  refine zsliceD ?_
  with_reducible refine zListI (s := s) (ns := zs [22, 7, 5, 0, 27]) ?_ fun v1 tk1 h1 => ?_
  · decide +kernel
  have hv1 : v1.length = 5 := by have := h1.length; simpa using this
  refine znewList (s := s) C (fun l1 h2 tk2 C => ?_) (by rw [hv1, sizeLine_eq]; decide)
  refine wpAny_evalPart_some (zcallB (s := s) g C.keep (args_cons (zld (s := s) C m1 (args_nil (zlen_list ds.length (isList_of (C.keep _ _ hD)) hsz (by omega) fun t3 tk3 => wpAny_evalPart_none ?_)))))
  refine zslice_end (s := s) (v1.drop ds.length) C (isList_of C.hd) (.int _ _) .none (slicePick_from' _ _) (fun h4 tk4 a4 C => ?_) (by rw [List.size_toArray, hv1, sizeLine_eq]; decide)
  refine zadd_lists (s := s) C (isList_of (C.keep _ _ hD)) (isList_of C.hd) (fun l5 h5 tk5 C => ?_) (by simp only [List.size_toArray, List.length_drop, Array.length_toList, hv1, hsz, sizeLine_eq]; omega)
  with_reducible refine zListI (s := s) (ns := zs [16]) ?_ fun v6 tk6 h6 => ?_
  · decide +kernel
  have hv6 : v6.length = 1 := by have := h6.length; simpa using this
  refine znewList (s := s) C (fun l7 h7 tk7 C => ?_) (by rw [hv6, sizeLine_eq]; decide)
  refine zadd_lists (s := s) C (isList_of (C.led (l5, _) (.tail _ (.head _))).1) (isList_of C.hd) (fun l8 h8 tk8 C => ?_) (by simp only [List.size_toArray, List.length_append, List.length_drop, Array.length_toList, hv1, hv6, hsz, sizeLine_eq]; omega)
  refine zst (s := s) C fun h9 tk9 C => ?_
  obtain ⟨G3, C, kG3, hold3⟩ := C.layN 1
  have C := C.dropN 4
  refine hq G3 h9 _ tk9 l8 kG3 C (if_pos rfl) ⟨_, 0, hold3 _ (.head _), ?_⟩
  have h1' : IntsAre (v1.drop ds.length) (zs ([22, 7, 5, 0, 27].drop ds.length)) := by
    have := h1.drop ds.length
    rw [← List.map_drop] at this
    exact this
  have := ints_append (ints_append hi h1') h6
  simpa using this
end
end Mine
end V0_text
section V1_text
open PySem PySem.W PySem.Calls PyProof.Rows
set_option maxRecDepth 100000
namespace Mine

/-- the list of the pieces' tuples -/
noncomputable def PiecesAt (G : Heap) (D : Addr) (dr : List Nat) : Prop := ∃ ys j, G.get? D = some (listOf ys j) ∧ PySem.Paired (fun i v => ∃ T t u, v = .ref T ∧ G.get? T = some (tupOf (pieceOf (dr.getD i 0)).1 (pieceOf (dr.getD i 0)).2 t u)) (List.range dr.length) ys.toList
theorem PiecesAt.keeps {G G' : Heap} {D : Addr} {dr : List Nat} (x : PiecesAt G D dr) (k : Keep G G') : PiecesAt G' D dr :=
  let ⟨ys, j, e, p⟩ := x; ⟨ys, j, k _ _ e, p.mono fun _ _ ⟨T, t, u, a, b⟩ => ⟨T, t, u, a, k _ _ b⟩⟩
theorem paired_strs {f : Nat → List Nat} : ∀ {l : List Nat} {ys : List Value}, PySem.Paired (fun i y => ∃ t, y = .str (sOf (f i)) t) l ys → StrsAre ys ((l.map f).map sOf)
  | _, _, .nil => .nil
  | _, _, .cons ⟨t, e⟩ r => by subst e; exact .cons _ _ (paired_strs r)
theorem flat_len {f : Nat → List Nat} {k : Nat} : ∀ (l : List Nat), (∀ i ∈ l, (f i).length ≤ k) → ((l.map f).map List.length).sum ≤ k * l.length
  | [], _ => by simp
  | i :: l, h => by
    have h1 := h i (.head _)
    have h2 := flat_len l fun j hj => h j (.tail _ hj)
    simp only [List.map_cons, List.sum_cons, List.length_cons, Nat.mul_succ]
    omega
section
variable {w : World} {A : Around} {E : Value → Shared → Prop} {s : Shared} {h G : Heap} {tk : Nat} {L : Addr} {cd : Value} {m : Str → Option Value} {news : List (Addr × Obj)}

/-- pieces = [_law_piece(number) for number in drawn] -/
theorem law2 {Q : Flow → Shared → Prop} {D : Addr} {dr : List Nat} (hA : Room 310 A) (g : Good G) (C : Cx G L h m news) (m1 : m "drawn" = some (.ref D)) (hD : Ints G D (zs dr)) (hlen : dr.length ≤ 6)
    (hq : ∀ G' h' m' tk' P, Keep G G' → Cx G' L h' m' news → m' "drawn" = some (.ref D) → m' "pieces" = some (.ref P) → PiecesAt G' P dr → Q .next (St s h' tk')) :
    wpAny (model pw w) A (exec (st23 2) (env23 L cd)) Q E (St s h tk) := by
  obtain ⟨its, j0, hD, hi⟩ := hD
  have hsz : its.size = dr.length := by have := hi.length; simpa using this
  refine zAssignComp (zld (s := s) C m1 ?_)
  refine zsrcList (s := s) hA.1 C (isList_of hD) fun h7 tk7 I oI S C W hlive hfp hS => ?_
  refine zcompEndU (s := s) (fun _ => true) (fun G i v => ∃ T t u, v = .ref T ∧ G.get? T = some (tupOf (pieceOf (dr.getD i 0)).1 (pieceOf (dr.getD i 0)).2 t u)) (fun _ _ _ _ k ⟨T, t, u, a, b⟩ => ⟨T, t, u, a, k _ _ b⟩) W hlive hfp C hS (by omega) (fun Cc => stepPlain fun i v G2 h3 tk3 m3 news3 E' hi2 hv kG C hm => ?_) fun P G2 h3 tk3 ys j kG C hys => ?_
  · obtain ⟨n, t, hn1, rfl⟩ := ints_nat hi i v (by simpa using hv)
    have hgd : dr.getD i 0 = n := by simp [List.getD, hn1]
    refine zcall (s := s) (g.keeps kG) C.keep (g.keeps kG).f144 (args_cons (zldE C hm (args_nil ⟨C.keep, ?_⟩)))
    refine wpAny_call (piece_call (s := St s h3 tk3) (hA.mono (by decide)) ((g.keeps kG).keeps C.keep) fun T h4 tk4 t u k4 hn4 hT => ?_)
    obtain ⟨G4, C4, kG4, hold⟩ := C.freezeF k4
    exact ⟨G4, h4, tk4, _, rfl, kG4, C4, T, t, u, rfl, by rw [hgd]; exact hold _ _ hn4 hT⟩
  · rw [took_all, hsz] at hys
    obtain ⟨G3, C, kG3, hold3⟩ := C.layN 1
    exact hq G3 h3 _ tk3 P (kG.tr kG3) C ((if_neg (by decide)).trans m1) (if_pos rfl) ⟨ys, j, hold3 _ (.head _), hys.mono fun _ _ ⟨T, t, u, a, b⟩ => ⟨T, t, u, a, kG3 _ _ b⟩⟩

/-- spelled = ''.join([piece[0] for piece in pieces]) -/
theorem law3 {Q : Flow → Shared → Prop} {P : Addr} {dr : List Nat} (hA : Room 310 A) (C : Cx G L h m news) (m1 : m "pieces" = some (.ref P)) (hP : PiecesAt G P dr) (hlen : dr.length ≤ 6)
    (hq : ∀ G' h' m' tk' t, Keep G G' → Cx G' L h' m' news → m' "spelled" = some (.str (sOf (spelledOf dr)) t) → (∀ y : Str, y ≠ "spelled" → m' y = m y) → Q .next (St s h' tk')) :
    wpAny (model pw w) A (exec (st23 3) (env23 L cd)) Q E (St s h tk) := by
  obtain ⟨ps, j0, hP, hps⟩ := hP
  have hsz : ps.size = dr.length := by have := hps.length; simpa using this.symm
  refine wpAny_Assign_Name (zmeth PySem.F.plainAttrs_str PySem.F.slot_str_join PySem.F.type_str_join (zstrE (s := s) (y := sOf []) (by decide +kernel) fun t1 tk1 => ⟨typeIs_str _ _ _, (fun a e => nomatch e), args_cons (zListComp (zld (s := s) C m1 ?_))⟩))
  refine zsrcList (s := s) hA.1 C (isList_of hP) fun h7 tk7 I oI S C W hlive hfp hS => ?_
  refine zcompEnd (s := s) (fun _ => true) (fun G i v => ∃ t, v = .str (sOf ((pieceOf (dr.getD i 0)).1)) t) (fun _ _ _ _ _ x => x) W hlive hfp C hS (by omega) (fun Cc => stepPlain fun i v G2 h3 tk3 m3 news3 E' hi2 hv kG C hm => ?_) fun D G2 h3 tk3 ys j kG C hys => ?_
  · obtain ⟨v', hv', T, t, u, rfl, hT⟩ := paired_at hps i i (by rw [List.getElem?_range (by omega)])
    have e : ps.toList[i]? = ps[i]? := Array.getElem?_toList
    rw [e, show ps[i]? = some v from hv] at hv'
    cases hv'
    refine Subscript_ (zldE C hm (zint fun t2 tk2 => zitemT 0 ⟨_, C.keep _ _ (kG _ _ hT), rfl, _, rfl⟩ rfl rfl (by decide) ⟨G2, h3, _, _, rfl, Keep.rfl', C, _, rfl⟩))
  · rw [took_all, hsz] at hys
    have hst := paired_strs (f := fun i => (pieceOf (dr.getD i 0)).1) hys
    have hmap : (List.range dr.length).map (fun i => (pieceOf (dr.getD i 0)).1) = dr.map fun n => (pieceOf n).1 := by
      have := congrArg (List.map fun n => (pieceOf n).1) (map_getD_range 0 dr)
      rw [List.map_map] at this
      exact this
    rw [hmap] at hst
    have hle : ((dr.map fun n => (pieceOf n).1).map List.length).sum ≤ 2 * dr.length := flat_len dr fun n _ => ok_parts.2.2.1
    refine args_nil (join_listW (s := St s h3 tk3) (isList_of C.hd) hst (by show ([] : List Nat).toArray.size ≤ _; simp) ?_ fun t' k => ?_)
    · rw [List.map_map, List.length_map, List.length_map]
      have e : ((dr.map fun n => (pieceOf n).1).map (Str.length ∘ sOf)) = (dr.map fun n => (pieceOf n).1).map List.length := List.map_congr_left fun x _ => by simp [Str.length]
      rw [e]
      omega
    · rw [RX.joined]
      refine zst (s := s) (C.dropN 1) fun h9 tk9 C => ?_
      exact hq G2 h9 _ tk9 t' kG C (if_pos rfl) fun y hy => if_neg hy

/-- plain = ''.join([piece[1] for piece in pieces]) -/
theorem law4 {Q : Flow → Shared → Prop} {P : Addr} {dr : List Nat} (hA : Room 310 A) (C : Cx G L h m news) (m1 : m "pieces" = some (.ref P)) (hP : PiecesAt G P dr) (hlen : dr.length ≤ 6)
    (hq : ∀ G' h' m' tk' t, Keep G G' → Cx G' L h' m' news → m' "plain" = some (.str (sOf (plainOf dr)) t) → (∀ y : Str, y ≠ "plain" → m' y = m y) → Q .next (St s h' tk')) :
    wpAny (model pw w) A (exec (st23 4) (env23 L cd)) Q E (St s h tk) := by
  obtain ⟨ps, j0, hP, hps⟩ := hP
  have hsz : ps.size = dr.length := by have := hps.length; simpa using this.symm
  refine wpAny_Assign_Name (zmeth PySem.F.plainAttrs_str PySem.F.slot_str_join PySem.F.type_str_join (zstrE (s := s) (y := sOf []) (by decide +kernel) fun t1 tk1 => ⟨typeIs_str _ _ _, (fun a e => nomatch e), args_cons (zListComp (zld (s := s) C m1 ?_))⟩))
  refine zsrcList (s := s) hA.1 C (isList_of hP) fun h7 tk7 I oI S C W hlive hfp hS => ?_
  refine zcompEnd (s := s) (fun _ => true) (fun G i v => ∃ t, v = .str (sOf ((pieceOf (dr.getD i 0)).2)) t) (fun _ _ _ _ _ x => x) W hlive hfp C hS (by omega) (fun Cc => stepPlain fun i v G2 h3 tk3 m3 news3 E' hi2 hv kG C hm => ?_) fun D G2 h3 tk3 ys j kG C hys => ?_
  · obtain ⟨v', hv', T, t, u, rfl, hT⟩ := paired_at hps i i (by rw [List.getElem?_range (by omega)])
    have e : ps.toList[i]? = ps[i]? := Array.getElem?_toList
    rw [e, show ps[i]? = some v from hv] at hv'
    cases hv'
    refine Subscript_ (zldE C hm (zint fun t2 tk2 => zitemT 1 ⟨_, C.keep _ _ (kG _ _ hT), rfl, _, rfl⟩ rfl rfl (by decide) ⟨G2, h3, _, _, rfl, Keep.rfl', C, _, rfl⟩))
  · rw [took_all, hsz] at hys
    have hst := paired_strs (f := fun i => (pieceOf (dr.getD i 0)).2) hys
    have hmap : (List.range dr.length).map (fun i => (pieceOf (dr.getD i 0)).2) = dr.map fun n => (pieceOf n).2 := by
      have := congrArg (List.map fun n => (pieceOf n).2) (map_getD_range 0 dr)
      rw [List.map_map] at this
      exact this
    rw [hmap] at hst
    have hle : ((dr.map fun n => (pieceOf n).2).map List.length).sum ≤ 2 * dr.length := flat_len dr fun n _ => by
      have : ∀ p ∈ plainSet, p.length ≤ 2 := by decide
      exact this _ ok_parts.2.2.2
    refine args_nil (join_listW (s := St s h3 tk3) (isList_of C.hd) hst (by show ([] : List Nat).toArray.size ≤ _; simp) ?_ fun t' k => ?_)
    · rw [List.map_map, List.length_map, List.length_map]
      have e : ((dr.map fun n => (pieceOf n).2).map (Str.length ∘ sOf)) = (dr.map fun n => (pieceOf n).2).map List.length := List.map_congr_left fun x _ => by simp [Str.length]
      rw [e]
      omega
    · rw [RX.joined]
      refine zst (s := s) (C.dropN 1) fun h9 tk9 C => ?_
      exact hq G2 h9 _ tk9 t' kG C (if_pos rfl) fun y hy => if_neg hy
end
end Mine
end V1_text
section V2_text
open PySem PySem.W PySem.Calls PyProof.Rows
set_option maxRecDepth 100000
namespace Mine

theorem prep_took (sp : List Nat) : ((took (fun i => !hid (sp.getD i 0)) sp.length).map fun i => foldN (sp.getD i 0)).flatten = prepOf sp := by
  unfold took prepOf
  rw [List.flatMap_def]
  congr 1
  have e : (List.range sp.length).map (fun i => sp.getD i 0) = sp := map_getD_range 0 sp
  conv => rhs; rw [← e, List.filter_map, List.map_map]
  rfl
theorem sOf_toList (x : Str) : sOf x.cps.toList = x := by
  show (⟨x.cps.toList.toArray⟩ : Str) = x
  simp
section
variable {w : World} {A : Around} {E : Value → Shared → Prop} {s : Shared} {h G : Heap} {tk : Nat} {L : Addr} {cd : Value} {m : Str → Option Value} {news : List (Addr × Obj)}

/-- prepared = ''.join([map_table_b3(sign) for sign in spelled if in_table_b1(sign) is False]) -/
theorem law5 {Q : Flow → Shared → Prop} {sp : List Nat} {tp : Tok} (hA : Room 310 A) (g2 : Good2 G) (C : Cx G L h m news) (m1 : m "spelled" = some (.str (sOf sp) tp)) (hlen : sp.length ≤ 12) (hok : ∀ c ∈ sp, foldOk c = true) (hpl : (prepOf sp).length ≤ 100)
    (hq : ∀ G' h' m' tk' t, Keep G G' → Cx G' L h' m' news → m' "prepared" = some (.str (sOf (prepOf sp)) t) → (∀ y : Str, y ≠ "prepared" → m' y = m y) → Q .next (St s h' tk')) :
    wpAny (model pw w) A (exec (st23 5) (env23 L cd)) Q E (St s h tk) := by
  have hsz : (sOf sp).cps.size = sp.length := by simp
  refine wpAny_Assign_Name (zmeth PySem.F.plainAttrs_str PySem.F.slot_str_join PySem.F.type_str_join (zstrE (s := s) (y := sOf []) (by decide +kernel) fun t1 tk1 => ⟨typeIs_str _ _ _, (fun a e => nomatch e), args_cons (zListComp (zld (s := s) C m1 ?_))⟩))
  refine zsrcStr (s := s) hA.1 C fun h7 tk7 I oI S C W hlive hfp hS => ?_
  refine zcompEnd (s := s) (fun i => !hid (sp.getD i 0)) (fun G i v => ∃ t, v = .str (sOf (foldN (sp.getD i 0))) t) (fun _ _ _ _ _ x => x) W hlive hfp C hS (by omega) (fun Cc => ?_) fun D G2 h3 tk3 ys j kG C hys => ?_
  · intro i v G2 h2 tk2 m2 news2 E' hi hv kG C hm
    obtain ⟨c, u, hc, rfl⟩ := hv
    have hc2 : sp[i]? = some c := by simpa using hc
    have hgd : sp.getD i 0 = c := by simp [List.getD, hc2]
    have hcm : c ∈ sp := List.mem_of_getElem? hc2
    have gg := g2.keeps kG
    refine wpAny_tests_one (wpAny_isTrue_Compare1 (zcall (s := s) gg.g C.keep gg.g.f91 (args_cons (zldE C hm (args_nil ⟨C.keep, ?_⟩)))))
    refine wpAny_call (inb1_call (s := St s h2 tk2) (hA.mono (by decide)) (gg.keeps C.keep) fun h4 tk4 k4 => ?_)
    have C := C.keeps k4
    have hb : decide ((c : Int) ∈ b1L) = hid c := rfl
    rw [hb]
    refine wpAny_Constant_bool ?_
    cases hh : hid c with
    | true =>
      refine wpAny_is_other rfl (by simp) (wpAny_truthy_bool ⟨?_, G2, h4, _, m2, rfl, Keep.rfl', C, hm, fun q => nomatch q⟩)
      show false = !hid (sp.getD i 0)
      rw [hgd, hh]
      rfl
    | false =>
      refine wpAny_is_self rfl (wpAny_truthy_bool ⟨?_, G2, h4, _, m2, rfl, Keep.rfl', C, hm, fun _ => ?_⟩)
      · show true = !hid (sp.getD i 0)
        rw [hgd, hh]
        rfl
      refine zcall (s := s) gg.g C.keep gg.g.f137 (args_cons (zldE C hm (args_nil ⟨C.keep, ?_⟩)))
      refine wpAny_call (mapb3_call (s := St s h4 _) (hA.mono (by decide)) (gg.keeps C.keep) (hok c hcm) fun h5 tk5 t5 k5 => ?_)
      refine ⟨G2, h5, tk5, m2, rfl, Keep.rfl', C.keeps k5, t5, ?_⟩
      show _ = Value.str (sOf (foldN (sp.getD i 0))) t5
      rw [hgd]
      unfold foldN
      rw [sOf_toList]
  · rw [hsz] at hys
    have hst := paired_strs (f := fun i => foldN (sp.getD i 0)) hys
    have hfl := prep_took sp
    have hle : ((((took (fun i => !hid (sp.getD i 0)) sp.length).map fun i => foldN (sp.getD i 0)).map List.length).sum) ≤ 100 := by
      rw [← List.length_flatten, hfl]
      exact hpl
    have htl := took_len (fun i => !hid (sp.getD i 0)) sp.length
    refine args_nil (join_listW (s := St s h3 tk3) (isList_of C.hd) hst (by show ([] : List Nat).toArray.size ≤ _; simp) ?_ fun t' k => ?_)
    · rw [List.map_map, List.length_map, List.length_map]
      have e : (((took (fun i => !hid (sp.getD i 0)) sp.length).map fun i => foldN (sp.getD i 0)).map (Str.length ∘ sOf)) = ((took (fun i => !hid (sp.getD i 0)) sp.length).map fun i => foldN (sp.getD i 0)).map List.length := List.map_congr_left fun x _ => by simp [Str.length]
      rw [e]
      omega
    · rw [RX.joined, hfl]
      refine zst (s := s) (C.dropN 1) fun h9 tk9 C => ?_
      exact hq G2 h9 _ tk9 t' kG C (if_pos rfl) fun y hy => if_neg hy
end
end Mine
end V2_text
section V3_text
open PySem PySem.W PySem.Calls PyProof.Rows
set_option maxRecDepth 100000
namespace Mine

structure Good3 (G : Heap) : Prop where
  g2 : Good2 G
  p1 : RX.PatAt G 61 RX.code1
  p2 : RX.PatAt G 66 RX.code2
theorem Good3.keeps {G G' : Heap} (g : Good3 G) (k : Keep G G') : Good3 G' := ⟨g.g2.keeps k, g.p1.keeps k, g.p2.keeps k⟩
theorem Good3.g {G : Heap} (g : Good3 G) : Good G := g.g2.g

theorem occ_sign : ∀ c ∈ signs, (Builtin.Str.occurrences (sOf signs) (sOf [c]) 0 (sOf signs).length 1).head? = some (signs.idxOf c) := by decide +kernel
section
variable {w : World} {A : Around} {E : Value → Shared → Prop} {s : Shared} {h G : Heap} {tk : Nat} {L : Addr} {cd : Value} {m : Str → Option Value} {news : List (Addr × Obj)}

/-- sent = quotedata(prepared) -/
theorem law6 {Q : Flow → Shared → Prop} {pl : List Nat} {tp : Tok} (hA : Room 310 A) (g : Good3 G) (C : Cx G L h m news) (m1 : m "prepared" = some (.str (sOf pl) tp)) (hlen : pl.length ≤ 30)
    (hq : ∀ h' m' tk' t, Cx G L h' m' news → m' "sent" = some (.str (sOf (sentAll pl)) t) → (∀ y : Str, y ≠ "sent" → m' y = m y) → Q .next (St s h' tk')) :
    wpAny (model pw w) A (exec (st23 6) (env23 L cd)) Q E (St s h tk) := by
  refine wpAny_Assign_Name (zcall (s := s) g.g C.keep g.g.f73 (args_cons (zld (s := s) C m1 (args_nil ⟨C.keep, ?_⟩))))
  refine wpAny_call (RX.quote_call (s := St s h tk) (hA.mono (by decide)) (g.g.keeps C.keep) (g.p1.keeps C.keep) (g.p2.keeps C.keep) hlen fun h4 tk4 t4 k4 => ?_)
  refine zst (s := s) (C.keeps k4) fun h9 tk9 C => ?_
  exact hq h9 _ tk9 t4 C (if_pos rfl) fun y hy => if_neg hy
/-- if prepared != plain or sent != _law_sent(plain): return False -/
theorem law7 {Q : Flow → Shared → Prop} {pl : List Nat} {t1 t2 t3 : Tok} (hA : Room 310 A) (g : Good3 G) (C : Cx G L h m news) (m1 : m "prepared" = some (.str (sOf pl) t1)) (m2 : m "plain" = some (.str (sOf pl) t2)) (m3 : m "sent" = some (.str (sOf (sentAll pl)) t3)) (hlen : pl.length ≤ 30)
    (hq : ∀ h' tk', Cx G L h' m news → Q .next (St s h' tk')) :
    wpAny (model pw w) A (exec (st23 7) (env23 L cd)) Q E (St s h tk) := by
  refine wpAny_If (wpAny_isTrue_BoolOp (wpAny_allTrue_Or_cons (wpAny_isTrue_Compare1 (zld (s := s) C m1 (zld (s := s) C m2 (zneS (wpAny_truthy_bool ?_)))))))
  rw [show (pl != pl) = false by simp]
  refine ite_ff (wpAny_allTrue_Or_cons (wpAny_isTrue_Compare1 (zld (s := s) C m3 (zcall (s := s) g.g C.keep g.g.f151 (args_cons (zld (s := s) C m2 (args_nil ⟨C.keep, ?_⟩)))))))
  refine wpAny_call (sent_call (s := St s h tk) (hA.mono (by decide)) (g.g.keeps C.keep) (by omega) fun h4 tk4 t4 k4 => ?_)
  refine zneS (s := s) (wpAny_truthy_bool ?_)
  rw [show (sentAll pl != sentAll pl) = false by simp]
  exact ite_ff (wpAny_allTrue_Or_nil (ite_ff (wpAny_execs_nil (hq _ _ (C.keeps k4)))))
/-- row = ['\n\r.fist'.index(sign) + 1 for sign in sent] -/
theorem law8 {Q : Flow → Shared → Prop} {se : List Nat} {ts : Tok} (hA : Room 310 A) (C : Cx G L h m news) (m1 : m "sent" = some (.str (sOf se) ts)) (hlen : se.length ≤ 12) (hsg : ∀ c ∈ se, c ∈ signs)
    (hq : ∀ G' h' m' tk' D, Keep G G' → Cx G' L h' m' news → m' "row" = some (.ref D) → Ints G' D (zs (se.map figOf)) → (∀ y : Str, y ≠ "row" → m' y = m y) → Q .next (St s h' tk')) :
    wpAny (model pw w) A (exec (st23 8) (env23 L cd)) Q E (St s h tk) := by
  have hsz : (sOf se).cps.size = se.length := by simp
  refine zAssignComp (zld (s := s) C m1 ?_)
  refine zsrcStr (s := s) hA.1 C fun h7 tk7 I oI S C W hlive hfp hS => ?_
  refine zcompEndU (s := s) (fun _ => true) (fun G i v => ∃ t, v = .int ((figOf (se.getD i 0) : Nat) : Int) t) (fun _ _ _ _ _ x => x) W hlive hfp C hS (by omega) (fun Cc => stepPlain fun i v G2 h3 tk3 m3 news3 E' hi2 hv kG C hm => ?_) fun D G2 h3 tk3 ys j kG C hys => ?_
  · obtain ⟨c, u, hc, rfl⟩ := hv
    have hc2 : se[i]? = some c := by simpa using hc
    have hgd : se.getD i 0 = c := by simp [List.getD, hc2]
    have hcs := hsg c (List.mem_of_getElem? hc2)
    have ho := occ_sign c hcs
    with_reducible refine wpAny_BinOp ?_
    with_reducible refine zmeth PySem.F.plainAttrs_str PySem.F.slot_str_index PySem.F.type_str_index ?_ ?_ ?_ ?_ ?_ ?_
    rotate_left
    · rfl
    · rfl
    · rfl
    · rfl
    · rfl
    with_reducible refine zstrE (s := s) (y := sOf signs) ?_ fun t1 tk1 => ⟨typeIs_str _ _ _, ?_, ?_⟩
    · decide +kernel
    · exact fun a e => nomatch e
    refine args_cons (zldE C hm (args_nil ?_))
    cases hocc : Builtin.Str.occurrences (sOf signs) (sOf [c]) 0 (sOf signs).length 1 with
    | nil => rw [hocc] at ho; cases ho
    | cons i0 rest =>
      rw [hocc] at ho
      have ei : i0 = signs.idxOf c := by simpa using ho
      refine SC.index (s := St s h3 _) hocc (zint fun t2 tk2 => zadd ((figOf c : Nat) : Int) (by rw [ei]; unfold figOf; omega) fun t3 tk3 => ⟨G2, h3, _, _, rfl, Keep.rfl', C, _, by rw [hgd]⟩)
  · have hints := paired_ints hys
    rw [took_all, hsz] at hints
    have e : (List.range se.length).map (fun i => ((figOf (se.getD i 0) : Nat) : Int)) = zs (se.map figOf) := by
      have := congrArg (List.map fun c : Nat => ((figOf c : Nat) : Int)) (map_getD_range 0 se)
      rw [List.map_map] at this
      show _ = (se.map figOf).map (fun n : Nat => (n : Int))
      rw [List.map_map]
      exact this
    rw [e] at hints
    obtain ⟨G3, C, kG3, hold3⟩ := C.layN 1
    exact hq G3 h3 _ tk3 D (kG.tr kG3) C (if_pos rfl) ⟨ys, j, hold3 _ (.head _), hints⟩ fun y hy => if_neg hy
end
end Mine
end V3_text
section N5_text
open PySem PySem.W PySem.Calls PyProof.Rows
set_option maxRecDepth 100000
namespace Mine

section
variable {M : Model} {A : Around} {E : Value → Shared → Prop} {s : Shared}
/-- the loop comes back by an exception that has been seen here -/
theorem came_back {base : Heap} {l : List Env} {env : Env} {L e : Addr} {cls a0 : Value} (hf : env.frame = some L) (hh : Heap.HeldW base l e cls a0 L s.heap)
    (hE : ∀ h', Heap.HeldW base l e cls a0 L h' → s.heap.UpToSlots h' → E (.ref e) { s with heap := h' }) : cameBackBy M A env E (.ref e) s := by
  obtain ⟨f1, f2, f3, oe, vs, T, oT, ts, he, hcls, hd, h1, hnT, hTe, hT, hdT, h3⟩ := hh
  show wpAny M A (do
    if (← field (.ref e) 1) == .none then unsupported "frame.own-activation:exception-without-traceback"
    setFlight (.ref e) env.frame) _ _ _
  refine wpAny_bind (wpAny_field he hd h1 ?_)
  rw [if_neg (by simp)]
  rw [hf]
  unfold setFlight
  refine wpAny_bind (wpAny_field he hd h1 ?_)
  rw [if_pos (show (Value.ref T != Value.none) = true from by simp)]
  refine wpAny_setField hT hdT (Array.getElem?_eq_some_iff.mp h3).1 ?_
  have other : ∀ b, b ≠ T → (s.heap.update T (Obj.mapFields (·.setIfInBounds 3 (rawInt L)))).get? b = s.heap.get? b := fun b hb => Heap.get?_update_other _ _ (Ne.symm hb)
  have noRecord : ∀ b o, s.heap.get? b = some o → (∀ vs, o.data ≠ .fields vs) → b ≠ T := fun b o hb hnf q => by
    rw [q, hT] at hb; injection hb with hb; subst hb; exact hnf ts hdT
  refine hE _ ⟨fun b o hbo => (other b fun q => by rw [q, hnT] at hbo; cases hbo).trans (f1 b o hbo), f2, f3.of_keeps fun b o hb hnf => ⟨o, (other b (noRecord b o hb hnf)).trans hb, rfl⟩,
    oe, vs, T, _, _, (other e (Ne.symm hTe)).trans he, hcls, hd, h1, hnT, hTe, Heap.get?_update_self _ hT (Obj.isFreed_of_fields (Obj.data_mapFields hdT _)), Obj.data_mapFields hdT _, ?_⟩ fun b o hb hnf => ⟨o.slots, (other b (noRecord b o hb hnf)).trans hb⟩
  have := (Array.getElem?_eq_some_iff.mp h3).1
  simp [this]
end
theorem stop_base : isSubtype (.type "StopIteration") (.type "BaseException") = pure true := by rw [isSubtype_type]; kernel_rfl
theorem stop_meta : isSubtype (.type ((Manifest.find? "StopIteration").elim "type" fun x => x.metatype)) (.type "tuple") = pure false := by rw [isSubtype_type]; kernel_rfl

theorem drop_flat {ws : List (List Nat)} {oc : List Nat} {i c : Nat} {ds : List Nat} (e : oc.drop i = ((c :: ds) :: ws).flatMap enc) : oc.drop i = enc (c :: ds) ++ ws.flatMap enc ∧ oc.drop (i + (c :: ds).length) = ws.flatMap enc := by
  rw [List.flatMap_cons] at e
  refine ⟨e, ?_⟩
  rw [← List.drop_drop, e, ← enc_len (c :: ds), List.drop_left]

section
variable {w : World} {A : Around} {E : Value → Shared → Prop} {s : Shared} {h G base0 : Heap} {outer : List Env} {tk : Nat} {L c la it lc : Addr} {m : Str → Option Value} {ps octs : Array Value} {oc : List Nat} {all : List (List Nat)} {oit : Obj} {j0 : Nat}
theorem num_try {Q : Flow → Shared → Prop} (hA : Room 340 A) (g : Good G) (C : Cx G L h m [(la, listOf #[] j0), (it, oit), (153, tabObj ps)]) (m1 : m "numbers" = some (.ref la)) (m2 : m "feed" = some (.ref it)) (o1 : oit.cls = .type "list_iterator") (o2 : oit.data = .fields #[.ref lc, .int (0 : Nat) 0])
    (hl : G.IsList lc octs) (hoc : IntsAre octs.toList (zs oc)) (hlen : oc.length < 1000) (hall : oc = all.flatMap enc) (hne : ∀ ds ∈ all, ds ≠ [] ∧ ∀ d ∈ ds, d < 64)
    (K : Below A base0 outer s.heap) (g0 : Good base0) (k0 : Keep base0 G) (hG : ∀ b o, s.heap.get? b = some o → (∀ vs, o.data ≠ .fields vs) → G.get? b = some o) (hGL : s.heap.get? L = none)
    (hq : ∀ h1 h' tk' its j oit' m', Cx G L h1 m' [(la, listOf its j), (it, oit'), (153, tabObj ps)] → (hideAll h1 (it :: L :: outer.filterMap (·.frame))).StaysIn h' → h1.UpToSlots h' → IntsAre its.toList (zs (all.map (valD 0))) → Q (.ret (.ref la)) (St s h' tk')) :
    wpAny (model pw w) (A.deeper (env19 L c)) (exec (st19 7) (env19 L c)) Q E (St s h tk) := by
  have hA' := hA.deeper (env19 L c)
  refine wpAny_Try_except ?_
  refine wpAny_execs_cons (wpAny_While ?_)
  obtain ⟨W, hW⟩ : ∃ W : Nat → Shared → Prop, ∀ k s', W k s' ↔ (∃ (h' : Heap) (tk : Nat) (mp : Str → Option Value) (its : Array Value) (j : Nat) (oit : Obj) (i : Nat) (done ws : List (List Nat)), s' = St s h' tk ∧
      Cx G L h' mp [(la, listOf its j), (it, oit), (153, tabObj ps)] ∧ mp "numbers" = some (.ref la) ∧ mp "feed" = some (.ref it) ∧ oit.cls = .type "list_iterator" ∧ oit.data = .fields #[.ref lc, .int (i : Nat) 0] ∧
      all = done ++ ws ∧ oc.drop i = ws.flatMap enc ∧ i ≤ oc.length ∧ done.length ≤ i ∧ IntsAre its.toList (zs (done.map (valD 0))) ∧ k = ws.length) := ⟨_, fun _ _ => Iff.rfl⟩
  refine codeAny_whileLoop W ?_ all.length ((hW _ _).mpr ⟨h, tk, m, #[], j0, oit, 0, [], all, rfl, C, m1, m2, o1, o2, rfl, hall, Nat.zero_le _, Nat.zero_le _, .nil, rfl⟩)
  rintro k s' hWk
  obtain ⟨h', tk, mp, its, j, oit, i, done, ws, rfl, C, m1, m2, o1, o2, ea, ed, ei, ei2, hi, rfl⟩ := (hW _ _).mp hWk
  refine isTrue_plain (Constant_bool (wpAny_truthy_bool (ite_tt ?_)))
  refine wpAny_hideQ fun Q2 hQ2 => ?_
  have hno := (C.led (la, listOf its j) (by simp)).1
  have hio := (C.led (it, oit) (by simp)).1
  have hin := (C.led (it, oit) (by simp)).2.2
  refine wpAny_execs_cons (wpAny_Expr (zmeth PySem.F.plainAttrs_list PySem.F.slot_list_append PySem.F.type_list_append ?_))
  refine zldX (s := s) (v := .ref la) C (by walk_at "lk") ⟨⟨_, hno, rfl⟩, fun a e => ⟨_, by cases e; exact hno, rfl⟩, ?_⟩
  refine args_cons (zcall (s := s) g C.keep g.f56 (args_cons (zldX (s := s) C (by walk_at "lk") (args_nil ⟨C.keep, ?_⟩))))
  cases ws with
  | cons w1 ws =>
    have hw := hne w1 (by rw [ea]; simp)
    cases w1 with
    | nil => exact absurd rfl hw.1
    | cons c1 ds =>
      obtain ⟨e1, e2⟩ := drop_flat ed
      have hlen2 : i + (c1 :: ds).length ≤ oc.length := by
        have := congrArg List.length e1
        rw [List.length_drop, List.length_append, enc_len] at this
        have hpos : 0 < (c1 :: ds).length := by simp
        omega
      have hits : its.size = done.length := by have := hi.length; simpa using this
      refine wpAny_call (pv_ok (s := St s h' tk) (rest := ws.flatMap enc) (hA'.mono (by decide)) g C.keep hin ⟨oit, hio, o1, o2⟩ (ilk hl C.keep) hoc e1 hw.2 hlen fun h2 tk2 t2 k2 hit2 => ?_)
      obtain ⟨oit2, p1, p2, p3⟩ := hit2
      have C := C.up (.there .here) k2 p1
      refine args_nil (zappend (D := la) (its := its) (n := j) C (by simp) .here (by omega) fun h3 C => ?_)
      · refine wpAny_execs_nil ?_
        refine hQ2 _ _ ⟨ws.length, by simp, (hW _ _).mpr ⟨h3, _, mp, _, _, oit2, _, done ++ [c1 :: ds], ws, rfl, C, m1, m2, p2, p3, by rw [ea]; simp, e2, hlen2, ?_, ?_, rfl⟩⟩
        · simp; omega
        · have e := ints_push (t := t2) (n := (valD 0 (c1 :: ds) : Nat)) hi
          simpa [zs] using e
  | nil =>
    have hioc : i = oc.length := by
      have : oc.drop i = [] := ed
      have := congrArg List.length this
      rw [List.length_drop] at this
      have h0 : ([] : List Nat).length = 0 := rfl
      omega
    have hos : octs.size = oc.length := by have := hoc.length; simpa using this
    have hdone : done = all := by rw [ea]; simp
    have k0none : ∀ b, G.get? b = none → base0.get? b = none := fun b hb => by
      cases hq : base0.get? b with
      | none => rfl
      | some o => rw [k0 _ _ hq] at hb; cases hb
    generalize hb1 : hideAll h' (it :: L :: outer.filterMap (·.frame)) = base1
    have st1 : base1.StaysIn h' := fun b o e => by rw [← hb1] at e; exact of_hideAll _ e
    have kb : Keep base0 base1 := fun b o e => by
      rw [← hb1]
      refine hideAll_get _ (C.keep _ _ (k0 _ _ e)) fun hm => ?_
      rcases List.mem_cons.mp hm with rfl | hm
      · rw [k0none _ hin] at e; cases e
      · rcases List.mem_cons.mp hm with rfl | hm
        · rw [k0none _ C.gl] at e; cases e
        · rw [(K.frames.mem hm).1] at e; cases e
    have fr1 : h'.FunFrames base1 outer := by
      rw [← hb1]
      refine funFrames_hide (base := base0) (K.frames.of_keeps fun b o hb hnf => ⟨o, C.keep _ _ (hG b o hb hnf), rfl⟩) fun env he a ha => ?_
      exact .tail _ (.tail _ (List.mem_filterMap.mpr ⟨env, he, ha⟩))
    have fr2 : h'.FunFrames base1 (env19 L c :: outer) := .cons (env := env19 L c) (show (sScope (stm 19)).kind ≠ ScopeKind.module by decide +kernel) rfl C.ns (by rw [← hb1]; exact hideAll_none _ (.tail _ (.head _))) fr1
    have K1 : Below (A.deeper (env19 L c)) base1 (env19 L c :: outer) h' := ⟨Around.frames_deeper K.stack, st1, fr2⟩
    refine wpAny_call (pv_stop (s := St s h' tk) (base := base1) (outer := env19 L c :: outer) (octs := octs) (hA'.mono (by decide)) g C.keep hin K1 (by rw [← hb1]; exact hideAll_none _ (.head _)) ⟨oit, hio, o1, o2⟩ (ilk hl C.keep) (by simp; omega) fun h2 tk2 e a0 hfl up2 => ?_)
    refine wpAny_looks_onW (s := St s h2 tk2) K1.stack rfl hfl fun h3 hh up3 => ?_
    refine came_back (s := St s h3 tk2) rfl hh fun h4 hh4 up4 => ?_
    refine wpAny_noteFrame_againW (s := St s h4 tk2) rfl hh4.2.2.2 ?_
    refine wpAny_landsW (s := St s h4 tk2) hh4 fun h5 hfl5 up5 => ?_
    refine wpAny_handleBy_builtin (X := "StopIteration") (T := "StopIteration") (b := true) stop_base stop_meta isSubtype_stop ?_
    refine zblt (s := s) (G := base1) (h := h5) (g0.keeps kb) hfl5.1 ⟨rfl, hfl5.there, ?_⟩
    refine ite_tt ?_
    refine lands_againW (s := St s h5 tk2) hfl5 fun h6 hfl6 up6 => ?_
    have up : h'.UpToSlots h6 := ((((up2.trans up3).trans up4).trans up5).trans up6)
    refine wpAny_execs_cons (wpAny_Return_some ?_)
    refine nameX_L (s := St s h6 tk2) (h₀ := noHeap) ⟨up.ns C.ns, fun b o e => absurd (noHeap_get.symm.trans e) (by simp), Nat.zero_le _⟩ m1 ?_
    refine hq h' h6 tk2 its j oit mp C (by rw [hb1]; exact hfl6.1) up ?_
    rw [← hdone]
    exact hi
end
end Mine
end N5_text
section N6_text
open PySem PySem.W PySem.Calls PyProof.Rows
set_option maxRecDepth 100000
namespace Mine

section
variable {prog : Program} {w : World} {A : Around} {E : Value → Shared → Prop} {s : Shared} {h G : Heap} {tk : Nat} {L : Addr} {m : Str → Option Value} {news : List (Addr × Obj)}
/-- iter(l) -/
theorem ziter {l : Addr} {items : Array Value} {Q : Value → Shared → Prop} (C : Cx G L h m news) (hl : h.IsList l items)
    (hq : ∀ h' tk' I oI, Cx G L h' m ((I, oI) :: news) → oI.cls = .type "list_iterator" → oI.data = .fields #[.ref l, .int (0 : Nat) 0] → Q (.ref I) (St s h' tk')) :
    wpAny (model prog w) A (call (.builtin "iter") [.ref l]) Q E (St s h tk) := by
  refine call_function_entry (by decide +kernel) (by decide +kernel) kdk_entry_iter (kdk_args_iter _) ?_
  unfold Builtin.«iter»
  refine wpAny_bind (m := someArgs "iter" 1 2 _) (wpAny_of_eq (a := [Value.ref l]) (by first | rfl | kernel_rfl!) ?_)
  show wpAny _ _ (pyIter (.ref l) >>= _) _ _ _
  refine wpAny_bind (zpyIter (s := s) C hl fun h' tk' I oI C o1 o2 => ?_)
  exact wpAny_pure ⟨_, rfl, hq _ _ _ _ C o1 o2⟩
end

theorem numbers_call {w : World} {A : Around} {s : Shared} {R : Result → Shared → Prop} {base0 : Heap} {outer : List Env} {ra : Addr} {rs ps : Array Value} {rw_ : List Nat} (hA : Room 340 A) (g0 : Good base0) (h0153 : base0.get? 153 = none)
    (K : Below A base0 outer s.heap) (hra : s.heap.IsList ra rs) (hrs : IntsAre rs.toList (zs rw_)) (hlen : rw_.length < 30) (h64 : ∀ d ∈ rw_, d < 64)
    (htab : s.heap.get? 153 = some (tabObj ps)) (htok : TabOk (s.heap.hide 153) ps)
    (h : ∀ a h' tk ps', (∀ b o, b ≠ 153 → b ∉ outer.filterMap (·.frame) → s.heap.get? b = some o → h'.get? b = some o) → s.heap.UpToSlots h' → h'.get? 153 = some (tabObj ps') →
      (ps' = ps ∨ ∃ c', ps' = lamTab c' ∧ s.heap.get? c' = none ∧ h'.CodeRec (.ref c') lamQual) → s.heap.get? a = none → Ints h' a (zs (GR.numsOf rw_)) → R (.ok (.ret (.ref a))) (St s h' tk)) :
    codeAny (model pw w) A (.call (.ref 158) ⟨[.ref ra], []⟩) R s := by
  refine enter19 hA g0 K.stays h0153 htab fun G h₁ tk m kG C hcell => ?_
  have g : Good G := g0.keeps ((keep_hide K.stays h0153).tr kG)
  have hne : ra ≠ 153 := by
    rintro rfl
    obtain ⟨o, ho, hc, _⟩ := hra
    rw [htab] at ho
    cases ho
    simp at hc
  have hraG : G.IsList ra rs := (hra.at fun o e => by rw [Heap.hide_ne _ hne]; exact e : (s.heap.hide 153).IsList ra rs).at fun o e => kG _ _ e
  have hLnone : s.heap.get? s.heap.objs.size = none := get_top
  generalize hL : s.heap.objs.size = L at *
  refine wpAny_execs_cons (wpAny_Assign_Name (List_ (args_nil (znewList (s := s) C fun lo h2 tk2 C => zstX (s := s) C fun h3 tk3 C => ?_))))
  refine wpAny_execs_cons (num_order (s := s) (ra := ra) (hA.deeper _) g C (by walk_at "lk") (htok.keeps kG) hcell hraG hrs (by omega) fun G2 h4 m4 tk4 ps2 os j kG2 C htn hos m1 => ?_)
  refine wpAny_execs_cons (wpAny_Assign_Name (List_ (args_nil (znewList (s := s) C fun lc h5 tk5 C => zstX (s := s) C fun h6 tk6 C => ?_))))
  refine wpAny_execs_cons (wpAny_Assign_Name (List_ (args_nil (znewList (s := s) C fun lm h7 tk7 C => zstX (s := s) C fun h8 tk8 C => ?_))))
  refine wpAny_execs_cons (num_rings (s := s) (ra := ra) (hA.deeper _) (g.keeps kG2) C (by walk_at "lk") (by walk_at "lk") (by walk_at "lk") (hcell.keeps kG2) (hraG.at fun o e => kG2 _ _ e) hrs (by omega) hos fun h9 m9 tk9 oc j9 C hoc hocsz m2 => ?_)
  refine wpAny_execs_cons (wpAny_Assign_Name (zcallB (s := s) (g.keeps kG2) C.keep (args_cons (zldX (s := s) C (by walk_at "lk") (args_nil (ziter C (isList_of C.hd) fun h10 tk10 it oI C o1 o2 => zstX (s := s) C fun h11 tk11 C => ?_))))))
  have hitlc : G2.get? it = none := (C.led (it, oI) (by simp)).2.2
  have hlcL : lc ≠ L := (C.led (lc, listOf oc j9) (by simp)).2.1
  have hlco := (C.led (lc, listOf oc j9) (by simp)).1
  have hap := C.nd
  have C := C.sub (news' := [(it, oI), (153, tabObj ps2)]) (.cons_cons _ (.cons _ (.cons_cons _ .slnil)))
  obtain ⟨G3, C, kG3, hold⟩ := C.freeze
  have hlc3 : G3.IsList lc oc := isList_of (hold _ _ hlco hlcL (by
    intro p hp
    simp only [List.map_cons, List.map_nil, List.nodup_cons, List.mem_cons, List.not_mem_nil, not_or, or_false, not_false_eq_true, and_true, List.nodup_nil] at hap
    rcases List.mem_cons.mp hp with rfl | hp
    · exact hap.1.1
    · rcases List.mem_cons.mp hp with rfl | hp
      · exact fun e => hap.2 e.symm
      · cases hp))
  refine wpAny_execs_cons (wpAny_Assign_Name (List_ (args_nil (znewList (s := s) C fun la h12 tk12 C => zstX (s := s) C fun h13 tk13 C => ?_))))
  have kAll : Keep G G3 := kG2.tr kG3
  have hGs : ∀ b o, b ≠ 153 → s.heap.get? b = some o → G3.get? b = some o := fun b o hb e => kAll _ _ (kG _ _ (by rw [Heap.hide_ne _ hb]; exact e))
  have hnf : ∀ b o, s.heap.get? b = some o → (∀ vs, o.data ≠ .fields vs) → b ≠ 153 := fun b o e hn q => by
    rw [q, htab] at e
    cases e
    exact hn _ rfl
  have hzl : (zs rw_).length = rw_.length := by simp
  have S := GR.std (zs rw_)
  rw [hzl] at S
  refine wpAny_execs_cons (num_try (s := s) (base0 := base0) (outer := outer) (lc := lc) (octs := oc) (all := (GR.starts rw_.length (GR.ord (zs rw_)) rw_.length).map (GR.ringN rw_ rw_.length (GR.ord (zs rw_)))) hA (g.keeps kAll) C (by walk_at "lk") (by walk_at "lk") o1 o2 hlc3 hoc ?_ (GR.octTo_enc rw_ S) ?_ K g0 ((keep_hide K.stays h0153).tr (kG.tr kAll)) (fun b o e hn => hGs b o (hnf b o e hn) e) hLnone ?_)
  · have := S.oct_len rw_ rw_.length (Nat.le_refl _)
    have h2 : rw_.length * rw_.length ≤ 29 * 29 := Nat.mul_le_mul (by omega) (by omega)
    omega
  · intro ds hds
    obtain ⟨st, hst, rfl⟩ := List.mem_map.mp hds
    have hsn := (S.mem_starts.mp hst).1
    constructor
    · intro e
      have h1 := congrArg List.length e
      have h2 := (S.per_spec hsn).1
      simp [GR.ringN] at h1
      omega
    · intro d hd
      unfold GR.ringN at hd
      obtain ⟨x, _, rfl⟩ := List.mem_map.mp hd
      refine h64 _ ?_
      have hlt := S.it_lt hsn (x + 1)
      rw [List.getD, List.getElem?_eq_getElem hlt]
      exact List.getElem_mem _
  · intro h1 h' tk' its j oit' m' C st up hits
    have hfr : ∀ b, b ∈ outer.filterMap (·.frame) → ∃ o, s.heap.get? b = some o ∧ (∀ vs, o.data ≠ .fields vs) := fun b hb => (K.frames.mem hb).2
    have hin : ∀ b o, b ∉ outer.filterMap (·.frame) → h1.get? b = some o → b ≠ it → b ≠ L → h'.get? b = some o := fun b o hb e e1 e2 => st _ _ (hideAll_get _ e fun hm => by
      rcases List.mem_cons.mp hm with q | hm
      · exact e1 q
      · rcases List.mem_cons.mp hm with q | hm
        · exact e2 q
        · exact hb hm)
    have hla := C.led (la, listOf its j) (by simp)
    have hit := C.led (it, oit') (by simp)
    have ht := C.led (153, tabObj ps2) (by simp)
    have hnd := C.nd
    simp only [List.map_cons, List.map_nil, List.nodup_cons, List.mem_cons, List.not_mem_nil, not_or, or_false, not_false_eq_true, and_true, List.nodup_nil] at hnd
    have hG3ne : ∀ b o, G3.get? b = some o → b ≠ it ∧ b ≠ L := fun b o e => ⟨fun q => absurd (hit.2.2.symm.trans (q ▸ e)) (by simp), fun q => absurd (C.gl.symm.trans (q ▸ e)) (by simp)⟩
    refine h la h' tk' ps2 ?_ ?_ ?_ ?_ ?_ ?_
    · intro b o hb hbf e
      have e3 := hGs b o hb e
      exact hin b o hbf (C.keep _ _ e3) (hG3ne b o e3).1 (hG3ne b o e3).2
    · intro b o e hn
      exact up b o (C.keep _ _ (hGs b o (hnf b o e hn) e)) hn
    · refine hin 153 _ (fun hb => ?_) ht.1 (fun q => hnd.2 q.symm) ht.2.1
      obtain ⟨o, ho, hn⟩ := hfr 153 hb
      exact hnf _ _ ho hn rfl
    · rcases htn with rfl | ⟨c', rfl, n1, n2, n3⟩
      · exact .inl rfl
      · refine .inr ⟨c', rfl, ?_, ?_⟩
        · have := none_back kG n1
          rw [Heap.hide_ne _ n2] at this
          exact this
        · refine n3.at fun o e => ?_
          have e3 := kG3 _ _ e
          refine hin c' o (fun hb => ?_) (C.keep _ _ e3) (hG3ne _ _ e3).1 (hG3ne _ _ e3).2
          obtain ⟨o2, ho2, hn2⟩ := hfr c' hb
          have := kG _ _ (show (s.heap.hide 153).get? c' = some o2 by rw [Heap.hide_ne _ n2]; exact ho2)
          rw [n1] at this
          cases this
    · cases hq : s.heap.get? la with
      | none => rfl
      | some o =>
        by_cases e153 : la = 153
        · exact absurd e153 (fun q => hnd.1.2 q)
        · have := hGs la o e153 hq
          rw [hla.2.2] at this
          cases this
    · refine ⟨its, j, hin la _ (fun hb => ?_) hla.1 hnd.1.1 hla.2.1, ?_⟩
      · obtain ⟨o2, ho2, hn2⟩ := hfr la hb
        have := hGs la o2 (hnf la o2 ho2 hn2) ho2
        rw [hla.2.2] at this
        cases this
      · unfold GR.numsOf
        rw [List.map_map] at hits
        exact hits
end Mine
end N6_text
section V4_text
open PySem PySem.W PySem.Calls PyProof.Rows
set_option maxRecDepth 100000
namespace Mine

theorem Good.fn158 {G : Heap} (g : Good G) : FnAt G 158 19 .none .none := let ⟨o, doc, pm, an, ct, h1, h2, h3⟩ := g.f158; ⟨o, doc, pm, an, .ref 157, ct, h1, h2, h3⟩
/-- what the law's frame rests on -/
structure Law (A : Around) (B : Heap) (L : Addr) (cd : Value) (G : Heap) : Prop where
  room : Room 310 A
  fr : A.frames = some [env23 L cd]
  good : Good B
  b153 : B.get? 153 = none
  bL : B.get? L = none
  keep : Keep B G
theorem Law.keeps {A : Around} {B G G' : Heap} {L : Addr} {cd : Value} (x : Law A B L cd G) (k : Keep G G') : Law A B L cd G' := ⟨x.room, x.fr, x.good, x.b153, x.bL, x.keep.tr k⟩
section
variable {w : World} {A : Around} {E : Value → Shared → Prop} {s : Shared} {h G B : Heap} {tk : Nat} {L : Addr} {cd : Value} {m : Str → Option Value} {news : List (Addr × Obj)} {ps : Array Value}

/-- _law_numbers(row), called by the law -/
theorem znums {Q : Value → Shared → Prop} {ra : Addr} {row : List Nat} (X : Law A B L cd G) (C : Cx G L h m ((153, tabObj ps) :: news)) (ht : TabOk G ps) (hra : Ints G ra (zs row)) (ok : GR.RowOk row) (hlen : row.length < 30)
    (hq : ∀ G' h' tk' ps' a, Keep G G' → Cx G' L h' m ((153, tabObj ps') :: news) → TabOk G' ps' → Ints G' a (zs (GR.numsOf row)) → Q (.ref a) (St s h' tk')) :
    wpAny (model pw w) A (call (.ref 158) [.ref ra]) Q E (St s h tk) := by
  obtain ⟨its, j, hra, hri⟩ := hra
  obtain ⟨oL, es, ep, hoL, hdL, _⟩ := id C.ns
  have g153 : G.get? 153 = none := C.hn
  have K : Below A B [env23 L cd] h := ⟨X.fr, fun b o e => C.keep _ _ (X.keep _ _ e), by
    refine ⟨by show (sScope (stm 23)).kind ≠ .module; decide +kernel, ⟨L, oL, rfl, X.bL, hoL, fun vs q => ?_⟩, trivial⟩
    rw [hdL] at q
    cases q⟩
  have kh : Keep G (h.hide 153) := keep_hide C.keep g153
  refine wpAny_call (numbers_call (s := St s h tk) (X.room.mono (by decide)) X.good X.b153 K (isList_of (C.keep _ _ hra)) hri hlen ok.lt C.hd (ht.keeps kh) fun a h' tk' ps' c1 c2 c3 c4 c5 c6 => ?_)
  have c1' : ∀ b o, b ≠ 153 → b ≠ L → h.get? b = some o → h'.get? b = some o := fun b o hb hL e => c1 b o hb (fun q => hL (List.mem_singleton.mp (show b ∈ [L] from q))) e
  have nd := C.nd
  have nd1 := List.nodup_cons.mp nd
  have hled : ∀ p ∈ news, p.1 ≠ 153 := fun p hp e => nd1.1 (List.mem_map.mpr ⟨p, hp, e⟩)
  have C' : Cx G L h' m ((153, tabObj ps') :: news) := by
    refine ⟨c2.ns C.ns, ?_, C.gl, ?_, nd⟩
    · intro b o e
      refine c1' b o ?_ ?_ (C.keep _ _ e)
      · rintro rfl
        rw [g153] at e
        cases e
      · rintro rfl
        rw [C.gl] at e
        cases e
    · intro p hp
      rcases List.mem_cons.mp hp with rfl | hp
      · exact ⟨c3, (C.led (153, tabObj ps) (.head _)).2⟩
      · have := C.led p (.tail _ hp)
        exact ⟨c1' _ _ (hled p hp) this.2.1 this.1, this.2⟩
  obtain ⟨G', C'', kG, hold⟩ := C'.freeze
  have new : ∀ b o, h.get? b = none → h'.get? b = some o → G'.get? b = some o := by
    intro b o hb e
    refine hold b o e ?_ ?_
    · rintro rfl
      have hb : h.get? b = none := hb
      rw [hoL] at hb
      cases hb
    · intro p hp q
      rcases List.mem_cons.mp hp with rfl | hp
      · have := C.hd
        have q : 153 = b := q
        rw [← q] at hb
        have this : h.get? 153 = _ := this
        rw [hb] at this
        cases this
      · have := (C.led p (.tail _ hp)).1
        rw [q, hb] at this
        cases this
  refine hq G' h' tk' ps' a kG C'' ?_ ?_
  · rcases c4 with rfl | ⟨c', rfl, n1, n2⟩
    · exact ht.keeps kG
    · exact .inr ⟨c', rfl, n2.at fun o e => new c' o n1 e⟩
  · obtain ⟨its', j', e, hi⟩ := c6
    exact ⟨its', j', new a _ c5 e, hi⟩

/-- numbers = _law_numbers(row) -/
theorem law9 {Q : Flow → Shared → Prop} {ra : Addr} {row : List Nat} (X : Law A B L cd G) (g : Good G) (C : Cx G L h m [(153, tabObj ps)]) (ht : TabOk G ps) (m1 : m "row" = some (.ref ra)) (hra : Ints G ra (zs row)) (ok : GR.RowOk row) (hlen : row.length < 30)
    (hq : ∀ G' h' m' tk' ps' a, Keep G G' → Cx G' L h' m' [(153, tabObj ps')] → TabOk G' ps' → m' "numbers" = some (.ref a) → Ints G' a (zs (GR.numsOf row)) → (∀ y : Str, y ≠ "numbers" → m' y = m y) → Q .next (St s h' tk')) :
    wpAny (model pw w) A (exec (st23 9) (env23 L cd)) Q E (St s h tk) := by
  refine wpAny_Assign_Name (zcall (s := s) g C.keep g.fn158 (args_cons (zld (s := s) C m1 (args_nil ⟨C.keep, ?_⟩))))
  refine znums X C ht hra ok hlen fun G' h' tk' ps' a kG C ht ha => ?_
  refine zst (s := s) C fun h9 tk9 C => ?_
  exact hq G' h9 _ tk9 ps' a kG C ht (if_pos rfl) ha fun y hy => if_neg hy
end
end Mine
end V4_text
section V5_text
open PySem PySem.W PySem.Calls PyProof.Rows
set_option maxRecDepth 100000
namespace Mine

theorem paired_nil {α β : Type} {F : α → β → Prop} {l : List β} (h : PySem.Paired F [] l) : l = [] := by
  cases h; rfl
theorem took_none (n : Nat) : took (fun _ => false) n = [] := by simp [took]
section
variable {w : World} {A : Around} {E : Value → Shared → Prop} {s : Shared} {h G B : Heap} {tk : Nat} {L : Addr} {cd : Value} {m : Str → Option Value} {news : List (Addr × Obj)} {ps : Array Value}

theorem zneInts {Q : Value → Shared → Prop} {a b : Addr} {xs ys : Array Value} {ns ms : List Int} (hA : Room 310 A) (ha : h.IsList a xs) (hb : h.IsList b ys) (hi : IntsAre xs.toList ns) (hj : IntsAre ys.toList ms) (hq : Q (.bool (!decide (ns = ms))) (St s h tk)) :
    wpAny (model pw w) A (compareOp .NotEq (.ref a) (.ref b)) Q E (St s h tk) := by
  refine ke_ne_ints (s := St s h tk) (xs := xs.toList) (ys := ys.toList) (by simpa using ha) (by simpa using hb) hi hj ?_ hq
  have := hA.2.2
  show A.units + 64 < 9900
  omega
/-- sorted(l) of ints -/
theorem zsortedI {Q : Value → Shared → Prop} {l : Addr} {ns : List Int} (C : Cx G L h m news) (hl : Ints h l ns) (h64 : ns.length < 64)
    (hq : ∀ h' tk' a its e ns', Cx G L h' m ((a, listOf its e) :: news) → IntsAre its.toList ns' → ns'.Perm ns → ns'.Pairwise (· ≤ ·) → Q (.ref a) (St s h' tk')) :
    wpAny (model pw w) A (call (.builtin "sorted") [.ref l]) Q E (St s h tk) := by
  obtain ⟨its, j, hl, hi⟩ := hl
  refine sorted_N (s := St s h tk) (vs := its.toList) C.fr C.nw (by simpa using isList_of hl) hi (by rw [hi.length]; exact h64) fun h' vs' ns' e F' N' h1 h2 h3 => ?_
  refine hq h' _ _ vs'.toArray e ns' (C.backK F' N' fun p hp => ?_) (by simpa using h1) h2 h3
  exact Nat.lt_succ_of_lt (Heap.lt_size (mem_allBut.mp hp).2)

/-- if [number for number in numbers if not _law_lowest(number)] != []: return False -/
theorem law10 {Q : Flow → Shared → Prop} {na : Addr} {nums : List Nat} (hA : Room 310 A) (g : Good G) (C : Cx G L h m news) (m1 : m "numbers" = some (.ref na)) (hn : Ints G na (zs nums)) (hlow : ∀ n ∈ nums, LowD (digs n)) (hlt : ∀ n ∈ nums, n < 64 ^ 40) (hlen : nums.length ≤ 30)
    (hq : ∀ G' h' tk', Keep G G' → Cx G' L h' m news → Q .next (St s h' tk')) :
    wpAny (model pw w) A (exec (st23 10) (env23 L cd)) Q E (St s h tk) := by
  obtain ⟨its, j0, hn, hi⟩ := hn
  have hsz : its.size = nums.length := by have := hi.length; simpa using this
  refine wpAny_If (wpAny_isTrue_Compare1 (zListComp (zld (s := s) C m1 ?_)))
  refine zsrcList (s := s) hA.1 C (isList_of hn) fun h7 tk7 I oI S C W hlive hfp hS => ?_
  refine zcompEnd (s := s) (fun _ => false) (fun _ _ _ => False) (fun _ _ _ _ _ x => x) W hlive hfp C hS (by omega) (fun Cc => ?_) fun D G2 h3 tk3 ys j kG C hys => ?_
  · intro i v G2 h2 tk2 m2 news2 E' hi2 hv kG C hm
    obtain ⟨n, t, hn1, rfl⟩ := ints_nat hi i v (by simpa using hv)
    have hnm := List.mem_of_getElem? hn1
    refine wpAny_tests_one (wpAny_isTrue_Not (wpAny_isTrue_value (zcall (s := s) (g.keeps kG) C.keep (g.keeps kG).f172 (args_cons (zldE C hm (args_nil ⟨C.keep, ?_⟩))))))
    refine wpAny_call (lowest_call (s := St s h2 tk2) (hA.mono (by decide)) ((g.keeps kG).keeps C.keep) (hlt n hnm) (hlow n hnm) fun h4 tk4 k4 => ?_)
    exact wpAny_truthy_bool ⟨rfl, G2, h4, tk4, m2, rfl, Keep.rfl', C.keeps k4, hm, fun q => nomatch q⟩
  · rw [took_none] at hys
    have hy := paired_nil hys
    refine List_ (args_nil (znewList (s := s) C fun l5 h5 tk5 C => ?_))
    refine zneInts (s := s) hA (isList_of (C.led (D, _) (.tail _ (.head _))).1) (isList_of C.hd) (ns := []) (ms := []) (by rw [hy]; exact .nil) .nil (wpAny_truthy_bool ?_)
    rw [show (!decide (([] : List Int) = [])) = false from rfl]
    exact ite_ff (wpAny_execs_nil (hq G2 h5 tk5 kG (C.dropN 2)))
/-- if _law_column(numbers) != row: return False -/
theorem law11 {Q : Flow → Shared → Prop} {na ra : Addr} {row : List Nat} (hA : Room 310 A) (g : Good G) (C : Cx G L h m news) (m1 : m "numbers" = some (.ref na)) (m2 : m "row" = some (.ref ra)) (hn : Ints G na (zs (GR.numsOf row))) (hr : Ints G ra (zs row)) (ok : GR.RowOk row) (hlen : row.length ≤ 12)
    (hq : ∀ G' h' tk', Keep G G' → Cx G' L h' m news → Q .next (St s h' tk')) :
    wpAny (model pw w) A (exec (st23 11) (env23 L cd)) Q E (St s h tk) := by
  obtain ⟨its, j0, hn, hi⟩ := hn
  obtain ⟨its2, j2, hr, hi2⟩ := hr
  have hnl := ok.nums_len
  refine wpAny_If (wpAny_isTrue_Compare1 (zcall (s := s) g C.keep g.f177 (args_cons (zld (s := s) C m1 (args_nil ⟨C.keep, ?_⟩)))))
  refine wpAny_call (column_call (s := St s h tk) (hA.mono (by decide)) (g.keeps C.keep) (isList_of (C.keep _ _ hn)) hi (by omega) (fun n hn => ?_) (by rw [ok.total]; omega) fun a h4 tk4 T k4 a0 hp hs hT => ?_)
  · exact Nat.lt_of_lt_of_le (ok.nums_lt hn) (Nat.pow_le_pow_right (by decide) (by omega))
  obtain ⟨G4, C, kG4, hold⟩ := C.freezeF k4
  obtain ⟨its3, j3, hT, hi3⟩ := hT
  rw [ok.column hp hs] at hi3
  refine zld (s := s) C m2 ?_
  refine zneInts (s := s) hA (isList_of hT) (isList_of (C.keep _ _ (kG4 _ _ hr))) hi3 hi2 (wpAny_truthy_bool ?_)
  rw [show (!decide (zs row = zs row)) = false by simp]
  exact ite_ff (wpAny_execs_nil (hq G4 h4 tk4 kG4 C))
/-- spare = drawn[0] % len(numbers) -/
theorem law12 {Q : Flow → Shared → Prop} {na da : Addr} {nums dr : List Nat} (g : Good G) (C : Cx G L h m news) (m1 : m "numbers" = some (.ref na)) (m2 : m "drawn" = some (.ref da)) (hn : Ints G na (zs nums)) (hd : Ints G da (zs dr)) (hne : nums ≠ []) (hlen : nums.length ≤ 30) (hdr : dr ≠ [])
    (hq : ∀ h' m' tk' t k, k < nums.length → Cx G L h' m' news → m' "spare" = some (.int (k : Nat) t) → (∀ y : Str, y ≠ "spare" → m' y = m y) → Q .next (St s h' tk')) :
    wpAny (model pw w) A (exec (st23 12) (env23 L cd)) Q E (St s h tk) := by
  obtain ⟨its, j0, hn, hi⟩ := hn
  obtain ⟨its2, j2, hd, hi2⟩ := hd
  have hsz : its.size = nums.length := by have := hi.length; simpa using this
  have h0 : 0 < nums.length := List.length_pos_iff.mpr hne
  have hd0 : 0 < dr.length := List.length_pos_iff.mpr hdr
  obtain ⟨t0, e0⟩ := hi2.get 0 ((dr.getD 0 0 : Nat) : Int) (by rw [List.getElem?_map]; simp [List.getD, hd0])
  refine wpAny_Assign_Name (wpAny_BinOp (Subscript_ (zld (s := s) C m2 (zint fun t1 tk1 => ?_))))
  refine zitem (s := s) (v := .int ((dr.getD 0 0 : Nat) : Int) t0) 0 (isList_of (C.keep _ _ hd)) rfl (by rw [← Array.getElem?_toList]; exact e0) (by decide) ?_
  refine zcallB (s := s) g C.keep (args_cons (zld (s := s) C m1 (args_nil (zlen_list nums.length (isList_of (C.keep _ _ hn)) hsz (by omega) fun t2 tk2 => ?_))))
  refine zfmod (s := s) (dr.getD 0 0) nums.length rfl rfl (by omega) fun t3 tk3 => ?_
  refine zst (s := s) C fun h9 tk9 C => ?_
  exact hq h9 _ tk9 t3 _ (Nat.mod_lt _ h0) C (if_pos rfl) fun y hy => if_neg hy
end
end Mine
end V5_text
section V6_text
open PySem PySem.W PySem.Calls PyProof.Rows
set_option maxRecDepth 100000
namespace Mine

theorem total_mem {n : Nat} : ∀ {l : List Nat}, n ∈ l → (digs n).length ≤ GR.total (l.map digs)
  | a :: l, h => by
    have e : GR.total ((a :: l).map digs) = (digs a).length + GR.total (l.map digs) := by simp [GR.total]
    rw [e]
    rcases List.mem_cons.mp h with rfl | h
    · omega
    · have := total_mem h; omega
theorem total_app (a b : List Nat) : GR.total ((a ++ b).map digs) = GR.total (a.map digs) + GR.total (b.map digs) := by
  simp [GR.total]
/-- the two lots -/
noncomputable def lotsOf (nums : List Nat) (k : Nat) : List (List Nat) := [nums ++ [nums.getD k 0], nums.take k ++ nums.drop (k + 1)]
theorem lot_fact {nums : List Nat} {k : Nat} (hk : k < nums.length) {lot : List Nat} (h : lot ∈ lotsOf nums k) :
    (∀ n ∈ lot, n ∈ nums) ∧ lot.length ≤ nums.length + 1 ∧ GR.total (lot.map digs) ≤ 2 * GR.total (nums.map digs) := by
  have hm : nums.getD k 0 ∈ nums := by
    rw [List.getD, List.getElem?_eq_getElem hk]
    exact List.getElem_mem _
  have hs : nums = nums.take k ++ nums.drop k := (List.take_append_drop k nums).symm
  have hs2 : nums = nums.take (k + 1) ++ nums.drop (k + 1) := (List.take_append_drop (k + 1) nums).symm
  simp only [lotsOf, List.mem_cons, List.not_mem_nil, or_false] at h
  rcases h with rfl | rfl
  · refine ⟨fun n hn => ?_, by simp, ?_⟩
    · rcases List.mem_append.mp hn with hn | hn
      · exact hn
      · rw [List.mem_singleton.mp hn]; exact hm
    · rw [total_app]
      have := total_mem hm
      have e : GR.total ([nums.getD k 0].map digs) = (digs (nums.getD k 0)).length := by simp [GR.total]
      rw [e]
      omega
  · refine ⟨fun n hn => ?_, by simp; omega, ?_⟩
    · rcases List.mem_append.mp hn with hn | hn
      · exact List.mem_of_mem_take hn
      · exact List.mem_of_mem_drop hn
    · rw [total_app]
      have h1 := congrArg (fun l => GR.total (l.map digs)) hs
      have h2 := congrArg (fun l => GR.total (l.map digs)) hs2
      simp only [total_app] at h1 h2
      omega
section
variable {w : World} {A : Around} {E : Value → Shared → Prop} {s : Shared} {h G B : Heap} {tk : Nat} {L : Addr} {cd : Value} {m : Str → Option Value} {news : List (Addr × Obj)} {ps : Array Value}

noncomputable def lotBody : List Stmt := match st23 13 with
  | .For _ _ b _ _ => b
  | _ => []
/-- if sorted(_law_numbers(_law_column(lot))) != sorted(lot): return False -/
theorem law_lot {Q : Flow → Shared → Prop} {la : Addr} {row lot : List Nat} (X : Law A B L cd G) (g : Good G) (C : Cx G L h m ((153, tabObj ps) :: news)) (ht : TabOk G ps) (m1 : m "lot" = some (.ref la)) (hl : Ints G la (zs lot))
    (ok : GR.RowOk row) (hlen : row.length ≤ 12) (hm : ∀ n ∈ lot, n ∈ GR.numsOf row) (hll : lot.length ≤ 13) (htot : GR.total (lot.map digs) ≤ 24)
    (hq : ∀ G' h' tk' ps', Keep G G' → Cx G' L h' m ((153, tabObj ps') :: news) → TabOk G' ps' → Q .next (St s h' tk')) :
    wpAny (model pw w) A (execs lotBody (env23 L cd)) Q E (St s h tk) := by
  have hA := X.room
  obtain ⟨its, j0, hl, hi⟩ := hl
  refine wpAny_execs_cons (wpAny_If (wpAny_isTrue_Compare1 ?_))
  refine zcallB (s := s) g C.keep (args_cons (zcall (s := s) g C.keep g.fn158 (args_cons (zcall (s := s) g C.keep g.f177 (args_cons (zld (s := s) C m1 (args_nil ⟨C.keep, ?_⟩)))))))
  refine wpAny_call (column_call (s := St s h tk) (hA.mono (by decide)) (g.keeps C.keep) (isList_of (C.keep _ _ hl)) hi (by omega) (fun n hn => ?_) (by omega) fun a h4 tk4 T k4 a0 hp hs hT => ?_)
  · exact Nat.lt_of_lt_of_le (ok.nums_lt (hm n hn)) (Nat.pow_le_pow_right (by decide) (by omega))
  obtain ⟨r2, e2, ok2, hr2, P2⟩ := GR.lot_column ok hm hp hs
  obtain ⟨G4, C, kG4, hold⟩ := C.freezeF k4
  obtain ⟨its3, j3, hT, hi3⟩ := hT
  rw [e2] at hi3
  refine args_nil ⟨kG4.tr C.keep, ?_⟩
  refine znums (X.keeps kG4) C (ht.keeps kG4) ⟨its3, j3, hold _ _ a0 hT, hi3⟩ ok2 (by omega) fun G5 h5 tk5 ps5 a5 kG5 C ht5 ha5 => ?_
  have hnl := P2.length_eq
  refine args_nil (zsortedI (s := s) C ⟨ha5.choose, ha5.choose_spec.choose, C.keep _ _ ha5.choose_spec.choose_spec.1, ha5.choose_spec.choose_spec.2⟩ (by simp; omega) fun h6 tk6 a6 its6 e6 ns6 C hi6 p6 s6 => ?_)
  have kk := kG4.tr kG5
  refine zcallB (s := s) (g.keeps kk) C.keep (args_cons (zld (s := s) C m1 (args_nil (zsortedI (s := s) C ⟨its, j0, C.keep _ _ (kk _ _ hl), hi⟩ (by simp; omega) fun h7 tk7 a7 its7 e7 ns7 C hi7 p7 s7 => ?_))))
  have heq : ns6 = ns7 := GR.sorted_eq (p6.trans ((P2.map _).trans p7.symm)) s6 s7
  refine zneInts (s := s) hA (isList_of (C.led (a6, _) (.tail _ (.head _))).1) (isList_of C.hd) hi6 hi7 (wpAny_truthy_bool ?_)
  rw [show (!decide (ns6 = ns7)) = false by simp [heq]]
  exact ite_ff (wpAny_execs_nil (wpAny_execs_nil (hq G5 h7 tk7 ps5 kk (C.dropN 2) ht5)))
end
end Mine
end V6_text
section V7_text
open PySem PySem.W PySem.Calls PyProof.Rows
set_option maxRecDepth 100000
namespace Mine

section
variable {w : World} {A : Around} {E : Value → Shared → Prop} {s : Shared} {h G B : Heap} {tk : Nat} {L : Addr} {cd : Value} {m : Str → Option Value} {news : List (Addr × Obj)} {ps : Array Value}

/-- for lot in [..]: .. -/
theorem law13 {Q : Flow → Shared → Prop} {na : Addr} {row : List Nat} {k : Nat} {tz : Tok} (X : Law A B L cd G) (g : Good G) (C : Cx G L h m [(153, tabObj ps)]) (ht : TabOk G ps) (m1 : m "numbers" = some (.ref na)) (m2 : m "spare" = some (.int (k : Nat) tz))
    (hn : Ints G na (zs (GR.numsOf row))) (ok : GR.RowOk row) (hlen : row.length ≤ 12) (hk : k < (GR.numsOf row).length)
    (hq : ∀ G' h' m' tk' ps', Keep G G' → Cx G' L h' m' [(153, tabObj ps')] → TabOk G' ps' → Q .next (St s h' tk')) :
    wpAny (model pw w) A (exec (st23 13) (env23 L cd)) Q E (St s h tk) := by
  have hA := X.room
  obtain ⟨its, j0, hn, hi⟩ := hn
  have hsz : its.size = (GR.numsOf row).length := by have := hi.length; simpa using this
  have hnl := ok.nums_len
  obtain ⟨tx, ex⟩ := hi.get k (((GR.numsOf row).getD k 0 : Nat) : Int) (by rw [List.getElem?_map]; simp [List.getD, List.getElem?_eq_getElem hk])
  refine wpAny_mono (E := fun _ _ => False) ?_ (fun _ _ x => x) fun _ _ x => x.elim
  refine wpAny_For (List_ (args_cons (wpAny_BinOp (zld (s := s) C m1 (List_ (args_cons (Subscript_ (zld (s := s) C m1 (zld (s := s) C m2 ?_)))))))))
  refine zitem (s := s) (v := .int (((GR.numsOf row).getD k 0 : Nat) : Int) tx) k (isList_of (C.keep _ _ hn)) rfl (by rw [← Array.getElem?_toList]; exact ex) (by omega) (args_nil (znewList (s := s) C fun l1 h1 tk1 C => ?_))
  refine zadd_lists (s := s) C (isList_of (C.keep _ _ hn)) (isList_of C.hd) (fun l2 h2 tk2 C => ?_) (by simp only [List.size_toArray, List.length_cons, List.length_nil, sizeLine_eq]; omega)
  obtain ⟨G2, C, kG2, hold2⟩ := C.layN 2
  refine args_cons (wpAny_BinOp (zsliceD ?_))
  refine zld (s := s) C m1 (wpAny_evalPart_none (wpAny_evalPart_some (zld (s := s) C m2 ?_)))
  refine zslice_end (s := s) (its.toList.take k) C (isList_of (C.keep _ _ (kG2 _ _ hn))) .none (.int _ _) (slicePick_upto' _ k) (fun h3 tk3 l3 C => ?_) (by rw [sizeLine_eq]; omega)
  refine zsliceD ?_
  refine zld (s := s) C m1 (wpAny_evalPart_some (wpAny_BinOp (zld (s := s) C m2 (zint fun t4 tk4 => zadd ((k + 1 : Nat) : Int) (by omega) fun t5 tk5 => wpAny_evalPart_none ?_))))
  refine zslice_end (s := s) (its.toList.drop (k + 1)) C (isList_of (C.keep _ _ (kG2 _ _ hn))) (.int _ _) .none (slicePick_from' _ _) (fun h6 tk6 l6 C => ?_) (by rw [sizeLine_eq]; omega)
  refine zadd_lists (s := s) C (isList_of (C.led (l3, _) (.tail _ (.head _))).1) (isList_of C.hd) (fun l7 h7 tk7 C => ?_) (by simp only [List.size_toArray, List.length_take, List.length_drop, Array.length_toList, sizeLine_eq]; omega)
  refine args_nil (znewList (s := s) C fun l8 h8 tk8 C => ?_)
  obtain ⟨G8, C, kG8, hold8⟩ := C.layN 4
  have hk2 := kG2.tr kG8
  have i1 : Ints G8 l2 (zs ((GR.numsOf row) ++ [(GR.numsOf row).getD k 0])) := by
    refine ⟨_, 0, kG8 _ _ (hold2 _ (.head _)), ?_⟩
    have := ints_append hi (IntsAre.cons (((GR.numsOf row).getD k 0 : Nat) : Int) tx .nil)
    simpa using this
  have i2 : Ints G8 l7 (zs ((GR.numsOf row).take k ++ (GR.numsOf row).drop (k + 1))) := by
    refine ⟨_, 0, hold8 _ (.tail _ (.head _)), ?_⟩
    have e1 := hi.take k
    have e2 := hi.drop (k + 1)
    rw [← List.map_take] at e1
    rw [← List.map_drop] at e2
    have := ints_append e1 e2
    simpa using this
  have hh8 := hold8 _ (.head _)
  refine zpyIter (s := s) C (isList_of (C.keep _ _ hh8)) fun h9 tk9 I oI C o1 o2 => ?_
  refine zforList (s := s) (env := env23 L cd) (items := #[.ref l2, .ref l7]) (fun i G' m news => Keep G8 G' ∧ ∃ ps, news = [(153, tabObj ps)] ∧ TabOk G' ps) hA.1 C o1 o2 ⟨Keep.rfl', _, rfl, ht.keeps hk2⟩ (fun i G' m news hJ => (isList_of hh8).at fun o e => hJ.1 _ _ e) ?_ ?_
  · rintro i v G' h3 m3 news tk3 oI' hi3 ⟨kG, ps3, rfl, ht3⟩ C
    have kk := hk2.tr kG
    have hlot : ∃ la lot, v = .ref la ∧ Ints G' la (zs lot) ∧ lot ∈ lotsOf (GR.numsOf row) k := by
      rcases i with _ | _ | i
      · cases hi3
        exact ⟨l2, _, rfl, i1.keeps kG, by simp [lotsOf]⟩
      · cases hi3
        exact ⟨l7, _, rfl, i2.keeps kG, by simp [lotsOf]⟩
      · simp at hi3
    obtain ⟨la, lot, rfl, hl, hmem⟩ := hlot
    obtain ⟨f1, f2, f3⟩ := lot_fact hk hmem
    rw [ok.total] at f3
    refine law_lot (X.keeps kk) (g.keeps kk) (C.perm (List.Perm.swap _ _ _)) ht3 (if_pos rfl) hl ok hlen f1 (by omega) (by omega) fun G5 h5 tk5 ps5 kG5 C ht5 => ?_
    exact ⟨G5, h5, _, _, tk5, rfl, C.perm (List.Perm.swap _ _ _), kG.tr kG5, ps5, rfl, ht5⟩
  · rintro G' h3 m3 news tk3 ⟨kG, ps3, rfl, ht3⟩ C
    exact hq G' h3 m3 tk3 ps3 (hk2.tr kG) C ht3
end

theorem d5_len (ns : List Int) : (d5 ns).length ≤ 5 := by
  unfold d5
  simp
  omega
theorem body23 : sBody (stm 23) = [st23 0, st23 1, st23 2, st23 3, st23 4, st23 5, st23 6, st23 7, st23 8, st23 9, st23 10, st23 11, st23 12, st23 13, st23 14] := by kernel_rfl
/-- law -/
theorem law_call {w : World} {A : Around} {s : Shared} {R : Result → Shared → Prop} {ls : Addr} {vs : Array Value} {ns : List Int} (hA : Room 309 A) (hfr : A.frames = some []) (g3 : Good3 (s.heap.hide 153)) (h153 : s.heap.get? 153 = some (tabObj #[]))
    (hls : s.heap.IsList ls vs) (hvs : IntsAre vs.toList ns) (hlen : ns.length ≤ 63)
    (h : ∀ h' tk ps, (∀ b o, b ≠ 153 → s.heap.get? b = some o → h'.get? b = some o) → h'.get? 153 = some (tabObj ps) → R (.ok (.ret (.bool true))) (St s h' tk)) :
    codeAny (model pw w) A (.call (.ref 182) ⟨[.ref ls], []⟩) R s := by
  have kh : Keep (s.heap.hide 153) s.heap := fun b o e => Heap.of_hide e
  refine enter (binds := [("script", .ref ls)]) (by unfold recursionLimit; have := hA.2.1; omega) (g3.g.keeps kh).lim (g3.g.keeps kh).f182 (fun _ _ _ _ _ => BindsTo.of_eq rfl) (by decide +kernel) (by simp; decide +kernel) rfl rfl rfl fun h₁ cd F => ?_
  have C := (Cx.of_fr F).hot h153
  have hA' : Room 310 (A.deeper (env23 s.heap.objs.size cd)) := hA.deeper (env23 s.heap.objs.size cd)
  have hls2 : (s.heap.hide 153).IsList ls vs := by
    obtain ⟨o, ho, hc, r⟩ := hls
    refine ⟨o, ?_, hc, r⟩
    rw [Heap.hide_ne _ ?_]
    · exact ho
    · rintro rfl
      rw [h153] at ho
      cases ho
      simp at hc
  have X0 : Law (A.deeper (env23 s.heap.objs.size cd)) (s.heap.hide 153) s.heap.objs.size cd (s.heap.hide 153) := ⟨hA', by show A.frames.map _ = _; rw [hfr]; rfl, g3.g, Heap.hide_self _ _, C.gl, Keep.rfl'⟩
  rw [body23]
  refine wpAny_mono (E := fun _ _ => False) ?_ (fun _ _ x => x) fun _ _ x => x.elim
  refine wpAny_execs_cons (law0 (s := s) hA' C (by walk_at "lk") hls2 hvs hlen fun G0 h0 m0 tk0 D0 k0 C q0 i0 => ?_)
  refine wpAny_execs_cons (law1 (s := s) (g3.g.keeps k0) C q0 i0 (d5_len ns) fun G1 h1 m1 tk1 D1 k1 C q1 i1 => ?_)
  have k01 := k0.tr k1
  have hdr : d5 ns ++ [22, 7, 5, 0, 27].drop (d5 ns).length ++ [16] = drawnOf ns := rfl
  rw [hdr] at i1
  have hdl : (drawnOf ns).length = 6 := drawn_len ns
  refine wpAny_execs_cons (law2 (s := s) hA' (g3.g.keeps k01) C q1 i1 (by omega) fun G2 h2 m2 tk2 P k2 C qd qp hP => ?_)
  refine wpAny_execs_cons (law3 (s := s) hA' C qp hP (by omega) fun G3 h3 m3 tk3 t3 k3 C qs e3 => ?_)
  refine wpAny_execs_cons (law4 (s := s) hA' C ((e3 _ (by decide)).trans qp) (hP.keeps k3) (by omega) fun G4 h4 m4 tk4 t4 k4 C ql e4 => ?_)
  have k04 := ((k01.tr k2).tr k3).tr k4
  have hpl := plain_len (drawnOf ns)
  have hsl := spelled_len (drawnOf ns)
  refine wpAny_execs_cons (law5 (s := s) hA' (g3.g2.keeps k04) C ((e4 _ (by decide)).trans qs) (by omega) (fun c hc => spelled_ok hc) (by rw [prep_plain]; omega) fun G5 h5 m5 tk5 t5 k5 C qr e5 => ?_)
  rw [prep_plain] at qr
  have k05 := k04.tr k5
  refine wpAny_execs_cons (law6 (s := s) hA' (g3.keeps k05) C qr (by omega) fun h6 m6 tk6 t6 C qn e6 => ?_)
  refine wpAny_execs_cons (law7 (s := s) hA' (g3.keeps k05) C ((e6 _ (by decide)).trans qr) ((e6 _ (by decide)).trans ((e5 _ (by decide)).trans ql)) qn (by omega) fun h7 tk7 C => ?_)
  have hse : (sentAll (plainOf (drawnOf ns))).length ≤ 12 := by
    have := sent_len (drawnOf ns) []
    rw [RX.sentAll_go]
    omega
  refine wpAny_execs_cons (law8 (s := s) hA' C qn hse (fun c hc => sent_signs hc) fun G8 h8 m8 tk8 D8 k8 C qw i8 e8 => ?_)
  have k08 := k05.tr k8
  have hrow : (sentAll (plainOf (drawnOf ns))).map figOf = rowOf (drawnOf ns) := rfl
  rw [hrow] at i8
  have ok := row_ok (drawnOf ns)
  have hrl := row_len (drawnOf ns)
  have hne : rowOf (drawnOf ns) ≠ [] := by
    obtain ⟨l, e⟩ := drawn_split ns
    rw [e]
    exact row_ne l
  refine wpAny_execs_cons (law9 (X0.keeps k08) (g3.g.keeps k08) C (.inl rfl) qw i8 ok (by omega) fun G9 h9 m9 tk9 ps9 a9 k9 C ht9 q9 i9 e9 => ?_)
  have k09 := k08.tr k9
  have hnl := ok.nums_len
  refine wpAny_execs_cons (law10 (s := s) hA' (g3.g.keeps k09) C q9 i9 (fun n hn => GR.low_of_lyn (ok.lyn hn)) (fun n hn => Nat.lt_of_lt_of_le (ok.nums_lt hn) (Nat.pow_le_pow_right (by decide) (by omega))) (by omega) fun G10 h10 tk10 k10 C => ?_)
  have k010 := k09.tr k10
  refine wpAny_execs_cons (law11 (s := s) hA' (g3.g.keeps k010) C q9 ((e9 _ (by decide)).trans qw) (i9.keeps k10) ((i8.keeps k9).keeps k10) ok (by omega) fun G11 h11 tk11 k11 C => ?_)
  have k011 := k010.tr k11
  have qd12 : m9 "drawn" = some (.ref D1) := (e9 _ (by decide)).trans ((e8 _ (by decide)).trans ((e6 _ (by decide)).trans ((e5 _ (by decide)).trans ((e4 _ (by decide)).trans ((e3 _ (by decide)).trans qd)))))
  have i12 : Ints G11 D1 (zs (drawnOf ns)) := i1.keeps (((((((k2.tr k3).tr k4).tr k5).tr k8).tr k9).tr k10).tr k11)
  refine wpAny_execs_cons (law12 (s := s) (g3.g.keeps k011) C q9 qd12 (i9.keeps (k10.tr k11)) i12 (ok.ne hne) (by omega) (by intro e; rw [e] at hdl; cases hdl) fun h12 m12 tk12 t12 kk hk C q12 e12 => ?_)
  refine wpAny_execs_cons (law13 (X0.keeps k011) (g3.g.keeps k011) C ((ht9.keeps k10).keeps k11) ((e12 _ (by decide)).trans q9) q12 (i9.keeps (k10.tr k11)) ok (by omega) hk fun G13 h13 m13 tk13 ps13 k13 C ht13 => ?_)
  refine wpAny_execs_cons (wpAny_Return_some (Constant_bool ?_))
  refine h h13 _ ps13 (fun b o hb e => C.keep _ _ (k13 _ _ (k011 _ _ ?_))) C.hd
  rw [Heap.hide_ne _ hb]
  exact e
end Mine
end V7_text
section E13_text
open PySem PySem.W PySem.Calls PyProof.Rows
set_option maxRecDepth 100000
namespace Mine.Ev
open Mine.Di

noncomputable def lkp : List (Nat × Obj) → Nat → Option Obj
  | [], _ => none
  | (a, o) :: r, i => match Nat.beq a i with
    | true => some o
    | false => lkp r i
theorem lkp_mem {i : Nat} {o : Obj} : ∀ {l : List (Nat × Obj)}, lkp l i = some o → (i, o) ∈ l
  | [], h => by cases h
  | (a, o') :: r, h => by
    unfold lkp at h
    cases hb : Nat.beq a i with
    | true =>
      rw [hb] at h
      cases h
      rw [Nat.eq_of_beq_eq_true hb]
      exact .head _
    | false =>
      rw [hb] at h
      exact .tail _ (lkp_mem h)
structure Has (P : Params) (G : Heap) : Prop where
  get : ∀ p ∈ cF P, p.1 ≠ 153 → G.get? p.1 = some p.2
theorem Has.at {P : Params} {G : Heap} (H : Has P G) {a : Nat} {o : Obj} (e : lkp (cF P) a = some o) (h : a ≠ 153 := by decide) : G.get? a = some o := H.get _ (lkp_mem e) h
noncomputable def fv (o : Obj) : Array Value := match o.data with | .fields vs => vs | _ => #[]
noncomputable def dv (o : Obj) : Array DictEntry := match o.data with | .dict es _ => es | _ => #[]
noncomputable def dn (o : Obj) : Nat := match o.data with | .dict _ n => n | .seq _ n => n | _ => 0
noncomputable def qv (o : Obj) : Array Value := match o.data with | .seq vs _ => vs | _ => #[]
noncomputable def objMap (o : Obj) (x : Str) : Option Value := nsFind (dv o) x
theorem ns_of {G : Heap} {a : Addr} {o : Obj} (e : G.get? a = some o) (hd : o.data = .dict (dv o) (dn o)) (hk : (dv o).all (fun e => match e.key with | .str .. => true | _ => false) = true) : G.Ns a (objMap o) := by
  refine ⟨o, dv o, dn o, e, hd, fun e he => ?_, fun _ => rfl⟩
  have := Array.all_eq_true.mp hk
  obtain ⟨i, hi, rfl⟩ := Array.mem_iff_getElem.mp he
  have h2 := this i hi
  revert h2
  cases ((dv o)[i]).key <;> simp
theorem lookup_mem {α : Type} {x : Str} {v : α} : ∀ {l : List (Str × α)}, l.lookup x = some v → (x, v) ∈ l
  | [], h => by cases h
  | (a, b) :: l, h => by
    rw [List.lookup_cons] at h
    cases hb : x == a with
    | true =>
      rw [hb] at h
      cases h
      rw [eq_of_beq hb]
      exact .head _
    | false =>
      rw [hb] at h
      exact .tail _ (lookup_mem h)
theorem of_maps3 {α β γ : Type} {f : α → γ} {g : β → γ} {l : List (α × β)} : l.map (fun p => f p.1) = l.map (fun p => g p.2) → ∀ x v, (x, v) ∈ l → f x = g v := by
  induction l with
  | nil => intro _ x v hp; cases hp
  | cons a l ih =>
    intro h x v hp
    simp only [List.map_cons, List.cons.injEq] at h
    rcases List.mem_cons.mp hp with rfl | hp
    · exact h.1
    · exact ih h.2 x v hp
theorem fn_at {P : Params} {G : Heap} (H : Has P G) {f c i : Nat} {fo co : Obj} {dV kV pm : Value} {tq : Tok} (h1 : lkp (cF P) f = some fo) (h2 : lkp (cF P) c = some co) (hf : f ≠ 153) (hc : c ≠ 153)
    (e1 : fo.data = .func (fnOf (sName (stm i)) (sName (stm i)) (sParams (stm i)) (sBody (stm i)) (sScope (stm i)) dV kV .none pm none (.ref c) .none)) (e2 : co.data = .fields (fv co)) (e3 : (fv co)[1]? = some (.str (sName (stm i)) tq)) :
    ∃ o doc pm an ct, G.get? f = some o ∧ o.data = .func (fnOf (sName (stm i)) (sName (stm i)) (sParams (stm i)) (sBody (stm i)) (sScope (stm i)) dV kV doc pm an (.ref c) ct) ∧ G.CodeRec (.ref c) (sName (stm i)) :=
  ⟨fo, .none, pm, none, .none, H.at h1 hf, e1, c, co, fv co, tq, rfl, H.at h2 hc, e2, e3⟩
theorem fn_at' {G : Heap} {f c i : Nat} {dV kV : Value} (h : ∃ o doc pm an ct, G.get? f = some o ∧ o.data = .func (fnOf (sName (stm i)) (sName (stm i)) (sParams (stm i)) (sBody (stm i)) (sScope (stm i)) dV kV doc pm an (.ref c) ct) ∧ G.CodeRec (.ref c) (sName (stm i))) : FnAt G f i dV kV :=
  let ⟨o, doc, pm, an, ct, a, b, d⟩ := h; ⟨o, doc, pm, an, .ref c, ct, a, b, d⟩
section
variable {P : Params} {G : Heap}
theorem fnat40 (H : Has P G) : ∃ o doc pm an ct, G.get? 40 = some o ∧ o.data = .func (fnOf (sName (stm 2)) (sName (stm 2)) (sParams (stm 2)) (sBody (stm 2)) (sScope (stm 2)) (.ref 32) (.ref 33) doc pm an (.ref 39) ct) ∧ G.CodeRec (.ref 39) (sName (stm 2)) :=
  fn_at H (fo := o40 P) (co := o39 P) (pm := .str "cpy313.bisect" 282) (tq := 287) (by kernel_rfl) (by kernel_rfl) (by decide) (by decide) (by kernel_rfl) (by kernel_rfl) (by kernel_rfl)
theorem fnat49 (H : Has P G) : ∃ o doc pm an ct, G.get? 49 = some o ∧ o.data = .func (fnOf (sName (stm 3)) (sName (stm 3)) (sParams (stm 3)) (sBody (stm 3)) (sScope (stm 3)) (.ref 41) (.ref 42) doc pm an (.ref 48) ct) ∧ G.CodeRec (.ref 48) (sName (stm 3)) :=
  fn_at H (fo := o49 P) (co := o48 P) (pm := .str "cpy313.bisect" 282) (tq := 300) (by kernel_rfl) (by kernel_rfl) (by decide) (by decide) (by kernel_rfl) (by kernel_rfl) (by kernel_rfl)
theorem fnat56 (H : Has P G) : ∃ o doc pm an ct, G.get? 56 = some o ∧ o.data = .func (fnOf (sName (stm 5)) (sName (stm 5)) (sParams (stm 5)) (sBody (stm 5)) (sScope (stm 5)) .none .none doc pm an (.ref 55) ct) ∧ G.CodeRec (.ref 55) (sName (stm 5)) :=
  fn_at H (fo := o56 P) (co := o55 P) (pm := .str "cpy313.dis" 311) (tq := 314) (by kernel_rfl) (by kernel_rfl) (by decide) (by decide) (by kernel_rfl) (by kernel_rfl) (by kernel_rfl)
theorem fnat73 (H : Has P G) : ∃ o doc pm an ct, G.get? 73 = some o ∧ o.data = .func (fnOf (sName (stm 10)) (sName (stm 10)) (sParams (stm 10)) (sBody (stm 10)) (sScope (stm 10)) .none .none doc pm an (.ref 72) ct) ∧ G.CodeRec (.ref 72) (sName (stm 10)) :=
  fn_at H (fo := o73 P) (co := o72 P) (pm := .str "cpy313.smtplib" 322) (tq := 385) (by kernel_rfl) (by kernel_rfl) (by decide) (by decide) (by kernel_rfl) (by kernel_rfl) (by kernel_rfl)
theorem fnat91 (H : Has P G) : ∃ o doc pm an ct, G.get? 91 = some o ∧ o.data = .func (fnOf (sName (stm 13)) (sName (stm 13)) (sParams (stm 13)) (sBody (stm 13)) (sScope (stm 13)) .none .none doc pm an (.ref 90) ct) ∧ G.CodeRec (.ref 90) (sName (stm 13)) :=
  fn_at H (fo := o91 P) (co := o90 P) (pm := .str "cpy313.stringprep" 391) (tq := 454) (by kernel_rfl) (by kernel_rfl) (by decide) (by decide) (by kernel_rfl) (by kernel_rfl) (by kernel_rfl)
theorem fnat137 (H : Has P G) : ∃ o doc pm an ct, G.get? 137 = some o ∧ o.data = .func (fnOf (sName (stm 15)) (sName (stm 15)) (sParams (stm 15)) (sBody (stm 15)) (sScope (stm 15)) .none .none doc pm an (.ref 136) ct) ∧ G.CodeRec (.ref 136) (sName (stm 15)) :=
  fn_at H (fo := o137 P) (co := o136 P) (pm := .str "cpy313.stringprep" 391) (tq := 2412) (by kernel_rfl) (by kernel_rfl) (by decide) (by decide) (by kernel_rfl) (by kernel_rfl) (by kernel_rfl)
theorem fnat144 (H : Has P G) : ∃ o doc pm an ct, G.get? 144 = some o ∧ o.data = .func (fnOf (sName (stm 17)) (sName (stm 17)) (sParams (stm 17)) (sBody (stm 17)) (sScope (stm 17)) .none .none doc pm an (.ref 143) ct) ∧ G.CodeRec (.ref 143) (sName (stm 17)) :=
  fn_at H (fo := o144 P) (co := o143 P) (pm := .str "law_us0011_01" 2419) (tq := 2422) (by kernel_rfl) (by kernel_rfl) (by decide) (by decide) (by kernel_rfl) (by kernel_rfl) (by kernel_rfl)
theorem fnat151 (H : Has P G) : ∃ o doc pm an ct, G.get? 151 = some o ∧ o.data = .func (fnOf (sName (stm 18)) (sName (stm 18)) (sParams (stm 18)) (sBody (stm 18)) (sScope (stm 18)) .none .none doc pm an (.ref 150) ct) ∧ G.CodeRec (.ref 150) (sName (stm 18)) :=
  fn_at H (fo := o151 P) (co := o150 P) (pm := .str "law_us0011_01" 2419) (tq := 2435) (by kernel_rfl) (by kernel_rfl) (by decide) (by decide) (by kernel_rfl) (by kernel_rfl) (by kernel_rfl)
theorem fnat158 (H : Has P G) : ∃ o doc pm an ct, G.get? 158 = some o ∧ o.data = .func (fnOf (sName (stm 19)) (sName (stm 19)) (sParams (stm 19)) (sBody (stm 19)) (sScope (stm 19)) .none .none doc pm an (.ref 157) ct) ∧ G.CodeRec (.ref 157) (sName (stm 19)) :=
  fn_at H (fo := o158 P) (co := o157 P) (pm := .str "law_us0011_01" 2419) (tq := 2445) (by kernel_rfl) (by kernel_rfl) (by decide) (by decide) (by kernel_rfl) (by kernel_rfl) (by kernel_rfl)
theorem fnat165 (H : Has P G) : ∃ o doc pm an ct, G.get? 165 = some o ∧ o.data = .func (fnOf (sName (stm 20)) (sName (stm 20)) (sParams (stm 20)) (sBody (stm 20)) (sScope (stm 20)) .none .none doc pm an (.ref 164) ct) ∧ G.CodeRec (.ref 164) (sName (stm 20)) :=
  fn_at H (fo := o165 P) (co := o164 P) (pm := .str "law_us0011_01" 2419) (tq := 2460) (by kernel_rfl) (by kernel_rfl) (by decide) (by decide) (by kernel_rfl) (by kernel_rfl) (by kernel_rfl)
theorem fnat172 (H : Has P G) : ∃ o doc pm an ct, G.get? 172 = some o ∧ o.data = .func (fnOf (sName (stm 21)) (sName (stm 21)) (sParams (stm 21)) (sBody (stm 21)) (sScope (stm 21)) .none .none doc pm an (.ref 171) ct) ∧ G.CodeRec (.ref 171) (sName (stm 21)) :=
  fn_at H (fo := o172 P) (co := o171 P) (pm := .str "law_us0011_01" 2419) (tq := 2468) (by kernel_rfl) (by kernel_rfl) (by decide) (by decide) (by kernel_rfl) (by kernel_rfl) (by kernel_rfl)
theorem fnat177 (H : Has P G) : ∃ o doc pm an ct, G.get? 177 = some o ∧ o.data = .func (fnOf (sName (stm 22)) (sName (stm 22)) (sParams (stm 22)) (sBody (stm 22)) (sScope (stm 22)) .none .none doc pm an (.ref 176) ct) ∧ G.CodeRec (.ref 176) (sName (stm 22)) :=
  fn_at H (fo := o177 P) (co := o176 P) (pm := .str "law_us0011_01" 2419) (tq := 2477) (by kernel_rfl) (by kernel_rfl) (by decide) (by decide) (by kernel_rfl) (by kernel_rfl) (by kernel_rfl)
theorem fnat182 (H : Has P G) : ∃ o doc pm an ct, G.get? 182 = some o ∧ o.data = .func (fnOf (sName (stm 23)) (sName (stm 23)) (sParams (stm 23)) (sBody (stm 23)) (sScope (stm 23)) .none .none doc pm an (.ref 181) ct) ∧ G.CodeRec (.ref 181) (sName (stm 23)) :=
  fn_at H (fo := o182 P) (co := o181 P) (pm := .str "law_us0011_01" 2419) (tq := 2483) (by kernel_rfl) (by kernel_rfl) (by decide) (by decide) (by kernel_rfl) (by kernel_rfl) (by kernel_rfl)

theorem lim_of (H : Has P G) : G.NoLimit := ⟨objMap (b2 P), ns_of (H.at (by kernel_rfl)) (by kernel_rfl) (by kernel_rfl), by kernel_rfl⟩
theorem glob_map (P : Params) : known.map (fun p => objMap (g3F P) p.1) = known.map (fun p => id p.2) := by kernel_rfl
theorem glob_of (H : Has P G) : ∃ mg, G.Ns mainGlobals mg ∧ (∀ x v, known.lookup x = some v → mg x = v) ∧ G.BuiltinsAt mg 153 :=
  ⟨objMap (g3F P), ns_of (H.at (by kernel_rfl)) (by kernel_rfl) (by kernel_rfl), fun x v h => of_maps3 (f := objMap (g3F P)) (g := id) (glob_map P) x v (lookup_mem h), 4, b4 P, by kernel_rfl, by decide, by decide, by decide, H.at (by kernel_rfl), by kernel_rfl, by kernel_rfl, by kernel_rfl⟩
theorem blt_map (P : Params) : knownB.map (fun p => objMap (boot_o_0 P) p.1) = knownB.map (fun p => some p.2) := by kernel_rfl
theorem blt_of (H : Has P G) : ∃ mb, G.Ns builtinsNs mb ∧ ∀ x v, knownB.lookup x = some v → mb x = some v :=
  ⟨objMap (boot_o_0 P), ns_of (H.at (by kernel_rfl)) (by kernel_rfl) (by kernel_rfl), fun x v h => of_maps3 (f := objMap (boot_o_0 P)) (g := some) (blt_map P) x v (lookup_mem h)⟩
theorem t32_of (H : Has P G) : G.get? 32 = some { cls := .type "tuple", data := .seq #[.int 0 284, .none] 0 } := H.at (by kernel_rfl)
theorem t41_of (H : Has P G) : G.get? 41 = some { cls := .type "tuple", data := .seq #[.int 0 297, .none] 0 } := H.at (by kernel_rfl)
theorem c157_of (H : Has P G) : CodeHd G 157 153 := ⟨o157 P, fv (o157 P), "/claim/cut.py", 2457, 3, 0, true, 276, 0, H.at (by kernel_rfl), by kernel_rfl, by kernel_rfl, by kernel_rfl, by kernel_rfl, by kernel_rfl, by kernel_rfl, by kernel_rfl, by kernel_rfl, by decide⟩
theorem fat40 (H : Has P G) : FnAt G 40 2 (.ref 32) (.ref 33) := fn_at' (fnat40 H)
theorem fat49 (H : Has P G) : FnAt G 49 3 (.ref 41) (.ref 42) := fn_at' (fnat49 H)
theorem fat56 (H : Has P G) : FnAt G 56 5 .none .none := fn_at' (fnat56 H)
theorem fat73 (H : Has P G) : FnAt G 73 10 .none .none := fn_at' (fnat73 H)
theorem fat91 (H : Has P G) : FnAt G 91 13 .none .none := fn_at' (fnat91 H)
theorem fat137 (H : Has P G) : FnAt G 137 15 .none .none := fn_at' (fnat137 H)
theorem fat144 (H : Has P G) : FnAt G 144 17 .none .none := fn_at' (fnat144 H)
theorem fat151 (H : Has P G) : FnAt G 151 18 .none .none := fn_at' (fnat151 H)
theorem fat165 (H : Has P G) : FnAt G 165 20 .none .none := fn_at' (fnat165 H)
theorem fat172 (H : Has P G) : FnAt G 172 21 .none .none := fn_at' (fnat172 H)
theorem fat177 (H : Has P G) : FnAt G 177 22 .none .none := fn_at' (fnat177 H)
theorem fat182 (H : Has P G) : FnAt G 182 23 .none .none := fn_at' (fnat182 H)
theorem good_of (H : Has P G) : Good G where
  lim := lim_of H
  glob := glob_of H
  blt := blt_of H
  t32 := t32_of H
  t41 := t41_of H
  c157 := c157_of H
  f40 := fat40 H
  f49 := fat49 H
  f56 := fat56 H
  f73 := fat73 H
  f91 := fat91 H
  f137 := fat137 H
  f144 := fat144 H
  f151 := fat151 H
  f158 := fnat158 H
  f165 := fat165 H
  f172 := fat172 H
  f177 := fat177 H
  f182 := fat182 H

noncomputable def sv (o : Obj) : Array (Int × Value) := match o.data with | .set es _ _ => es | _ => #[]
noncomputable def sn (o : Obj) : Nat := match o.data with | .set _ n _ => n | _ => 0
noncomputable def st (o : Obj) : SetTable := match o.data with | .set _ _ t => t | _ => default
noncomputable def intOf : Value → Int
  | .int i _ => i
  | _ => 0
noncomputable def isI : Value → Bool
  | .int .. => true
  | _ => false
theorem set_ints (w : World) (P : Params) : ElemsOf (intKind pw w) (sv (o81 P)).toList := by
  have h : (sv (o81 P)).toList.all (fun e => isI e.2 && decide (e.1 = hashInt (intOf e.2))) = true := by kernel_rfl
  intro e he
  have := List.all_eq_true.mp h e he
  obtain ⟨h1, h2⟩ := Bool.and_eq_true_iff.mp this
  have h2 := of_decide_eq_true h2
  obtain ⟨a, v⟩ := e
  cases v <;> simp [isI] at h1
  exact ⟨⟨_, intKind_is pw w _ _, h2⟩, rfl⟩
theorem set_mem (P : Params) : (sv (o81 P)).toList.map (fun e => intOf e.2) = [65024, 65025, 65026, 65027, 65028, 65029, 6150, 65030, 65031, 65032, 65033, 6155, 6156, 6157, 8203, 8204, 8205, 65034, 65035, 65036, 65037, 65038, 65039, 173, 847, 8288, 65279] := by kernel_rfl
theorem b1_same : ∀ k : Int, k ∈ b1L ↔ k ∈ ([65024, 65025, 65026, 65027, 65028, 65029, 6150, 65030, 65031, 65032, 65033, 6155, 6156, 6157, 8203, 8204, 8205, 65034, 65035, 65036, 65037, 65038, 65039, 173, 847, 8288, 65279] : List Int) := by
  have h1 : ∀ k ∈ b1L, k ∈ ([65024, 65025, 65026, 65027, 65028, 65029, 6150, 65030, 65031, 65032, 65033, 6155, 6156, 6157, 8203, 8204, 8205, 65034, 65035, 65036, 65037, 65038, 65039, 173, 847, 8288, 65279] : List Int) := by decide +kernel
  have h2 : ∀ k ∈ ([65024, 65025, 65026, 65027, 65028, 65029, 6150, 65030, 65031, 65032, 65033, 6155, 6156, 6157, 8203, 8204, 8205, 65034, 65035, 65036, 65037, 65038, 65039, 173, 847, 8288, 65279] : List Int), k ∈ b1L := by decide +kernel
  exact fun k => ⟨h1 k, h2 k⟩
theorem set_size (P : Params) : (sv (o81 P)).size = 27 := by kernel_rfl
theorem s81_of (H : Has P G) (w : World) : G.SetOf (intKind pw w) 81 (fun k => decide (k ∈ b1L)) 27 := by
  refine ⟨o81 P, sv (o81 P), sn (o81 P), st (o81 P), H.at (by kernel_rfl), ⟨by kernel_rfl, by kernel_rfl, by kernel_rfl⟩, by kernel_rfl, set_ints w P, fun k => ?_, by rw [set_size P]; decide, by kernel_rfl, by kernel_rfl⟩
  rw [decide_eq_true_iff, b1_same, ← set_mem P, List.mem_map]
  constructor
  · rintro ⟨e, he, rfl⟩
    refine ⟨e, he, ?_⟩
    obtain ⟨⟨k, hk, _⟩, _⟩ := set_ints w P e he
    have : intOf e.2 = k := by
      have hk : Value.isInt k e.2 = true := hk
      obtain ⟨t, e2⟩ := Value.isInt_shape hk
      rw [e2]; rfl
    rw [this]
    exact hk
  · rintro ⟨e, he, hk⟩
    refine ⟨e, he, ?_⟩
    have hk : Value.isInt k e.2 = true := hk
    obtain ⟨t, e2⟩ := Value.isInt_shape hk
    rw [e2]; rfl
theorem pat1_of (H : Has P G) : RX.PatAt G 61 RX.code1 := ⟨o61 P, fv (o61 P), 60, o60 P, qv (o60 P), dn (o60 P), H.at (by kernel_rfl), by kernel_rfl, by kernel_rfl, by kernel_rfl, by kernel_rfl, H.at (by kernel_rfl), by kernel_rfl, by kernel_rfl, by kernel_rfl, by kernel_rfl⟩
theorem pat2_of (H : Has P G) : RX.PatAt G 66 RX.code2 := ⟨o66 P, fv (o66 P), 65, o65 P, qv (o65 P), dn (o65 P), H.at (by kernel_rfl), by kernel_rfl, by kernel_rfl, by kernel_rfl, by kernel_rfl, H.at (by kernel_rfl), by kernel_rfl, by kernel_rfl, by kernel_rfl, by kernel_rfl⟩
end
theorem kv_flat {kvs : List (Int × Value)} {ds : List (Int × Str)} (h : KV kvs ds) : PyProof.V.FlatPairs PyData.int kvs (ds.map fun d => (PyData.int d.1, PyData.str d.2)) := by
  induction h with
  | nil => exact .nil
  | cons k x t _ ih => exact .cons (PyProof.V.Flat.str x t) ih
theorem pairs_any {w w' : World} {es : List DictEntry} {kvs : List (Int × Value)} (h : Pairs (intKind pw w) es kvs) : Pairs (intKind pw w') es kvs := by
  induction h with
  | nil => exact .nil
  | cons a b _ ih => exact .cons a b ih
theorem d92_of {w : World} {G : Heap} (h : Tab92 pw w G) (w' : World) : IntTab pw w' G 92 b3D := by
  obtain ⟨kvs, hkv, hd⟩ := h.tab
  rw [b3D_eq w]
  obtain ⟨o, es, ep, h1, h2, h3, h4, h5, h6⟩ := hd
  exact ⟨by decide, kvs, ⟨o, es, ep, h1, h2, h3, fun e he => let ⟨k, a, b⟩ := h4 e he; ⟨k, a, b⟩, pairs_any h5, h6⟩, kv_flat hkv⟩
theorem good3_of {w w' : World} {G : Heap} (H : Has w.params G) (h : Tab92 pw w' G) : Good3 G := ⟨⟨good_of H, s81_of H, d92_of h⟩, pat1_of H, pat2_of H⟩
end Mine.Ev
end E13_text
section E14_text
open PySem PySem.W PySem.Calls PyProof.Rows
set_option maxRecDepth 100000
namespace Mine.Ev
open Mine.Di

noncomputable abbrev rowL : OpenRow := PySem.Challenge.rw_us0011_01.row
noncomputable abbrev clL : ClaimW := rowL.toRowW.claim

theorem args_of {args : List WData} (h : clL.pre args = true) : ∃ ns : List Int, args = [.list (ns.map .int)] ∧ ns.length ≤ 63 := by
  obtain ⟨h1, h2⟩ := pre_splitW h
  obtain ⟨d, r, rfl, h3, h4⟩ := hasAllW_cons (e := .list .int) (es := []) h1
  obtain rfl := hasAllW_nil h4
  obtain ⟨xs, rfl, h5⟩ := hasW_list h3
  obtain ⟨ns, rfl⟩ := items_int h5
  refine ⟨ns, rfl, ?_⟩
  have h2 : WTm.holds [] (.and (.not (.lt (.lit (.int 63)) (.len (.arg 0)))) (.lit (.bool true))) { args := [.list (ns.map .int)] } = true := h2
  by_cases hl : ns.length ≤ 63
  · exact hl
  · exfalso
    have hlt : (63 : Int) < (ns.length : Int) := by omega
    have e : Num.less? (.int 63) (.int (ns.length : Int)) = some true := by simp [Num.less?, hlt]
    simp [WTm.holds, WTm.value, less?, e] at h2
theorem readsAll_ints {cl : Str → Option Addr} {h : Heap} : ∀ {ns : List Int} {vs : List Value} {as : List Addr}, ReadsAllW [] cl h vs (ns.map .int) as → IntsAre vs ns
  | [], vs, as, r => by
    obtain ⟨rfl, _⟩ := readsAllW_nil_inv r
    exact .nil
  | n :: ns, vs, as, r => by
    obtain ⟨v, vs', a1, a2, rfl, _, r1, r2⟩ := readsAllW_cons_inv (d := .int n) (ds := ns.map .int) r
    obtain ⟨t, rfl, _⟩ := readsW_int_inv r1
    exact .cons n t (readsAll_ints r2)
theorem vs_of {cl : Str → Option Addr} {h : Heap} {ns : List Int} {vs : List Value} {as : List Addr} (r : ReadsAllW [] cl h vs [.list (ns.map .int)] as) : ∃ ls its, vs = [.ref ls] ∧ h.IsList ls its ∧ IntsAre its.toList ns := by
  obtain ⟨v, vs', a1, a2, rfl, _, r1, r2⟩ := readsAllW_cons_inv r
  obtain ⟨rfl, _⟩ := readsAllW_nil_inv r2
  obtain ⟨a, its, as', rfl, hl, r3, _⟩ := readsW_list_inv r1
  exact ⟨a, its, rfl, hl, readsAll_ints r3⟩

theorem alive_all (P : Params) : ∀ p ∈ cF P, alive p.2 = some p.2 := by
  have h : (cF P).map (fun p => alive p.2) = (cF P).map (fun p => some p.2) := by kernel_rfl
  intro p hp
  have := List.map_inj_left.mp h p hp
  exact this
theorem keys_all (P : Params) : ∀ p ∈ cF P, p.1 < 183 := by
  have h : (cF P).all (fun p => Nat.blt p.1 183) = true := by kernel_rfl
  exact fun p hp => Nat.le_of_ble_eq_true (List.all_eq_true.mp h p hp)
theorem get_all {P : Params} {y z : Nat → Obj} {life : Life} (I : Inv (cF P) y z) : ∀ p ∈ cF P, (hp z 183 life).get? p.1 = some p.2 := by
  intro p hp
  rw [hp_get (keys_all P p hp) (by decide), I.k p hp]
  exact alive_all P p hp
theorem o153_eq (P : Params) : lkp (cF P) 153 = some (tabObj #[]) := by kernel_rfl
theorem o157_eq (P : Params) : lkp (cF P) 157 = some (o157 P) := by kernel_rfl

/-- the law's call, upon what the top has left and the script's list behind it -/
theorem law_good {w : World} {s s₂ : Shared} {cl : Str → Option Addr} {mean : ExcName → Option Value} {args : List WData} {vs : List Value} {as : List Addr} {y z : Nat → Obj} {life : Life} (I : Inv (cF w.params) y z) (ht : Tab92 pw w (hp z 183 life)) (hs : s.heap = hp z 183 life)
    (keeps : ∀ b o, s.heap.get? b = some o → s₂.heap.get? b = some o) (hg : s₂.gens = #[]) (hpre : clL.pre args = true) (hr : ReadsAllW [] cl s₂.heap vs args as) :
    codeAny (model pw w) callerA (.call (.ref 182) ⟨vs, []⟩) (GoodWG clL cl mean args s₂) s₂ := by
  obtain ⟨ns, rfl, hlen⟩ := args_of hpre
  obtain ⟨ls, its, rfl, hl, hi⟩ := vs_of hr
  rw [hs] at keeps
  have get : ∀ p ∈ cF w.params, s₂.heap.get? p.1 = some p.2 := fun p hp => keeps _ _ (get_all I p hp)
  have H : Has w.params (s₂.heap.hide 153) := ⟨fun p hp hn => by rw [Heap.hide_ne _ hn]; exact get p hp⟩
  have ht2 : Tab92 pw w (s₂.heap.hide 153) := by
    obtain ⟨kvs, hkv, o, es, ep, ho, r⟩ := ht.tab
    exact ⟨kvs, hkv, o, es, ep, by rw [Heap.hide_ne _ (by decide)]; exact keeps _ _ ho, r⟩
  have h153 : s₂.heap.get? 153 = some (tabObj #[]) := get _ (lkp_mem (o153_eq w.params))
  have h157 : s₂.heap.get? 157 = some (o157 w.params) := get _ (lkp_mem (o157_eq w.params))
  refine law_call (A := callerA) ⟨rfl, by decide, by decide⟩ rfl (good3_of H ht2) h153 hl hi hlen fun h' tk ps k1 k2 => ?_
  refine ⟨.inl ⟨.bool true, .bool true, [], rfl, fun _ => rfl, .bool true, ?_, fun _ => ⟨List.nodup_nil, fun _ h => nomatch h⟩⟩, ⟨fun b o e => ?_, fun b o e => ?_⟩, rfl, .of_eq hg⟩
  · show (WShape.has [] (.bool true) .bool && WTm.holds [] (.eq .res (.lit (.bool true))) _) = true
    simp [WShape.has, WShape.arms, WTm.holds, WTm.value, PySem.W.same]
  · by_cases hb : b = 153
    · subst hb
      rw [h153] at e
      cases e
      refine .inr (.inl ⟨⟨157, o157 w.params, fv (o157 w.params), h157, by kernel_rfl, by kernel_rfl, by kernel_rfl⟩, rfl, #[], ps, rfl, ?_⟩)
      rw [Array.empty_append]
      exact k2
    · exact .inl (k1 b o hb e)
  · by_cases hb : b = 153
    · subst hb
      exact ⟨_, k2⟩
    · exact ⟨o, k1 b o hb e⟩
end Mine.Ev
end E14_text
section E15_text
open PySem PySem.W PySem.Calls PyProof.Rows
set_option maxRecDepth 100000
namespace Mine.Ev
open Mine.Di

theorem seen_eq {w : World} {z : Nat → Obj} {life : Life} {drawn : Drawn} {os : OsState} (e : ov (cF w.params) z = z) : openSeen q0 loose0 (importedModules pw.main.body) (fun _ => true) true (sp z 183 life drawn 2488 os).abs = openGood q0 loose0 := by
  rw [PySem.W.Fast.te4187177175401517315]
  have h := seen_ok w z life drawn os
  rw [e] at h
  exact h

theorem top_ran {w : World} {s₀ : Shared} (S : Start w s₀) : ∃ s₁ z life, s₁ = (sp z 183 life s₀.drawn 2488 s₀.os).abs ∧ Inv (cF w.params) (objF s₀.heap) z ∧ Tab92 pw w (hp z 183 life) ∧ TopRan pw w s₀ s₁ ∧ s₁.asleep := by
  obtain ⟨I0, hy, hz, hg, ht⟩ := inv0 S.obs
  obtain ⟨s₁, hF, hl, hrun⟩ := run_top S
  obtain ⟨z, life, rfl, I, h92⟩ := hF.ex
  have ez : ov (cF w.params) z = z := ov_same I.k
  have e0 : ov (l0 w.params) (objF s₀.heap) = objF s₀.heap := ov_same I0.k
  have h0 : s₀.heap = hp (objF s₀.heap) 28 s₀.heap.life := (hp_of hz (by decide)).symm
  obtain ⟨G, g0, g1, g2, g3, g4, g5⟩ := ground_of_open (q := q0) (XP := fun _ _ => True) (w := w) (fun _ _ => trivial) chains_ok (seen_eq (life := life) (drawn := s₀.drawn) (os := s₀.os) ez)
  refine ⟨_, z, life, rfl, I, h92, ⟨hrun, hl, Shared.rest_eq rfl, fun b o hb hn => ?_, g2, ?_, g3, g4, g5, ?_, ?_, ?_⟩, Shared.asleep_of_life hl S.asleep⟩
  · have hlt : b < 28 := hz ▸ Heap.lt_size hb
    have h3 : b ≠ 3 := fun e => hn (.inl e)
    rw [h0, hp_get hlt (by decide)] at hb
    show (hp z 183 life).get? b = some o
    rw [hp_get (Nat.lt_trans hlt (by decide)) (by decide), I.old b hlt h3]
    exact hb
  · have h := statics_ok w (objF s₀.heap) z s₀.heap.life life
    rw [e0, ez, ← h0] at h
    exact statics_of_ok h
  · intro g hg
    exact absurd hg (by show ¬ g ∈ (#[] : Array GenState); simp)
  · have h := names_ok w z life
    rw [ez] at h
    exact names_of_bound h
  · have h := laid_ok w (objF s₀.heap) z s₀.heap.life life
    rw [e0, ez, ← h0] at h
    exact laid_of_kept h

theorem law_def : pw.theDef "law" = some (sParams (stm 23), sBody (stm 23), sScope (stm 23)) := by kernel_rfl
theorem law_glob (w : World) (z : Nat → Obj) (life : Life) : globalOf (hp (ov (cF w.params) z) 183 life) "law" = some (.ref 182) := by kernel_rfl
theorem law_lk (P : Params) : lkp (cF P) 182 = some (o182 P) := by kernel_rfl
theorem law_fd (P : Params) : (o182 P).data = .func (fnOf (sName (stm 23)) (sName (stm 23)) (sParams (stm 23)) (sBody (stm 23)) (sScope (stm 23)) .none .none .none (.str "law_us0011_01" 2419) none (.ref 181) .none) := by kernel_rfl
theorem law_name : sName (stm 23) = "law" := by kernel_rfl
theorem law_dfl : (sParams (stm 23)).defaults = [] := by kernel_rfl
theorem law_kw : kwWritten? (sParams (stm 23)).kwonlyargs (sParams (stm 23)).kw_defaults = some [] := by kernel_rfl
theorem law_pin {w : World} {y z : Nat → Obj} {life : Life} (I : Inv (cF w.params) y z) : isTheDefsW pw (hp z 183 life) "law" := by
  have ez : ov (cF w.params) z = z := ov_same I.k
  have hgl := law_glob w z life
  rw [ez] at hgl
  exact ⟨182, o182 w.params, _, _, _, _, hgl, get_all I _ (lkp_mem (law_lk w.params)), law_fd w.params, law_def, law_name, law_name, rfl, rfl, rfl, rfl, rfl, rfl, .inl ⟨law_dfl, rfl⟩, [], law_kw, .inl ⟨rfl, rfl⟩⟩
theorem main_ns {w : World} {y z : Nat → Obj} {life : Life} (I : Inv (cF w.params) y z) : (hp z 183 life).Ns mainGlobals (objMap (g3F w.params)) :=
  ns_of (get_all I (3, g3F w.params) (lkp_mem (by kernel_rfl))) (by kernel_rfl) (by kernel_rfl)
theorem main_law (P : Params) : objMap (g3F P) "law" = some (.ref 182) := by kernel_rfl
theorem main_is {w : World} {y z : Nat → Obj} {life : Life} (I : Inv (cF w.params) y z) : (hp z 183 life).isNs mainGlobals = true := by
  have ez : ov (cF w.params) z = z := ov_same I.k
  have h : (hp (ov (cF w.params) z) 183 life).isNs mainGlobals = true := by kernel_rfl
  rw [ez] at h
  exact h

theorem holds_row (said : rowL.wellSaid = true) (prom : rowL.toRowW.promised) (ok : opensWell pw = true) (bare : pw.bare) : rowL.Holds := by
  refine ⟨said, prom, ⟨bare, ok, rfl⟩, prom.witness, fun w => ?_⟩
  obtain ⟨s, s₀, h1, h2, h3⟩ := open_obs w
  have Ai := AfterImport.of_importEnds h1
  refine ⟨⟨s, Ai⟩, fun s' hs' => ?_⟩
  obtain rfl : s' = s := AfterImport.unique hs' Ai
  have S : Start w s₀ := ⟨h3, Shared.asleep_of_life (fence_lifeW h2) Ai.life⟩
  obtain ⟨I0, hy, hz, hg, ht⟩ := inv0 S.obs
  obtain ⟨s₁, z, life, rfl, I, h92, T, hz1⟩ := top_ran S
  have norec : ∀ x, ¬ x ∈ clL.records := fun x hx => by
    have hx : x ∈ ([] : WRecords) := hx
    cases hx
  refine ⟨s₀, h2, hg, _, T, fun n hn => ?_, fun x hx => absurd hx (norec x), fun x hx => absurd hx (norec x), ?_⟩
  · obtain rfl : n = "law" := by
      have : n ∈ [("law" : Str)] := hn
      simpa using this
    exact law_pin I
  · have hgens : (sp z 183 life s₀.drawn 2488 s₀.os).abs.gens = #[] := rfl
    refine ClaimW.callFrom_of_specG (c := clL) hz1 hgens fun args hpre hlay ord hord => ?_
    obtain ⟨⟨vs, s₂⟩, hlaid⟩ := Option.isSome_iff_exists.mp (layAllW_isSome (P := w.params) (ord := ord) (R := clL.records) (cl := classAt (sp z 183 life s₀.drawn 2488 s₀.os).abs.heap) (fun c hc => nomatch hc) args rowL.args _ (pre_splitW hpre).1)
    have keeps := layAllW_keeps _ _ _ hlaid
    have hal := layAllW_rest _ _ _ hlaid
    obtain ⟨as, hrd, hin, hold⟩ := reads_layAllW hord _ _ _ hlaid hlay s₂.heap (fun _ _ e => e)
    have Lw : Laid clL.records w (sp z 183 life s₀.drawn 2488 s₀.os).abs s₂ args vs as := ⟨⟨ord, hord, hlaid⟩, hrd, hin, hold, keeps, hal.1.trans hgens, hal.2.2.1⟩
    have hcall := law_good (s := (sp z 183 life s₀.drawn 2488 s₀.os).abs) (s₂ := s₂) (cl := classAt (sp z 183 life s₀.drawn 2488 s₀.os).abs.heap) (mean := ExcName.means (sp z 183 life s₀.drawn 2488 s₀.os).abs.heap) I h92 rfl keeps (hal.1.trans hgens) hpre hrd
    have hw := enter_call hcall
    have hns : s₂.heap.Ns mainGlobals (objMap (g3F w.params)) := (main_ns I).keeps keeps
    refine ⟨vs, s₂, hlaid, ?_⟩
    have fin : ∀ r s', GoodWG clL (classAt (sp z 183 life s₀.drawn 2488 s₀.os).abs.heap) (ExcName.means (sp z 183 life s₀.drawn 2488 s₀.os).abs.heap) args s₂ r s' → clL.Ends (sp z 183 life s₀.drawn 2488 s₀.os).abs args vs s₂ r s' ∧ s'.os = (sp z 183 life s₀.drawn 2488 s₀.os).abs.os ∧ AllBare s'.gens :=
      fun r s' g => g.laid (c := clL) rfl rfl (ident_freeW (r := rowL.toRowW) rfl rfl rfl) Lw
    refine wpAny_bind (wpAny_nsGet hns ?_)
    have em : objMap (g3F w.params) rowL.name = some (.ref 182) := main_law w.params
    rw [em]
    refine wpAny_bind (wpAny_mono hw (fun v s' g => wpAny_pure ?_) fun e s' g => ?_)
    · obtain ⟨a, b, c⟩ := fin _ _ g
      exact ⟨_, rfl, a, b, c, fun q => nomatch q⟩
    · obtain ⟨a, b, c⟩ := fin _ _ g
      exact ⟨a, b, c, fun q => nomatch q⟩
end Mine.Ev
end E15_text
section F1_text
open PySem PySem.W PyProof.Rows
theorem Mine.Ev.prom : Mine.Ev.rowL.toRowW.promised := ⟨[.list []], by decide +kernel, by decide +kernel⟩
theorem Mine.Ev.opens_ok : opensWell Mine.pw = true := by kernel_rfl
theorem Mine.Ev.bare_ok : Mine.pw.bare := ⟨rfl, rfl, rfl, rfl, rfl, by decide +kernel⟩
set_option maxRecDepth 100000
namespace Mine.Ev
noncomputable abbrev theRow : OpenRow := PySem.Challenge.rw_us0011_01.row
noncomputable abbrev theText : Program := theRow.toRowW.prog
theorem look1 : sreFenced theText.main = true := by kernel_rfl
theorem look2 : ((moduleNames theText.main.body).isEmpty || lookedIntoSs (moduleNames theText.main.body) theText.main.body) = true := by kernel_rfl
theorem look3 : namesResolve theText = true := by kernel_rfl
theorem look4 : theText.boundNames.all (fun n => !worldNames.contains n) = true := by kernel_rfl
theorem look5a : (importedModules theText.main.body).all cThrough.contains = true := by kernel_rfl
theorem look5b : (["vars", "dir", "locals"] : List Str).filter (readsOut theText theText.main.body) = [] := by kernel_rfl
theorem look5 : PySem.W.Fast.tw8326940854005059898 { strict := !true, foot := none, bare := [] } theText.main.body = true := by kernel_rfl
theorem look6 : namesMeet theText theText.main.body (fun _ n => attrL n) = true := by kernel_rfl
theorem looks_ok : looksOpen theText = true := by
  unfold looksOpen
  rw [look1, look2, look3, look4, look5a, look5b, PySem.W.Fast.te8326940854005059898, look5, look6]
  rfl
noncomputable abbrev theLaw : OpenLaw := PySem.Challenge.rw_us0011_01
theorem row_ok : theLaw.row.wellSaid = true := by
  unfold OpenRow.wellSaid OpenRow.partSaid
  rw [looks_ok]
  kernel_rfl
theorem foot1 : noClassBlock theLaw.prog theLaw.footing = true := by kernel_rfl
theorem foot2 : noRoadLSs { strict := true, foot := some theLaw.bound', writes := theLaw.writes, may := theLaw.may } theLaw.footing = true := by kernel_rfl
theorem foot3 : theLaw.bound'.all (fun n => !builtinNamed n || theLaw.about == [n] || !theLaw.reads n) = true := by kernel_rfl
theorem foot4 : namesMeet theLaw.prog theLaw.above (fun _ n => !theLaw.own.contains n) = true := by kernel_rfl
theorem foot5 : namesMeet theLaw.prog theLaw.footing (fun sc n => sc.kind == .module || sc.names.lookup n != some .globalExplicit) = true := by kernel_rfl
theorem said_ok : PySem.Challenge.rw_us0011_01.wellSaid = true := by
  unfold OpenLaw.wellSaid
  rw [row_ok, foot1, foot2, foot3, foot4, foot5]
  kernel_rfl
end Mine.Ev
end F1_text
open PySem PySem.W PyProof.Rows
set_option maxRecDepth 100000 in
set_option maxHeartbeats 8000000 in
theorem PySem.Challenge.cw_us0011_01_holds : PySem.Challenge.rw_us0011_01.Holds :=
  holds_law Mine.Ev.said_ok fun said => Mine.Ev.holds_row said Mine.Ev.prom Mine.Ev.opens_ok Mine.Ev.bare_ok
