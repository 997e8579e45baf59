import PyProof.Rows.All
import Wide.All
import OpenK.AllK
import Wide.FinOn
import PySem.Challenge.RW_gf0007_01
open PySem PySem.W PyProof.Rows PySem.Calls
set_option Elab.async false
set_option maxRecDepth 100000
set_option maxHeartbeats 8000000
namespace Gf7
open_top hd for PySem.Challenge.rw_gf0007_01
end Gf7
namespace Gf7
theorem fill_all (w : World) : PySem.Challenge.rw_gf0007_01 = PySem.Challenge.rw_gf0007_01 ∧ hd.heap_39 w.params = hd.heap_39 w.params := by k_fill; exact ⟨rfl, rfl⟩
-- part B1
section
-- needs:
abbrev prog : Program := PySem.Challenge.rw_gf0007_01.row.prog
abbrev Ad (d u : Nat) : Around := { depth := d, units := u }

def Box (P : Prop) : Prop := P
/-- where the walk is to stand still -/
def Stop (P : Prop) : Prop := P
theorem StopP.mk {P : Prop} (h : Stop P) : P := h
theorem Stop.mk {α : Type} {M : Model} {A : Around} {t : Sem α} {Q : α → Shared → Prop} {E : Value → Shared → Prop} {s : Shared} (h : Stop (wpAny M A t Q E s)) : wpAny M A t Q E s := h

/-- what the module's top holds, told of one heap -/
structure Gd (w : World) (p : Program) (loose : List Str) (mean : ExcName → Option Value) (mg mb : Str → Option Value) (h : Heap) : Prop where
  X : (hd.heap_39 w.params).In h
  T : Top p loose mean mg mb h
  C1 : CodeHd h 61 57
  C2 : CodeHd h 68 64

theorem Gd.keeps {w p loose mean mg mb} {h h' : Heap} (G : Gd w p loose mean mg mb h) (k : ∀ b o, h.get? b = some o → h'.get? b = some o) : Gd w p loose mean mg mb h' :=
  ⟨G.X.keeps k, G.T.keeps k, G.C1.keeps k, G.C2.keeps k⟩

theorem weaken {α : Type} {M : Model} {A : Around} {t : Sem α} {Q : α → Shared → Prop} {E : Value → Shared → Prop} {s : Shared} (d u : Nat) (h : wpAny M (Ad d u) t Q E s)
    (hh : A.handled = none) (hd : A.depth ≤ d) (hu : A.units ≤ u) : wpAny M A t Q E s := fun Γ p hΓ =>
  h Γ p ⟨hΓ.1.trans hh, Nat.le_trans hΓ.2.1 hd, (fun l hl => by cases hl), (fun g hg => by cases hg), Nat.le_trans hΓ.2.2.2.2 hu⟩

/-- enter a def whose frame has no cells, some objects laid aside to be changed; nothing is raised -/
theorem enter {w : World} {A : Around} {p loose mean mg mb} {E Q : Value → Shared → Prop} {s : Shared} {name qual : Str} {params : Arguments} {body : List Stmt} {scope : Scope} {cl : List (Str × Addr)}
    {dV kV doc pm cdv ct oc : Value} {an od : Option Addr} {osl : Array (Option Value)} {f : Addr} {args : List Value} {kw : List (Str × Value)} {g : Heap} (hid : List (Addr × Obj)) (binds : List (Str × Value))
    (G : Gd w p loose mean mg mb g) (k : ∀ b o, g.get? b = some o → s.heap.get? b = some o) (hhid : ∀ q ∈ hid, s.heap.get? q.1 = some q.2 ∧ g.get? q.1 = none)
    (ho : s.heap.get? f = some ⟨oc, od, .func (fnX name qual params body scope cl dV kV doc pm an cdv ct), osl⟩) (hcd : s.heap.CodeRec cdv qual) (hroom : A.depth < recursionLimit)
    (hbind : BindsTo s (fnX name qual params body scope cl dV kV doc pm an cdv ct) ⟨args, kw⟩ binds) (hloc : ∀ y ∈ binds, scope.names.lookup y.1 = some .local)
    (hcell : ∀ x ∈ scope.names, x.2 ≠ .cell) (hco : scope.isCoroutine = false) (hgen : scope.isGenerator = false) (hk : scope.kind = .function)
    (h : ∀ b L h₁, b = hideAll s.heap (hid.map (·.1)) → Fr b L h₁ (fun y => binds.reverse.lookup y) → News b L h₁ hid → Gd w p loose mean mg mb b → (∀ q ∈ hid, q.1 < L) →
      wpAny (model prog w) (A.deeper (envX qual scope L f cdv cl)) (execs body (envX qual scope L f cdv cl))
        (fun fl s' => Q (match fl with | .ret v => v | _ => .none) s') (fun _ _ => False)
        { s with heap := h₁, toks := s.toks + binds.length }) :
    wpAny (model prog w) A (call (.ref f) args kw) Q E s := by
  refine wpAny_call ?_
  refine codeAny_call_def (fd := fnX name qual params body scope cl dV kV doc pm an cdv ct) (body := body) (binds := binds) hroom ho rfl (G.T.nolimit.keeps k) hcd rfl hbind hcell hloc (fun h₁ hns hk₁ => ?_) hco hgen hk
  have kb : ∀ b o, g.get? b = some o → (hideAll s.heap (hid.map (·.1))).get? b = some o := fun b o e => hideAll_get _ (k b o e) fun hm => by
    obtain ⟨q, hq, rfl⟩ := List.mem_map.mp hm
    rw [(hhid q hq).2] at e; cases e
  exact wpAny_mono (h _ s.heap.objs.size h₁ rfl ⟨hns, fun b o e => hk₁ b o (of_hideAll _ e), Nat.le_of_eq (hideAll_size _ _)⟩
    (fun q hq => ⟨hk₁ _ _ (hhid q hq).1, Nat.ne_of_lt (Heap.lt_size (hhid q hq).1), hideAll_none _ (List.mem_map_of_mem hq)⟩) (G.keeps kb) fun q hq => Heap.lt_size (hhid q hq).1)
    (fun fl s' x => x) fun _ _ x => x.elim

/-- what a call leaves behind it: all that stood but what was laid aside -/
theorem kept {s : Shared} {b : Heap} {L : Addr} {h' : Heap} {m : Str → Option Value} {hid : List Addr} (e : b = hideAll s.heap hid) (F : Fr b L h' m) : ∀ a o, a ∉ hid → s.heap.get? a = some o → h'.get? a = some o :=
  fun a o hn ho => F.keep a o (e ▸ hideAll_get _ ho hn)
theorem kept0 {s : Shared} {b : Heap} {L : Addr} {h' : Heap} {m : Str → Option Value} {tk : Tok} (e : b = hideAll s.heap []) (F : Fr b L h' m) : Keeps s { s with heap := h', toks := tk } :=
  ⟨h', tk, rfl, fun a o ho => F.keep a o (e ▸ ho)⟩

theorem intBits_lt {a : Int} {k : Nat} (h : a.natAbs < 2 ^ k) : Builtin.Int.intBits a ≤ k := PySem.intBits_le_iff.mpr h
theorem nil_eq {s : Shared} {b : Heap} (e : b = hideAll s.heap (([] : List (Addr × Obj)).map (·.1))) : b = s.heap := e
theorem frB {b h : Heap} {L : Addr} {m : Str → Option Value} (ps : List (Str × Value)) (F : Fr b L h m) (h1 : ∀ q ∈ ps, m q.1 = some q.2) : Fr b L h (kstB m ps) := by
  have e : kstB m ps = m := by funext y; exact kstB_eq h1 fun _ => rfl
  rw [e]; exact F

/-- what a call that changes nothing leaves: a value told, all that stood stands -/
def Ret (s : Shared) (P : Value → Heap → Prop) (r : Value) (s' : Shared) : Prop := P r s'.heap ∧ Keeps s s'
theorem use {w : World} {A : Around} {b : Heap} {L : Addr} {m : Str → Option Value} {nx : List (Addr × Obj)} {s : Shared} {t : Sem Value} {P : Value → Heap → Prop} {Q E : Value → Shared → Prop} (d u : Nat)
    (F : Fr b L s.heap m) (N : News b L s.heap nx) (h : wpAny (model prog w) (Ad d u) t (Ret s P) E s) (hh : A.handled = none) (hd : A.depth ≤ d) (hu : A.units ≤ u)
    (cont : ∀ r h' tk, P r h' → Fr b L h' m → News b L h' nx → (∀ a o, s.heap.get? a = some o → h'.get? a = some o) → Q r { s with heap := h', toks := tk }) : wpAny (model prog w) A t Q E s := by
  refine wpAny_mono (weaken d u h hh hd hu) (fun r s' hr => ?_) fun _ _ e => e
  obtain ⟨hp, h', tk, rfl, hk⟩ := hr
  exact cont r h' tk hp (F.keeps hk) (N.grown hk) hk
theorem isList_of {b h : Heap} {L l : Addr} {nx : List (Addr × Obj)} {vs : List Value} {c : Nat} (N : News b L h nx) (hm : (l, ({ cls := .type "list", data := .seq vs.toArray c } : Obj)) ∈ nx) : h.IsList l vs.toArray := ⟨_, (N _ hm).1, rfl, _, rfl⟩

section
variable {prog : Program} {w : World} {A : Around} {E : Value → Shared → Prop} {s : Shared} {env : Env} {h₀ : Heap} {x : Str} {body : List Stmt} {Q : Flow → Shared → Prop}
theorem for_range {r : Addr} {a₀ b₀ : Int} {t₀ u₀ v₀ : Tok} {n : Nat} {m₀ : Str → Option Value} {news : List (Addr × Obj)} (J : Nat → (Str → Option Value) → List (Addr × Obj) → Prop)
    {L : Addr} (hL : env.locals = L) (hh : A.handled = none) (hr : IsRange s.heap r a₀ b₀ 1 t₀ u₀ v₀) (hsmall : Builtin.Range.small a₀ b₀ 1 = true) (hn : Builtin.Range.rangeSize a₀ b₀ 1 = (n : Int)) (F : Fr h₀ L s.heap m₀) (N : News h₀ L s.heap news) (hj : J 0 m₀ news)
    (turn : ∀ i t m₁ news₁ h tk own, i < n → news₁.map (·.1) = news.map (·.1) → OwnOff own (news.map (·.1)) → J i m₁ news₁ →
      Fr h₀ L h (fun y => if y = x then some (.int (a₀ + (i : Int)) t) else m₁ y) → News h₀ L h (news₁ ++ own) →
      wpAny (model prog w) A (execs body env) (InvPostN h₀ L (J (i + 1)) own (news.map (·.1)) { s with heap := h, toks := tk } Q) E { s with heap := h, toks := tk })
    (done : ∀ m₁ news₁ h tk, J n m₁ news₁ → Fr h₀ L h m₁ → News h₀ L h news₁ → Q .next { s with heap := h, toks := tk }) :
    wpAny (model prog w) A (pyIter (.ref r)) (fun it s₂ => LoopAtV prog w A h₀ env x body Q E it s₂) E s := by
  subst hL
  refine wpAny_pyIter_range hr hsmall ?_
  have W : Walks prog w A s.heap.objs.size [s.heap.objs.size] [s.heap.objs.size] n (fun i v => i < n ∧ ∃ t, v = .int (a₀ + i * 1) t)
      (fun i h => IsRangeIter h s.heap.objs.size (a₀ + (i : Nat) * 1) ((n : Int) - (i : Nat)) 1) := (Walks.range hh _ a₀ 1 n).bound
  refine loop_invN J W ?_ ?_ ?_ ?_ (by show IsRangeIter _ _ _ _ _; rw [hn]; simpa using Heap.get?_push_size _ rfl) (F.push _) (fun p hp => ⟨Heap.get?_push_of_some _ (N p hp).1, (N p hp).2⟩) hj ?_ ?_
  · intro hm
    exact absurd F.ns.lt ((List.mem_singleton.mp hm) ▸ Nat.lt_irrefl _)
  · intro b hb
    rw [List.mem_singleton.mp hb]
    exact next_is_new F
  · intro p hp hI
    exact absurd (Heap.lt_size (N p hp).1) ((List.mem_singleton.mp hI) ▸ Nat.lt_irrefl _)
  · intro p hp hI
    exact absurd (Heap.lt_size (N p hp).1) ((List.mem_singleton.mp hI) ▸ Nat.lt_irrefl _)
  · rintro i v m₁ nx h tk own hi ⟨_, t, rfl⟩ ha hoff hJ F₁ N₁
    have e1 : a₀ + (i : Int) * 1 = a₀ + (i : Int) := by omega
    rw [e1] at F₁
    exact turn i t m₁ nx h tk own hi ha hoff hJ F₁ N₁
  · exact fun m₁ nx h tk hJ F₁ N₁ => done m₁ nx h tk hJ F₁ N₁
end
theorem newsSub {b h : Heap} {L : Addr} {nx nx' : List (Addr × Obj)} (N : News b L h nx) (hs : ∀ q ∈ nx', q ∈ nx) : News b L h nx' := fun q hq => N q (hs q hq)
theorem rangeSize_up {n : Nat} : Builtin.Range.rangeSize 0 (n : Int) 1 = (n : Int) := by
  unfold Builtin.Range.rangeSize; simp; omega
theorem range_small {a b : Int} (ha : 0 ≤ a ∧ a < 100000000) (hb : 0 ≤ b ∧ b < 100000000) : Builtin.Range.small a b 1 = true := by
  exact small_one (by omega) (by omega) (by omega) (by omega)
/-- a call that changes one object of the ledger alone -/
def Chg (D : Addr) (s : Shared) (P : Value → Heap → Prop) (r : Value) (s' : Shared) : Prop :=
  ∃ (h' : Heap) (tk : Tok), s' = { s with heap := h', toks := tk } ∧ (∀ a o, a ≠ D → s.heap.get? a = some o → h'.get? a = some o) ∧ P r h'
theorem useChg {w : World} {A : Around} {b : Heap} {L D : Addr} {o : Obj} {m : Str → Option Value} {nx : List (Addr × Obj)} {s : Shared} {t : Sem Value} {P : Value → Heap → Prop} {Q E : Value → Shared → Prop} (d u : Nat)
    (F : Fr b L s.heap m) (N : News b L s.heap ((D, o) :: nx)) (off : ∀ q ∈ nx, q.1 ≠ D) (h : wpAny (model prog w) (Ad d u) t (Chg D s P) E s) (hh : A.handled = none) (hd : A.depth ≤ d) (hu : A.units ≤ u)
    (cont : ∀ r h' tk, P r h' → Fr b L h' m → News b L h' nx → (∀ a o, a ≠ D → s.heap.get? a = some o → h'.get? a = some o) → Q r { s with heap := h', toks := tk }) : wpAny (model prog w) A t Q E s := by
  refine wpAny_mono (weaken d u h hh hd hu) (fun r s' hr => ?_) fun _ _ e => e
  obtain ⟨h', tk, rfl, hk, hp⟩ := hr
  have hD := N _ (.head _)
  refine cont r h' tk hp ⟨?_, fun a o' e => hk a o' (fun q => ?_) (F.keep a o' e), F.above⟩ (fun q hq => ?_) hk
  · obtain ⟨oL, es, ep, e, r⟩ := F.ns
    exact ⟨oL, es, ep, hk _ _ (Ne.symm hD.2.1) e, r⟩
  · rw [q, hD.2.2] at e; cases e
  · have z := N q (.tail _ hq)
    exact ⟨hk _ _ (off q hq) z.1, z.2⟩
theorem newsCons {b h : Heap} {L D : Addr} {o o₀ : Obj} {h₀ : Heap} {nx : List (Addr × Obj)} {nx₀ : List (Addr × Obj)} (N₀ : News b L h₀ ((D, o₀) :: nx₀)) (e : h.get? D = some o) (N : News b L h nx) : News b L h ((D, o) :: nx) := fun q hq => by
  rcases List.mem_cons.mp hq with rfl | hq
  · exact ⟨e, (N₀ _ (.head _)).2⟩
  · exact N q hq
theorem neOf {h : Heap} {a b : Addr} {o o' : Obj} (e : h.get? a = some o) (e' : h.get? b = some o') (ne : o.data ≠ o'.data) : @Ne Nat a b := fun q => by
  subst q; rw [e] at e'; cases e'; exact ne rfl
theorem keptBut {s : Shared} {b h' : Heap} {L D : Addr} {m : Str → Option Value} {o₀ : Obj} {rest : List (Addr × Obj)} (eb : b = hideAll s.heap (((D, o₀) :: rest).map (·.1))) (F : Fr b L h' m)
    (hh : ∀ q ∈ rest, s.heap.get? q.1 = some q.2) (N : ∀ q ∈ rest, h'.get? q.1 = some q.2) : ∀ a o, a ≠ D → s.heap.get? a = some o → h'.get? a = some o := fun a o ha ho => by
  by_cases hm : a ∈ rest.map (·.1)
  · obtain ⟨q, hq, rfl⟩ := List.mem_map.mp hm
    rw [hh q hq] at ho
    cases ho
    exact N q hq
  · refine kept eb F a o (fun h => ?_) ho
    rw [List.map_cons] at h
    rcases List.mem_cons.mp h with h | h
    · exact ha h
    · exact hm h
/-- enter a def whose frame has cells -/
theorem enterC {w : World} {A : Around} {p loose mean mg mb} {E Q : Value → Shared → Prop} {s : Shared} {name qual : Str} {params : Arguments} {body : List Stmt} {scope : Scope}
    {dV kV doc pm cdv ct oc : Value} {an od : Option Addr} {osl : Array (Option Value)} {f : Addr} {args : List Value} {kw : List (Str × Value)} {g : Heap} (hid : List (Addr × Obj)) (binds : List (Str × Value))
    (G : Gd w p loose mean mg mb g) (k : ∀ b o, g.get? b = some o → s.heap.get? b = some o) (hhid : ∀ q ∈ hid, s.heap.get? q.1 = some q.2 ∧ g.get? q.1 = none)
    (ho : s.heap.get? f = some ⟨oc, od, .func (fnX name qual params body scope [] dV kV doc pm an cdv ct), osl⟩) (hcd : s.heap.CodeRec cdv qual) (hroom : A.depth < recursionLimit)
    (hbind : BindsTo s (fnX name qual params body scope [] dV kV doc pm an cdv ct) ⟨args, kw⟩ binds) (hkind : (binds.all fun y => scope.names.lookup y.1 == some .local || scope.names.lookup y.1 == some .cell) = true)
    (hnd : ((cellsFrom 0 scope.names []).map (·.1)).Nodup) (hco : scope.isCoroutine = false) (hgen : scope.isGenerator = false) (hk : scope.kind = .function)
    (h : ∀ b L h₁ tk cells, b = hideAll s.heap (hid.map (·.1)) → Fr b L h₁ (bindL (envOfC qual scope L f cdv).kindOf binds fun _ => none) → News b L h₁ (cells ++ hid) →
      CellsAre (bindC (envOfC qual scope L f cdv).kindOf binds fun _ => none) (cellsFrom (L + 1) scope.names []) cells → Gd w p loose mean mg mb b → (∀ q ∈ hid, q.1 < L) →
      wpAny (model prog w) (A.deeper (envOfC qual scope L f cdv)) (execs body (envOfC qual scope L f cdv))
        (fun fl s' => Q (match fl with | .ret v => v | _ => .none) s') (fun _ _ => False)
        { s with heap := h₁, toks := tk }) :
    wpAny (model prog w) A (call (.ref f) args kw) Q E s := by
  refine wpAny_call ?_
  have kb : ∀ b o, g.get? b = some o → (hideAll s.heap (hid.map (·.1))).get? b = some o := fun b o e => hideAll_get _ (k b o e) fun hm => by
    obtain ⟨q, hq, rfl⟩ := List.mem_map.mp hm
    rw [(hhid q hq).2] at e; cases e
  refine codeAny_call_function hroom ho rfl hco hgen rfl hcd (hbind _ _ _ _ ?_)
  refine wpAny_newFunctionEnv_cells hk (kindsX hkind _) fun env' he s' x => ?_
  subst he
  refine ⟨(G.T.nolimit.keeps k).keeps x.toInCall.keep, codeAny_func ?_⟩
  obtain ⟨h₁, tk, rfl, _⟩ := x.done
  have hk₁ := x.toInCall.keep
  obtain ⟨cells, NC, Y⟩ := Cl.news (h₀ := s.heap) (Nat.le_refl _) fun n c hm => ⟨x.cell n c (lookup_of_mem_nodup (cellsFrom_names scope.names 0 (s.heap.objs.size + 1) [] [] rfl ▸ hnd) hm), x.above n c hm⟩
  refine wpAny_mono (h _ s.heap.objs.size h₁ tk cells rfl ⟨x.toInCall.ns, fun b o e => hk₁ b o (of_hideAll _ e), Nat.le_of_eq (hideAll_size _ _)⟩ (fun p hp => ?_) Y (G.keeps kb) (fun q hq => Heap.lt_size (hhid q hq).1)) (fun fl s' x => x) fun _ _ x => x.elim
  rcases List.mem_append.mp hp with hp | hp
  · refine ⟨(NC p hp).1, (NC p hp).2.1, ?_⟩
    cases q : (hideAll s.heap (hid.map (·.1))).get? p.1 with
    | none => rfl
    | some o => have := of_hideAll _ q; rw [(NC p hp).2.2] at this; cases this
  · exact ⟨hk₁ _ _ (hhid p hp).1, Nat.ne_of_lt (Heap.lt_size (hhid p hp).1), hideAll_none _ (List.mem_map_of_mem hp)⟩
theorem flat_rep {α : Type} (n : Nat) (a : α) : (List.replicate n [a]).flatten = List.replicate n a := by
  induction n with
  | zero => rfl
  | succ n ih => rw [List.replicate_succ, List.flatten_cons, ih]; rfl
theorem keptHid {s : Shared} {b h' : Heap} {L : Addr} {m : Str → Option Value} {hid : List (Addr × Obj)} (eb : b = hideAll s.heap (hid.map (·.1))) (F : Fr b L h' m)
    (hh : ∀ q ∈ hid, s.heap.get? q.1 = some q.2) (N : ∀ q ∈ hid, h'.get? q.1 = some q.2) : ∀ a o, s.heap.get? a = some o → h'.get? a = some o := fun a o ho => by
  by_cases hm : a ∈ hid.map (·.1)
  · obtain ⟨q, hq, rfl⟩ := List.mem_map.mp hm
    rw [hh q hq] at ho
    cases ho
    exact N q hq
  · exact kept eb F a o hm ho
theorem freshOf {s : Shared} {b h' : Heap} {L D : Addr} {m : Str → Option Value} {hid : List Addr} (eb : b = hideAll s.heap hid) (F : Fr b L h' m) (h : @LE.le Nat _ L D) : s.heap.get? D = none :=
  Heap.get?_none_of_le (by have := F.above; rw [eb, hideAll_size] at this; exact Nat.le_trans this h)
theorem newsAdd {b h h' : Heap} {L D : Addr} {m : Str → Option Value} {o : Obj} {nx : List (Addr × Obj)} (F : Fr b L h m) (_k : ∀ a o, h.get? a = some o → h'.get? a = some o) (e : h.get? D = none) (g : h'.get? D = some o) (N : News b L h' nx) :
    News b L h' ((D, o) :: nx) := fun q hq => by
  rcases List.mem_cons.mp hq with rfl | hq
  · refine ⟨g, fun q => ?_, ?_⟩
    · obtain ⟨oL, _, _, e', _⟩ := F.ns
      have q' : D = L := q
      rw [q', e'] at e; cases e
    · cases e' : b.get? D with
      | none => rfl
      | some o' => have := F.keep _ _ e'; rw [e] at this; cases this
  · exact N q hq

section
variable {prog : Program} {w : World} {A : Around} {E : Value → Shared → Prop} {s : Shared} {env : Env} {h₀ : Heap} {x : Str} {body : List Stmt} {Q : Flow → Shared → Prop}
theorem for_rev {l I : Addr} {vs : List Value} {ns : List Int} {m₀ : Str → Option Value} {news : List (Addr × Obj)} (J : Nat → (Str → Option Value) → List (Addr × Obj) → Prop)
    {L : Addr} (hL : env.locals = L) (hh : A.handled = none) (hit : s.heap.get? I = some (revObj l ((vs.length : Int) - 1))) (hl : s.heap.IsList l vs.toArray) (hlI : @Ne Nat l I) (hLI : @Ne Nat L I) (hLl : @Ne Nat L l) (hI : h₀.get? I = none)
    (hoff : ∀ q ∈ news, (@Ne Nat q.1 I) ∧ (@Ne Nat q.1 l)) (hi : IntsAre vs ns) (F : Fr h₀ L s.heap m₀) (N : News h₀ L s.heap news) (hj : J 0 m₀ news)
    (turn : ∀ i t m₁ news₁ h tk own, i < ns.length → news₁.map (·.1) = news.map (·.1) → OwnOff own (news.map (·.1)) → J i m₁ news₁ →
      Fr h₀ L h (fun y => if y = x then some (.int (ns.reverse.getD i 0) t) else m₁ y) → News h₀ L h (news₁ ++ own) →
      wpAny (model prog w) A (execs body env) (InvPostN h₀ L (J (i + 1)) own (news.map (·.1)) { s with heap := h, toks := tk } Q) E { s with heap := h, toks := tk })
    (done : ∀ m₁ news₁ h tk, J ns.length m₁ news₁ → Fr h₀ L h m₁ → News h₀ L h news₁ → Q .next { s with heap := h, toks := tk }) :
    wpAny (model prog w) A (pyIter (.ref I)) (fun it s₂ => LoopAtV prog w A h₀ env x body Q E it s₂) E s := by
  subst hL
  have hit' : s.heap.IsRevIter I l ((vs.length : Int) - 1) := ⟨_, hit, rfl, rfl⟩
  refine wpAny_pyIter_revIter hit' ?_
  have W := Walks.listRev (prog := prog) (w := w) hh I l hlI vs.toArray
  have hlen : vs.toArray.size = ns.length := by simp [hi.length]
  rw [hlen] at W
  refine loop_invN J W ?_ ?_ ?_ ?_ ⟨Nat.zero_le _, ?_, hl⟩ F N hj ?_ ?_
  · intro hm
    rcases List.mem_cons.mp hm with e | hm
    · exact hLI e
    · exact hLl (List.mem_singleton.mp hm)
  · intro b hb
    rw [List.mem_singleton.mp hb]; exact hI
  · intro q hq hm
    exact (hoff q hq).1 (List.mem_singleton.mp hm)
  · intro q hq hm
    rcases List.mem_cons.mp hm with e | hm
    · exact (hoff q hq).1 e
    · exact (hoff q hq).2 (List.mem_singleton.mp hm)
  · have e : (ns.length : Int) - 1 - ((0 : Nat) : Int) = (vs.length : Int) - 1 := by rw [hi.length]; omega
    rw [e]; exact hit'
  · rintro i v m₁ nx h tk own hin hP ha hof hJ F₁ N₁
    have hlt : i < ns.reverse.length := by rw [List.length_reverse]; exact hin
    obtain ⟨t, hx⟩ := hi.get (ns.length - 1 - i) (ns.reverse[i]) (by rw [List.getElem_reverse]; exact List.getElem?_eq_getElem _)
    have hv : v = .int (ns.reverse[i]) t := by
      have hP' : vs[ns.length - 1 - i]? = some v := by simpa using hP
      rw [hx] at hP'; exact (Option.some.inj hP').symm
    subst hv
    have e : ns.reverse.getD i 0 = ns.reverse[i] := by rw [List.getD_eq_getElem?_getD, List.getElem?_eq_getElem hlt]; rfl
    rw [← e] at F₁
    exact turn i t m₁ nx h tk own hin ha hof hJ F₁ N₁
  · exact fun m₁ nx h tk hJ F₁ N₁ => done m₁ nx h tk hJ F₁ N₁
end

/-- a turn's end where the ledger may grow -/
def GEnd (h₀ : Heap) (L I : Addr) (oI : Obj) (J : (Str → Option Value) → List (Addr × Obj) → Prop) (s₁ s₂ : Shared) : Prop :=
  ∃ (h' : Heap) (tk : Tok) (m' : Str → Option Value) (nx : List (Addr × Obj)), s₂ = { s₁ with heap := h', toks := tk } ∧ Fr h₀ L h' m' ∧ News h₀ L h' ((I, oI) :: nx) ∧ (∀ q ∈ nx, @Ne Nat q.1 I) ∧ J m' nx
def GPost (h₀ : Heap) (L I : Addr) (oI : Obj) (J : (Str → Option Value) → List (Addr × Obj) → Prop) (s₁ : Shared) (Q : Flow → Shared → Prop) (f : Flow) (s₂ : Shared) : Prop :=
  match f with
  | .ret v => Q (.ret v) s₂
  | .brk => Q .next s₂
  | _ => GEnd h₀ L I oI J s₁ s₂
section
variable {prog : Program} {w : World} {A : Around} {E : Value → Shared → Prop} {s : Shared} {env : Env} {h₀ : Heap} {x : Str} {body : List Stmt} {Q : Flow → Shared → Prop}
theorem for_rangeG {r : Addr} {a₀ b₀ : Int} {t₀ u₀ v₀ : Tok} {n : Nat} {m₀ : Str → Option Value} {news : List (Addr × Obj)} (J : Nat → (Str → Option Value) → List (Addr × Obj) → Prop)
    {L : Addr} (hL : env.locals = L) (hh : A.handled = none) (hr : IsRange s.heap r a₀ b₀ 1 t₀ u₀ v₀) (hsmall : Builtin.Range.small a₀ b₀ 1 = true) (hn : Builtin.Range.rangeSize a₀ b₀ 1 = (n : Int)) (F : Fr h₀ L s.heap m₀) (N : News h₀ L s.heap news) (hj : J 0 m₀ news)
    (turn : ∀ i t m₁ news₁ h tk I oI, i < n → J i m₁ news₁ → (∀ q ∈ news₁, @Ne Nat q.1 I) → (∀ q ∈ news, @LT.lt Nat _ q.1 I) →
      Fr h₀ L h (fun y => if y = x then some (.int (a₀ + (i : Int)) t) else m₁ y) → News h₀ L h ((I, oI) :: news₁) →
      wpAny (model prog w) A (execs body env) (GPost h₀ L I oI (J (i + 1)) { s with heap := h, toks := tk } Q) E { s with heap := h, toks := tk })
    (done : ∀ m₁ news₁ h tk, J n m₁ news₁ → Fr h₀ L h m₁ → News h₀ L h news₁ → Q .next { s with heap := h, toks := tk }) :
    wpAny (model prog w) A (pyIter (.ref r)) (fun it s₂ => LoopAtV prog w A h₀ env x body Q E it s₂) E s := by
  subst hL
  refine wpAny_pyIter_range hr hsmall ?_
  have W : Walks prog w A s.heap.objs.size [s.heap.objs.size] [s.heap.objs.size] n (fun i v => i < n ∧ ∃ t, v = .int (a₀ + i * 1) t)
      (fun i h => IsRangeIter h s.heap.objs.size (a₀ + (i : Nat) * 1) ((n : Int) - (i : Nat)) 1) := (Walks.range hh _ a₀ 1 n).bound
  refine ⟨_, _, _, n, _, _, m₀, news, J, rfl, W, ?_, ?_, ?_, (by show IsRangeIter _ _ _ _ _; rw [hn]; simpa using Heap.get?_push_size _ rfl), F.push _, (fun p hp => ⟨Heap.get?_push_of_some _ (N p hp).1, (N p hp).2⟩), hj, ?_, ?_⟩
  · intro hm
    exact absurd F.ns.lt ((List.mem_singleton.mp hm) ▸ Nat.lt_irrefl _)
  · intro b hb
    rw [List.mem_singleton.mp hb]
    exact next_is_new F
  · intro p hp hI
    exact absurd (Heap.lt_size (N p hp).1) ((List.mem_singleton.mp hI) ▸ Nat.lt_irrefl _)
  · rintro i v m₁ nx s₁ own ⟨hh', tk', rfl⟩ hin ⟨_, t, rfl⟩ hJ hoff hown hget hall hst F₁ N₁
    have e1 : a₀ + (i : Int) * 1 = a₀ + (i : Int) := by omega
    rw [e1] at F₁
    obtain ⟨oI, hst'⟩ : ∃ o, hh'.get? s.heap.objs.size = some o := ⟨_, hst⟩
    have hmI := hall s.heap.objs.size (List.mem_singleton.mpr rfl) (next_is_new F) _ hst'
    have hoff' : ∀ q ∈ nx, @Ne Nat q.1 s.heap.objs.size := fun q hq e => hoff q hq (List.mem_singleton.mpr e)
    have N₂ : News h₀ env.locals hh' ((s.heap.objs.size, oI) :: nx) := fun p hp => by
      rcases List.mem_cons.mp hp with rfl | hp
      · exact N₁ _ (List.mem_append_left _ hmI)
      · exact N₁ _ (List.mem_append_right _ hp)
    refine wpAny_mono (turn i t m₁ nx hh' tk' s.heap.objs.size oI hin hJ hoff' (fun q hq => Heap.lt_size (N q hq).1) F₁ N₂) (fun f s₂ p => ?_) fun _ _ e => e
    have fin : GEnd h₀ env.locals s.heap.objs.size oI (J (i + 1)) { s with heap := hh', toks := tk' } s₂ → LoopStepU h₀ env.locals [s.heap.objs.size] own (J (i + 1)) { s with heap := hh', toks := tk' } .next s₂ := by
      rintro ⟨h', tk, m', nx', e, F', N', ho, hm⟩
      refine ⟨rfl, h', tk, m', nx', e, F', fun p hp => ?_, fun p hp hq => ho p hp (List.mem_singleton.mp hq), hm⟩
      rcases List.mem_append.mp hp with hp | hp
      · have h2 : hh'.get? p.1 = some p.2 := hget p hp
        have h1 : p.1 = s.heap.objs.size := List.mem_singleton.mp (hown p hp)
        have h3 : p = (s.heap.objs.size, oI) := by
          rw [h1, hst'] at h2
          exact Prod.ext h1 (Option.some.inj h2).symm
        rw [h3]; exact N' _ (List.mem_cons_self ..)
      · exact N' _ (List.mem_cons_of_mem _ hp)
    cases f with
    | ret v => exact .ret p
    | brk => exact .brk p
    | next => exact .next (fin p)
    | cont => exact .cont (fin p)
  · rintro h' tk m' news' F' N' _ hJ
    exact done m' news' h' tk hJ F' N'
end

end
set_option Elab.async false
set_option maxRecDepth 100000
set_option maxHeartbeats 8000000
-- ends of mine that the walk leaves alone
local macro_rules | `(tactic| walk_at "Box") => `(tactic| fail "a box")
local macro_rules | `(tactic| walk_at "InvPostN") => `(tactic| refine StopP.mk ?_)
local macro_rules | `(tactic| walk_at "GPost") => `(tactic| refine StopP.mk ?_)
local macro_rules | `(tactic| walk_at "WhileStep2") => `(tactic| refine StopP.mk ?_)
local macro_rules | `(tactic| k_room) => `(tactic| ((try simp only [depth_under_make, depth_under_kw, depth_in1, depth_deeper, depth_caller, recursionLimit] at *); omega))
local macro_rules | `(tactic| k_units) => `(tactic| ((try simp only [units_in1, units_deeper, Around.mark_units, units_caller, cLine] at *); omega))
-- two addresses are two: by a fact at hand, before arithmetic is asked (smaller proofs)
local macro_rules | `(tactic| walk_at "gf and") => `(tactic| (apply And.left; (iterate 15 (try (first | assumption | apply And.right))); done))
local macro_rules | `(tactic| walk_at "gf lt") => `(tactic| ((repeat (first | assumption | exact Nat.lt_succ_self _ | refine Nat.lt_succ_of_lt ?_ | exact Nat.lt_of_le_of_lt (m := 64) (by decide) (by assumption) | walk_at "gf and" | refine Nat.lt_trans ?_ (by assumption))); done))
local macro_rules | `(tactic| k_ne) => `(tactic| (refine neN ?_; (try dsimp only); first | (k_whole; first | assumption | (refine Ne.symm ?_; first | assumption | walk_at "gf and") | (refine Nat.ne_of_lt ?_; walk_at "gf lt") | (refine Nat.ne_of_gt ?_; walk_at "gf lt")) | omega))
set_option hygiene false in
local macro_rules | `(tactic| walk_at "gf enter") => `(tactic| (
  (try (case k0 => exact fun _ h => nomatch h))
  case k1 => exact k _ _ (G.X _ _ (by k_is))
  case k2 => exact codeRec_of (G.X.keeps k) (by k_is)
  case k3 => decide
  case k4 => first | exact BindsTo.of_eq rfl | exact kp_binds (G.X.keeps k) (fun _ => rfl)
  case k5 => exact locs rfl
  case k6 => decide
  case k7 => rfl
  case k8 => rfl
  case k9 => rfl
  intro bs L h₁ eb F N G' hidlt
  have X := G'.X
  have T := G'.T
  k_unmd
  k_fold))
-- part M1
section
theorem fresh_M1 : True := by w_top off; exact trivial
-- needs: B1
/-! the lots, as plain functions -/
def br (ns : List Int) (x : Int) : Nat := (ns.takeWhile (fun y => decide (y ≤ x))).length
theorem br_unique {ns : List Int} {x : Int} {i : Nat} (h : i ≤ ns.length) (h1 : ∀ j (hj : j < ns.length), j < i → ns[j] ≤ x) (h2 : ∀ j (hj : j < ns.length), i ≤ j → x < ns[j]) : i = br ns x := by
  induction ns generalizing i with
  | nil => simp at h; subst h; rfl
  | cons a r ih =>
    unfold br
    cases i with
    | zero =>
      have := h2 0 (by simp) (Nat.le_refl _)
      simp only [List.getElem_cons_zero] at this
      rw [List.takeWhile_cons, if_neg (by simp; omega)]
      rfl
    | succ i =>
      have h0 := h1 0 (by simp) (Nat.succ_pos _)
      simp only [List.getElem_cons_zero] at h0
      rw [List.takeWhile_cons, if_pos (by simp; omega), List.length_cons]
      congr 1
      refine ih (by simpa using h) (fun j hj hji => ?_) (fun j hj hij => ?_)
      · have := h1 (j + 1) (by simpa using hj) (by omega)
        simpa using this
      · have := h2 (j + 1) (by simpa using hj) (by omega)
        simpa using this

def lotStep (ns : List Int) (st : List Int × Int) : List Int × Int :=
  if 0 < st.2 ∧ 0 < br ns st.2 ∧ st.1.getD (br ns st.2 - 1) 0 = 0 then (st.1.set (br ns st.2 - 1) 1, st.2 - ns.getD (br ns st.2 - 1) 0) else st
def lotIt (ns : List Int) (x : Int) : Nat → List Int × Int
  | 0 => (List.replicate ns.length 0, x)
  | k + 1 => lotStep ns (lotIt ns x k)
theorem lotStep_length (ns : List Int) (st : List Int × Int) : (lotStep ns st).1.length = st.1.length := by
  unfold lotStep; split <;> simp
theorem lotIt_length (ns : List Int) (x : Int) : ∀ k, (lotIt ns x k).1.length = ns.length
  | 0 => by simp [lotIt]
  | k + 1 => by rw [lotIt, lotStep_length, lotIt_length ns x k]
def lot (ns : List Int) (x : Int) : Option (List Int) := if (lotIt ns x ns.length).2 = 0 then some (lotIt ns x ns.length).1 else none

end
-- part M2
section
theorem fresh_M2 : True := by w_top off; exact trivial
-- needs: B1
/-! figures of a number by 2 ^ n -/
def digs (n len x : Nat) : List Int := (List.range len).map fun i => ((x / 2 ^ (n * i) % 2 ^ n : Nat) : Int)
theorem digs_length (n len x : Nat) : (digs n len x).length = len := by simp [digs]
def putD (ns : List Int) (L R n x : Nat) : List Int := ns.take L ++ digs n (R - L) x ++ ns.drop R

theorem putD_length {ns : List Int} {L R n x : Nat} (h : L ≤ R) (hR : R ≤ ns.length) : (putD ns L R n x).length = ns.length := by
  simp [putD, digs_length]; omega

theorem putD_one {ns : List Int} {L n x : Nat} (hL : L < ns.length) (hx : x < 2 ^ n) : ns.set L (x : Int) = putD ns L (L + 1) n x := by
  have e : digs n (L + 1 - L) x = [(x : Int)] := by
    have : L + 1 - L = 1 := by omega
    rw [this]
    show [((x / 2 ^ (n * 0) % 2 ^ n : Nat) : Int)] = [(x : Int)]
    rw [Nat.mul_zero, Nat.pow_zero, Nat.div_one, Nat.mod_eq_of_lt hx]
  rw [putD, e, List.set_eq_take_append_cons_drop, if_pos hL]
  simp

theorem low_dig {x S k n : Nat} (h : k + n ≤ S) : x % 2 ^ S / 2 ^ k % 2 ^ n = x / 2 ^ k % 2 ^ n := by
  apply Nat.eq_of_testBit_eq
  intro i
  simp only [Nat.testBit_mod_two_pow, Nat.testBit_div_two_pow]
  by_cases hi : i < n
  · have : i + k < S := by omega
    simp [hi, this]
  · simp [hi]
theorem high_dig {x S k n : Nat} : x / 2 ^ S / 2 ^ k % 2 ^ n = x / 2 ^ (S + k) % 2 ^ n := by
  rw [Nat.div_div_eq_div_mul, ← Nat.pow_add]

theorem digs_split {n a b x : Nat} : digs n a (x % 2 ^ (a * n)) ++ digs n b (x / 2 ^ (a * n)) = digs n (a + b) x := by
  unfold digs
  apply List.ext_getElem
  · simp
  intro i h1 h2
  simp only [List.length_append, List.length_map, List.length_range] at h1
  by_cases hi : i < a
  · rw [List.getElem_append_left (by simpa using hi)]
    simp only [List.getElem_map, List.getElem_range]
    rw [low_dig]
    have : n * (i + 1) ≤ a * n := by rw [Nat.mul_comm a n]; exact Nat.mul_le_mul_left n hi
    rw [Nat.mul_add] at this; omega
  · rw [List.getElem_append_right (by simpa using Nat.not_lt.mp hi)]
    simp only [List.getElem_map, List.getElem_range, List.length_map, List.length_range]
    rw [high_dig]
    have : a * n + n * (i - a) = n * i := by
      rw [Nat.mul_comm a n, ← Nat.mul_add]; congr 1; omega
    rw [this]

theorem putD_two {ns : List Int} {L M R n x : Nat} (h1 : L ≤ M) (h2 : M ≤ R) (hR : R ≤ ns.length) : putD (putD ns L M n (x % 2 ^ ((M - L) * n))) M R n (x / 2 ^ ((M - L) * n)) = putD ns L R n x := by
  have e1 : (putD ns L M n (x % 2 ^ ((M - L) * n))).take M = ns.take L ++ digs n (M - L) (x % 2 ^ ((M - L) * n)) := by
    unfold putD
    rw [List.take_append_of_le_length (by simp [digs_length]; omega), List.take_of_length_le (by simp [digs_length]; omega)]
  have e2 : (putD ns L M n (x % 2 ^ ((M - L) * n))).drop R = ns.drop R := by
    unfold putD
    rw [List.drop_append, List.drop_eq_nil_of_le (by simp [digs_length]; omega), List.nil_append, List.drop_drop]
    congr 1
    simp [digs_length]; omega
  have e3 : digs n (R - L) x = digs n (M - L) (x % 2 ^ ((M - L) * n)) ++ digs n (R - M) (x / 2 ^ ((M - L) * n)) := by
    rw [digs_split]; congr 1; omega
  show List.take M _ ++ _ ++ List.drop R _ = _
  rw [e1, e2]
  unfold putD
  rw [e3, List.append_assoc (List.take L ns)]

theorem xor_low (x S : Nat) : Builtin.bitXor (x : Int) (((x / 2 ^ S * 2 ^ S : Nat)) : Int) = ((x % 2 ^ S : Nat) : Int) := by
  rw [bitXor_and, bitAnd_pp (by omega) (by omega)]
  have h : (x : Int).toNat &&& ((x / 2 ^ S * 2 ^ S : Nat) : Int).toNat = x / 2 ^ S * 2 ^ S := by
    rw [Int.toNat_natCast, Int.toNat_natCast]
    apply Nat.eq_of_testBit_eq
    intro i
    rw [Nat.testBit_and, Nat.testBit_mul_two_pow, Nat.testBit_div_two_pow]
    by_cases hi : S ≤ i
    · have : i - S + S = i := by omega
      simp [hi, this]
    · simp [hi]
  rw [h]
  have := Nat.div_add_mod x (2 ^ S)
  rw [Nat.mul_comm] at this
  omega

/-! a number out of its figures -/
def val (n : Nat) : List Nat → Nat
  | [] => 0
  | d :: r => d + 2 ^ n * val n r
theorem val_append (n : Nat) : ∀ (a b : List Nat), val n (a ++ b) = val n a + 2 ^ (n * a.length) * val n b
  | [], b => by simp [val]
  | d :: r, b => by
    rw [List.cons_append, val, val, val_append n r b, List.length_cons, Nat.mul_add n, Nat.mul_one, Nat.pow_add, Nat.mul_add]
    rw [Nat.add_assoc, ← Nat.mul_assoc, Nat.mul_comm (2 ^ n) (2 ^ (n * r.length))]
theorem val_lt {n : Nat} : ∀ {a : List Nat}, (∀ d ∈ a, d < 2 ^ n) → val n a < 2 ^ (n * a.length)
  | [], _ => by simp [val]
  | d :: r, h => by
    have h1 := h d (.head _)
    have h2 := val_lt (n := n) (a := r) fun x hx => h x (.tail _ hx)
    rw [val, List.length_cons, Nat.mul_add, Nat.mul_one, Nat.pow_add, Nat.mul_comm (2 ^ (n * r.length))]
    have h3 : 2 ^ n * (val n r + 1) ≤ 2 ^ n * 2 ^ (n * r.length) := Nat.mul_le_mul_left _ h2
    rw [Nat.mul_add] at h3
    omega
def seg (ds : List Nat) (L R : Nat) : List Nat := (ds.drop L).take (R - L)
theorem seg_length {ds : List Nat} {L R : Nat} (h : L ≤ R) (hR : R ≤ ds.length) : (seg ds L R).length = R - L := by simp [seg]; omega
theorem seg_mem {ds : List Nat} {L R : Nat} {d : Nat} (h : d ∈ seg ds L R) : d ∈ ds := List.mem_of_mem_drop (List.mem_of_mem_take h)
theorem seg_split {ds : List Nat} {L M R : Nat} (h1 : L ≤ M) (h2 : M ≤ R) : seg ds L R = seg ds L M ++ seg ds M R := by
  unfold seg
  have e : R - L = (M - L) + (R - M) := by omega
  rw [e, List.take_add, List.drop_drop]
  congr 2
  congr 1
  omega
theorem seg_one {ds : List Nat} {L : Nat} (h : L < ds.length) : seg ds L (L + 1) = [ds.getD L 0] := by
  unfold seg
  rw [show L + 1 - L = 1 by omega, List.drop_eq_getElem_cons h, List.take_succ_cons, List.take_zero, List.getD_eq_getElem?_getD, List.getElem?_eq_getElem h]
  rfl
theorem seg_all {ds : List Nat} : seg ds 0 ds.length = ds := by simp [seg]
theorem val_two {ds : List Nat} {L M R n : Nat} (h1 : L ≤ M) (h2 : M ≤ R) (hR : R ≤ ds.length) : val n (seg ds M R) * 2 ^ ((M - L) * n) + val n (seg ds L M) = val n (seg ds L R) := by
  rw [seg_split h1 h2, val_append, seg_length h1 (by omega), Nat.mul_comm (M - L), Nat.mul_comm (val n (seg ds M R)), Nat.add_comm]

def digsN (n len x : Nat) : List Nat := (List.range len).map fun i => x / 2 ^ (n * i) % 2 ^ n
theorem digs_cast (n len x : Nat) : digs n len x = (digsN n len x).map fun (d : Nat) => (d : Int) := by simp [digs, digsN, Function.comp_def]
theorem digsN_length (n len x : Nat) : (digsN n len x).length = len := by simp [digsN]
theorem digsN_lt {n len x d : Nat} (h : d ∈ digsN n len x) : d < 2 ^ n := by
  obtain ⟨i, _, rfl⟩ := List.mem_map.mp h
  exact Nat.mod_lt _ (Nat.two_pow_pos n)
theorem digsN_succ (n len x : Nat) : digsN n (len + 1) x = x % 2 ^ n :: digsN n len (x / 2 ^ n) := by
  unfold digsN
  rw [List.range_succ_eq_map, List.map_cons, List.map_map]
  congr 1
  · simp
  · apply List.map_congr_left
    intro i _
    show x / 2 ^ (n * (i + 1)) % 2 ^ n = x / 2 ^ n / 2 ^ (n * i) % 2 ^ n
    rw [high_dig, Nat.mul_add, Nat.mul_one, Nat.add_comm]
theorem val_digsN {n : Nat} : ∀ {len x : Nat}, x < 2 ^ (n * len) → val n (digsN n len x) = x
  | 0, x, h => by simp at h; subst h; rfl
  | len + 1, x, h => by
    rw [digsN_succ, val, val_digsN (by
      apply Nat.div_lt_of_lt_mul
      rw [← Nat.pow_add, Nat.add_comm, ← Nat.mul_succ]
      exact h)]
    have := Nat.div_add_mod x (2 ^ n)
    omega
/-- the rest, figure by figure from the top -/
def horner (b n : Nat) (l : List Nat) : Nat := l.foldl (fun r d => (r * 2 ^ n + d) % b) 0
theorem horner_snoc (b n : Nat) (l : List Nat) (d : Nat) : horner b n (l ++ [d]) = (horner b n l * 2 ^ n + d) % b := by simp [horner]
theorem horner_val (b n : Nat) : ∀ l : List Nat, horner b n l.reverse = val n l % b
  | [] => by simp [horner, val]
  | d :: r => by
    rw [List.reverse_cons, horner_snoc, horner_val b n r, val, Nat.add_mod, Nat.mul_mod, Nat.mod_mod, ← Nat.mul_mod, ← Nat.add_mod, Nat.mul_comm, Nat.add_comm]
theorem horner_lt {b n : Nat} (hb : 0 < b) : ∀ l : List Nat, horner b n l < b := by
  intro l
  rcases List.eq_nil_or_concat l with rfl | ⟨l', d, rfl⟩
  · simpa [horner] using hb
  · rw [List.concat_eq_append, horner_snoc]; exact Nat.mod_lt _ hb

end
-- part F1
section
theorem fresh_F1 : True := by w_top off; exact trivial
-- needs: B1
section
variable {w : World} {p : Program} {loose : List Str} {mean : ExcName → Option Value} {mg mb : Str → Option Value} {g : Heap} {E : Value → Shared → Prop} {s : Shared}

theorem div2n1n_spec {a b n : Int} {ta tb tn : Tok} (G : Gd w p loose mean mg mb g) (k : ∀ b o, g.get? b = some o → s.heap.get? b = some o)
   (ha : 0 ≤ a) (ha2 : a < 1152921504606846976) (hb : 0 < b) (hb2 : b < 1000000) (hn : 0 ≤ n) :
 wpAny (model prog w) (Ad 500 2000) (call (.ref 48) [.int a ta, .int b tb, .int n tn]) (Ret s fun r h' => ∃ l t1 t2, r = .ref l ∧ s.heap.get? l = none ∧ h'.get? l = some { cls := .type "tuple", data := .seq #[.int (a/b) t1, .int (a%b) t2] }) E s := by
  refine' enter [] [("a", .int a ta), ("b", .int b tb), ("n", .int n tn)] G k ?k0 ?k1 ?k2 ?k3 ?k4 ?k5 ?k6 ?k7 ?k8 ?k9 ?_
  walk_at "gf enter"
  have hbits : Builtin.Int.intBits a ≤ 60 := intBits_lt (k := 60) (by omega)
  have hLs := F.ns.lt
  k_steps
  rename Fr _ _ _ _ => F9
  rename News _ _ _ _ => N9
  have h9 := (N9 _ (.head _)).1
  rw [Int.fdiv_eq_ediv_of_nonneg _ (Int.le_of_lt hb), Int.fmod_eq_emod_of_nonneg _ (Int.le_of_lt hb)] at h9
  exact ⟨⟨_, _, _, rfl, freshOf eb F9 (Nat.le_of_lt hLs), h9⟩, kept0 eb F9⟩
end

end
-- part F2
section
theorem fresh_F2 : True := by w_top off; exact trivial
-- needs: B1
section
variable {w : World} {p : Program} {loose : List Str} {mean : ExcName → Option Value} {mg mb : Str → Option Value} {g : Heap} {E : Value → Shared → Prop} {s : Shared}
local macro_rules | `(tactic| walk_at "exec While Compare cons nil") => `(tactic| refine Stop.mk ?_)

theorem pairwise_le {ns : List Int} (hs : ns.Pairwise (· ≤ ·)) {i j : Nat} (h : i ≤ j) (hj : j < ns.length) : ns[i]'(by omega) ≤ ns[j] := by
  rcases Nat.lt_or_eq_of_le h with h | h
  · exact List.pairwise_iff_getElem.mp hs i j _ hj h
  · subst h; exact Int.le_refl _

theorem bisect_right_spec {l : Addr} {vs : List Value} {ns : List Int} {x : Int} {t : Tok} (G : Gd w p loose mean mg mb g) (k : ∀ b o, g.get? b = some o → s.heap.get? b = some o)
   (hl : s.heap.IsList l vs.toArray) (hi : IntsAre vs ns) (hs : ns.Pairwise (· ≤ ·)) (hlen : ns.length < 1000) :
 wpAny (model prog w) (Ad 500 2000) (call (.ref 23) [.ref l, .int x t]) (Ret s fun r _ => ∃ (i : Nat) (t' : Tok), r = .int i t' ∧ i ≤ ns.length ∧ (∀ j (h : j < ns.length), j < i → ns[j] ≤ x) ∧ (∀ j (h : j < ns.length), i ≤ j → x < ns[j])) E s := by
  refine' enter [] [("a", .ref l), ("x", .int x t), ("lo", .int 0 189), ("hi", .none), ("key", .none)] G k ?k0 ?k1 ?k2 ?k3 ?k4 ?k5 ?k6 ?k7 ?k8 ?k9 ?_
  walk_at "gf enter"
  have hl' : bs.IsList l vs.toArray := by rw [nil_eq eb]; exact hl
  k_steps
  show Stop _
  unfold Stop
  rename Fr _ _ _ _ => F9
  rename News _ _ _ _ => N9
  refine' While_inv2 (fun n m nx => nx = [] ∧ ∃ (lo hi : Nat) (t1 t2 : Tok), m "lo" = some (.int lo t1) ∧ m "hi" = some (.int hi t2) ∧ m "a" = some (.ref l) ∧ m "x" = some (.int x t) ∧ lo ≤ hi ∧ hi ≤ ns.length ∧ n = hi - lo ∧
    (∀ j (h : j < ns.length), j < lo → ns[j] ≤ x) ∧ (∀ j (h : j < ns.length), hi ≤ j → x < ns[j])) F9 N9 (n₀ := ns.length) ⟨rfl, 0, ns.length, _, _, rfl, rfl, rfl, rfl, Nat.zero_le _, Nat.le_refl _, rfl, (fun j _ h => absurd h (Nat.not_lt_zero _)), fun j h h2 => absurd h (Nat.not_lt.mpr h2)⟩ ?_ ?_
  rotate_left
  · exact PassesOwn.never
  rintro n m nx h tk F1 N1 ⟨rfl, lo, hi', t1, t2, e1, e2, e3, e4, hle, hle2, rfl, hlow, hhigh⟩
  have F2 := frB [("lo", .int lo t1), ("hi", .int hi' t2), ("a", .ref l), ("x", .int x t)] F1 (by simp [e1, e2, e3, e4])
  clear F1 F9 N9
  k_unmd
  k_fold
  k_steps
  · rename Fr _ _ _ _ => F8
    rename News _ _ _ _ => N8
    rename _ < _ => hx9
    rename (lo : Int) < _ => hlt9
    have hm : ((lo : Int) + (hi' : Int)).fdiv 2 = (((lo + hi') / 2 : Nat) : Int) := by rw [Int.fdiv_eq_ediv_of_nonneg _ (by omega)]; omega
    rw [hm] at hx9 F8
    rw [Int.toNat_natCast] at hx9
    have hmlt : (lo + hi') / 2 < hi' := by omega
    have hg : ns.getD ((lo + hi') / 2) 0 = ns[(lo + hi') / 2]'(by omega) := by rw [List.getD_eq_getElem?_getD, List.getElem?_eq_getElem (by omega)]; rfl
    rw [hg] at hx9
    refine ⟨_, _, _, _, (lo + hi') / 2 - lo, rfl, F8, N8, by omega, rfl, lo, (lo + hi') / 2, _, _, by with_unfolding_all rfl, by with_unfolding_all rfl, by with_unfolding_all rfl, by with_unfolding_all rfl, by omega, by omega, rfl, hlow, ?_⟩
    intro j hj hle3
    exact Int.lt_of_lt_of_le hx9 (pairwise_le hs hle3 hj)
  · rename Fr _ _ _ _ => F8
    rename News _ _ _ _ => N8
    rename ¬ _ => hx9
    rename (lo : Int) < _ => hlt9
    have hm : ((lo : Int) + (hi' : Int)).fdiv 2 = (((lo + hi') / 2 : Nat) : Int) := by rw [Int.fdiv_eq_ediv_of_nonneg _ (by omega)]; omega
    rw [hm] at hx9 F8
    rw [Int.toNat_natCast] at hx9
    have hmlt : (lo + hi') / 2 < hi' := by omega
    have hg : ns.getD ((lo + hi') / 2) 0 = ns[(lo + hi') / 2]'(by omega) := by rw [List.getD_eq_getElem?_getD, List.getElem?_eq_getElem (by omega)]; rfl
    rw [hg] at hx9
    refine ⟨_, _, _, _, hi' - ((lo + hi') / 2 + 1), rfl, F8, N8, by omega, rfl, (lo + hi') / 2 + 1, hi', _, _, by with_unfolding_all rfl, by with_unfolding_all rfl, by with_unfolding_all rfl, by with_unfolding_all rfl, by omega, by omega, rfl, ?_, hhigh⟩
    intro j hj hle3
    exact Int.le_trans (pairwise_le hs (by omega) _) (Int.not_lt.mp hx9)
  · rename Fr _ _ _ _ => F8
    rename ¬ _ => hx9
    have he : lo = hi' := by omega
    subst he
    exact ⟨⟨lo, _, rfl, hle2, hlow, hhigh⟩, kept0 eb F8⟩

theorem bisect_left_spec {l : Addr} {vs : List Value} {ns : List Int} {x : Int} {t : Tok} (G : Gd w p loose mean mg mb g) (k : ∀ b o, g.get? b = some o → s.heap.get? b = some o)
   (hl : s.heap.IsList l vs.toArray) (hi : IntsAre vs ns) (hs : ∀ y ∈ ns, y < x) (hlen : ns.length < 1000) {t0 : Tok} :
 wpAny (model prog w) (Ad 500 2000) (call (.ref 41) [.ref l, .int x t, .int 0 t0, .none]) (Ret s fun r _ => ∃ (t' : Tok), r = .int ns.length t') E s := by
  refine' enter [] [("a", .ref l), ("x", .int x t), ("lo", .int 0 t0), ("hi", .none), ("key", .none)] G k ?k0 ?k1 ?k2 ?k3 ?k4 ?k5 ?k6 ?k7 ?k8 ?k9 ?_
  walk_at "gf enter"
  have hl' : bs.IsList l vs.toArray := by rw [nil_eq eb]; exact hl
  k_steps
  show Stop _
  unfold Stop
  rename Fr _ _ _ _ => F9
  rename News _ _ _ _ => N9
  refine' While_inv2 (fun n m nx => nx = [] ∧ ∃ (lo : Nat) (t1 t2 : Tok), m "lo" = some (.int lo t1) ∧ m "hi" = some (.int ns.length t2) ∧ m "a" = some (.ref l) ∧ m "x" = some (.int x t) ∧ lo ≤ ns.length ∧ n = ns.length - lo) F9 N9 (n₀ := ns.length) ⟨rfl, 0, _, _, rfl, rfl, rfl, rfl, Nat.zero_le _, rfl⟩ ?_ ?_
  rotate_left
  · exact PassesOwn.never
  rintro n m nx h tk F1 N1 ⟨rfl, lo, t1, t2, e1, e2, e3, e4, hle, rfl⟩
  have F2 := frB [("lo", .int lo t1), ("hi", .int ns.length t2), ("a", .ref l), ("x", .int x t)] F1 (by simp [e1, e2, e3, e4])
  clear F1 F9 N9
  have hm : ((lo : Int) + (ns.length : Int)).fdiv 2 = (((lo + ns.length) / 2 : Nat) : Int) := by rw [Int.fdiv_eq_ediv_of_nonneg _ (by omega)]; omega
  have hcmp : lo < ns.length → ns.getD ((lo + ns.length) / 2) 0 < x := fun h => by
    have hg : ns.getD ((lo + ns.length) / 2) 0 = ns[(lo + ns.length) / 2]'(by omega) := by rw [List.getD_eq_getElem?_getD, List.getElem?_eq_getElem (by omega)]; rfl
    rw [hg]; exact hs _ (List.getElem_mem _)
  k_unmd
  k_fold
  k_steps
  · rename Fr _ _ _ _ => F8
    rename News _ _ _ _ => N8
    rename (lo : Int) < _ => hlt9
    rw [hm] at F8
    refine ⟨_, _, _, _, ns.length - ((lo + ns.length) / 2 + 1), rfl, F8, N8, by omega, rfl, (lo + ns.length) / 2 + 1, _, _, by with_unfolding_all rfl, by with_unfolding_all rfl, by with_unfolding_all rfl, by with_unfolding_all rfl, by omega, rfl⟩
  · rename ¬ _ => hx9
    rename (lo : Int) < _ => hlt9
    rw [hm, Int.toNat_natCast] at hx9
    exact absurd (hcmp (by omega)) hx9
  · rename Fr _ _ _ _ => F8
    rename ¬ _ => hx9
    have he : lo = ns.length := by omega
    subst he
    exact ⟨⟨_, rfl⟩, kept0 eb F8⟩

end

end
-- part F3
section
local macro_rules | `(tactic| walk_at "gf pad") => `(tactic| fail "pad")
theorem fresh_F3 : True := by w_top off; exact trivial
-- needs: B1 F2
section
variable {w : World} {p : Program} {loose : List Str} {mean : ExcName → Option Value} {mg mb : Str → Option Value} {g : Heap} {E : Value → Shared → Prop} {s : Shared}
local macro_rules | `(tactic| walk_at "call ref") => `(tactic| refine Stop.mk ?_)

theorem fits_idx {i : Int} (h : 0 ≤ i ∧ i < 1000000) : Builtin.List.listFitsIndex i = true := by
  unfold Builtin.List.listFitsIndex; simp; omega
theorem ins_end {vs : List Value} {n : Nat} {y : Value} (h : n = vs.length) : kl_ins vs.toArray.toList (n : Int) y = vs ++ [y] := by
  subst h
  unfold kl_ins
  rw [if_neg (by omega)]
  simp

theorem insort_left_spec {l : Addr} {vs : List Value} {ns : List Int} {x : Int} {t : Tok} {c : Nat} (G : Gd w p loose mean mg mb g) (k : ∀ b o, g.get? b = some o → s.heap.get? b = some o)
   (hl : s.heap.get? l = some { cls := .type "list", data := .seq vs.toArray c }) (hg : g.get? l = none) (hi : IntsAre vs ns) (hs : ∀ y ∈ ns, y < x) (hlen : ns.length < 1000) :
 wpAny (model prog w) (Ad 490 1900) (call (.ref 32) [.ref l, .int x t]) (fun r s' => Box (∃ h' tk c', s' = { s with heap := h', toks := tk } ∧ (∀ a o, a ≠ l → s.heap.get? a = some o → h'.get? a = some o) ∧ h'.get? l = some { cls := .type "list", data := .seq (vs ++ [Value.int x t]).toArray c' })) E s := by
  refine' enter [(l, { cls := .type "list", data := .seq vs.toArray c })] [("a", .ref l), ("x", .int x t), ("lo", .int 0 203), ("hi", .none), ("key", .none)] G k ?k0 ?k1 ?k2 ?k3 ?k4 ?k5 ?k6 ?k7 ?k8 ?k9 ?_
  case k0 => intro q hq; rw [List.mem_singleton.mp hq]; exact ⟨hl, hg⟩
  walk_at "gf enter"
  k_steps
  show Stop _
  unfold Stop
  rename Fr _ _ _ _ => F9
  rename News _ _ _ _ => N9
  refine use 500 2000 F9 N9 (bisect_left_spec G' F9.keep (isList_of N9 (.head _)) hi hs hlen) rfl (Nat.le_of_ble_eq_true rfl) (Nat.le_of_ble_eq_true rfl) ?_
  rintro r h' tk ⟨t', rfl⟩ F8 N8 _
  clear F9 N9
  k_unmd
  (try dsimp only)
  k_steps
  rename Fr _ _ _ _ => F7
  rename News _ _ _ _ => N7
  have hvl : vs.length = ns.length := hi.length
  refine kl_insert (n := c) (l := vs ++ [Value.int x t]) F7 N7 (fits_idx (by omega)) (ins_end (by rw [hvl])) (Upd.head (fun _ h => nomatch h)) (by show vs.length ≤ sizeLine; rw [sizeLine_eq]; omega) ?_
  intro h6 F6 N6
  clear F7 N7
  k_unmd
  (try dsimp only)
  k_steps
  rename Fr _ _ _ _ => F5
  rename News _ _ _ _ => N5
  exact ⟨_, _, _, rfl, fun a o ha => kept eb F5 a o (by simpa using ha), (N5 _ (.head _)).1⟩
end

end
-- part F4
section
local macro_rules | `(tactic| walk_at "gf pad") => `(tactic| fail "pad")
theorem fresh_F4 : True := by w_top off; exact trivial
-- needs: B1 F2 M1
section
variable {w : World} {p : Program} {loose : List Str} {mean : ExcName → Option Value} {mg mb : Str → Option Value} {g : Heap} {E : Value → Shared → Prop} {s : Shared}
local macro_rules | `(tactic| walk_at "call ref") => `(tactic| refine Stop.mk ?_)
local macro_rules | `(tactic| walk_at "pyIter ref") => `(tactic| refine Stop.mk ?_)

def LotInv (l : Addr) (ns : List Int) (x : Int) (i : Nat) (m : Str → Option Value) (nx : List (Addr × Obj)) : Prop :=
  ∃ (D : Addr) (vs : List Value) (c : Nat) (t : Tok), nx = [(D, W.listOf vs.toArray c)] ∧ IntsAre vs (lotIt ns x i).1 ∧ m "figures" = some (.ref D) ∧ m "numbers" = some (.ref l) ∧ m "whole" = some (.int (lotIt ns x i).2 t)

theorem law_lot_spec {l : Addr} {vs : List Value} {ns : List Int} {x : Int} {t : Tok} (G : Gd w p loose mean mg mb g) (k : ∀ b o, g.get? b = some o → s.heap.get? b = some o)
   (hl : s.heap.IsList l vs.toArray) (hi : IntsAre vs ns) (hs : ns.Pairwise (· ≤ ·)) (hlen : ns.length < 100) :
 wpAny (model prog w) (Ad 490 1900) (call (.ref 90) [.ref l, .int x t]) (Ret s fun r h' => match lot ns x with | some fs => ∃ D us, r = .ref D ∧ s.heap.get? D = none ∧ (∃ c, h'.get? D = some (W.listOf us.toArray c)) ∧ IntsAre us fs | none => r = .none) E s := by
  refine' enter [] [("numbers", .ref l), ("whole", .int x t)] G k ?k0 ?k1 ?k2 ?k3 ?k4 ?k5 ?k6 ?k7 ?k8 ?k9 ?_
  walk_at "gf enter"
  have hl' : bs.IsList l vs.toArray := by rw [nil_eq eb]; exact hl
  k_steps
  show Stop _
  unfold Stop
  rename IsRange _ _ _ _ _ _ _ _ => R9
  rename Fr _ _ _ _ => F9
  rename News _ _ _ _ => N9
  rename IntsAre (List.flatten _) _ => I9
  simp only [Int.toNat_natCast, flat_rep] at N9 I9
  refine' for_range (L := L) (LotInv l ns x) rfl rfl R9 (range_small (by omega) (by omega)) rangeSize_up F9 (newsSub N9 (by intro q hq; rw [List.mem_singleton.mp hq]; exact .head _)) ?_ ?_ ?_
  · exact ⟨_, _, _, _, rfl, I9, by with_unfolding_all rfl, by with_unfolding_all rfl, by with_unfolding_all rfl⟩
  · rintro i t9 m nx h tk own hlt hadr hoff ⟨D, us, c, tw, rfl, hI, e1, e2, e3⟩ F1 N1
    simp only [List.map_cons, List.map_nil, List.cons.injEq, and_true] at hadr hoff
    rw [← hadr] at hoff
    have F2 := frB [("figures", .ref D), ("numbers", .ref l), ("whole", .int (lotIt ns x i).2 tw)] F1 (by simp (decide := true) [e1, e2, e3])
    simp only [List.cons_append, List.nil_append] at N1
    clear F1 F9 N9 R9 I9
    have hfl := lotIt_length ns x i
    k_unmd
    k_fold
    k_steps
    show Stop _
    unfold Stop
    rename Fr _ _ _ _ => F8
    rename News _ _ _ _ => N8
    refine use 500 2000 F8 N8 (bisect_right_spec G' F8.keep (hl'.at fun o e => F8.keep _ o e) hi hs (by omega)) rfl (Nat.le_of_ble_eq_true rfl) (Nat.le_of_ble_eq_true rfl) ?_
    rintro _ h7 tk7 ⟨j, t7, rfl, hj1, hj2, hj3⟩ F7 N7 _
    clear F8 N8
    have hj := br_unique hj1 hj2 hj3
    clear hj2 hj3
    k_unmd
    (try dsimp only)
    k_steps
    · unfold Stop
      dsimp only [InvPostN]
      rename Fr _ _ _ _ => F6
      rename News _ _ _ _ => N6
      rename IntsAre (List.set _ _ _) _ => I6
      rename List.getD _ _ _ = 0 => c3
      rename 0 ≤ _ => c2
      rename 0 < _ => c1
      have hjt : ((j : Int) - 1).toNat = br ns (lotIt ns x i).2 - 1 := by omega
      have hstep : lotIt ns x (i + 1) = ((lotIt ns x i).1.set ((j : Int) - 1).toNat 1, (lotIt ns x i).2 - ns.getD ((j : Int) - 1).toNat 0) := by
        rw [hjt] at c3 ⊢
        rw [lotIt, lotStep, if_pos ⟨c1, by omega, c3⟩]
      refine InvEndN.intro F6 N6 ⟨D, _, c, _, rfl, by rw [hstep]; exact I6, by with_unfolding_all rfl, by with_unfolding_all rfl, by rw [hstep]; with_unfolding_all rfl⟩ (congrArg (fun z => [z]) hadr) ?_ ?_
      · intro q hq; rw [List.mem_singleton.mp hq]; exact .tail _ (.head _)
      · exact fun q hq => .tail _ (.tail _ hq)
    · unfold Stop
      dsimp only [InvPostN]
      rename Fr _ _ _ _ => F6
      rename News _ _ _ _ => N6
      rename List.getD _ _ _ ≠ 0 => c3
      have hjt : ((j : Int) - 1).toNat = br ns (lotIt ns x i).2 - 1 := by omega
      have hstep : lotIt ns x (i + 1) = lotIt ns x i := by
        rw [hjt] at c3
        rw [lotIt, lotStep, if_neg fun hc => c3 hc.2.2]
      refine InvEndN.intro F6 N6 ⟨D, _, c, _, rfl, by rw [hstep]; exact hI, by with_unfolding_all rfl, by with_unfolding_all rfl, by rw [hstep]; with_unfolding_all rfl⟩ (congrArg (fun z => [z]) hadr) ?_ ?_
      · intro q hq; rw [List.mem_singleton.mp hq]; exact .head _
      · exact fun q hq => .tail _ hq
    · unfold Stop
      dsimp only [InvPostN]
      rename Fr _ _ _ _ => F6
      rename News _ _ _ _ => N6
      rename ¬ _ => c3
      have hstep : lotIt ns x (i + 1) = lotIt ns x i := by
        rw [lotIt, lotStep, if_neg fun hc => c3 (by have := hc.2.1; omega)]
      refine InvEndN.intro F6 N6 ⟨D, _, c, _, rfl, by rw [hstep]; exact hI, by with_unfolding_all rfl, by with_unfolding_all rfl, by rw [hstep]; with_unfolding_all rfl⟩ (congrArg (fun z => [z]) hadr) ?_ ?_
      · intro q hq; rw [List.mem_singleton.mp hq]; exact .head _
      · exact fun q hq => .tail _ hq
    · unfold Stop
      dsimp only [InvPostN]
      rename Fr _ _ _ _ => F6
      rename News _ _ _ _ => N6
      rename ¬ _ => c3
      have hstep : lotIt ns x (i + 1) = lotIt ns x i := by
        rw [lotIt, lotStep, if_neg fun hc => c3 hc.1]
      refine InvEndN.intro F6 N6 ⟨D, _, c, _, rfl, by rw [hstep]; exact hI, by with_unfolding_all rfl, by with_unfolding_all rfl, by rw [hstep]; with_unfolding_all rfl⟩ (congrArg (fun z => [z]) hadr) ?_ ?_
      · intro q hq; rw [List.mem_singleton.mp hq]; exact .head _
      · exact fun q hq => .tail _ hq
  · rintro m nx h tk ⟨D, us, c, tw, rfl, hI, e1, e2, e3⟩ F1 N1
    have F2 := frB [("figures", .ref D), ("numbers", .ref l), ("whole", .int (lotIt ns x ns.length).2 tw)] F1 (by simp (decide := true) [e1, e2, e3])
    clear F1 F9 N9 R9 I9
    have hD : s.heap.get? D = none := by have := (N1 _ (.head _)).2.2; rw [nil_eq eb] at this; exact this
    k_unmd
    dsimp only
    k_steps
    · rename _ = 0 => c9
      have hlot : lot ns x = some (lotIt ns x ns.length).1 := by rw [lot, if_pos c9]
      refine (show Ret s _ (.ref D) _ from ⟨?_, kept0 eb F2⟩)
      rw [hlot]
      exact ⟨D, us, rfl, hD, ⟨_, (N1 _ (.head _)).1⟩, hI⟩
    · rename _ ≠ 0 => c9
      have hlot : lot ns x = none := by rw [lot, if_neg c9]
      refine (show Ret s _ .none _ from ⟨?_, kept0 eb F2⟩)
      rw [hlot]
end

end
-- part F5
section
theorem fresh_F5 : True := by w_top off; exact trivial
-- needs: B1 M2
section
variable {w : World} {p : Program} {loose : List Str} {mean : ExcName → Option Value} {mg mb : Str → Option Value} {g : Heap} {E : Value → Shared → Prop} {s : Shared}
local macro_rules | `(tactic| walk_at "call ref") => `(tactic| refine Stop.mk ?_)
local macro_rules | `(tactic| walk_at "binaryOp RShift int int") => `(tactic| refine Stop.mk ?_)
local macro_rules | `(tactic| walk_at "binaryOp LShift int int") => `(tactic| refine Stop.mk ?_)
local macro_rules | `(tactic| walk_at "binaryOp Mult int int") => `(tactic| refine Stop.mk ?_)
local macro_rules | `(tactic| walk_at "binaryOp BitXor int int") => `(tactic| refine Stop.mk ?_)

theorem fdiv_two (L R : Nat) : ((L : Int) + (R : Int)).fdiv (2 ^ (1 : Int).toNat) = (((L + R) / 2 : Nat) : Int) := by
  show ((L + R : Nat) : Int).fdiv ((2 : Nat) : Int) = _
  rw [Int.fdiv_eq_ediv_of_nonneg _ (Int.natCast_nonneg 2), Int.natCast_ediv]
theorem fdiv_pow (x S : Nat) : (x : Int).fdiv (2 ^ ((S : Nat) : Int).toNat) = ((x / 2 ^ S : Nat) : Int) := by
  rw [Int.toNat_natCast]
  have e : ((2 : Int) ^ S) = ((2 ^ S : Nat) : Int) := by simp
  rw [e, Int.fdiv_eq_ediv_of_nonneg _ (Int.natCast_nonneg _)]
  simp
theorem mul_pow (x S : Nat) : (x : Int) * 2 ^ ((S : Nat) : Int).toNat = ((x * 2 ^ S : Nat) : Int) := by
  rw [Int.toNat_natCast]
  simp

theorem halves {L R M d : Nat} (h : R - L = d + 1) (hM : L < M ∧ M < R) : (M - L - 1 < d ∧ R - M - 1 < d) ∧ (M - L = M - L - 1 + 1 ∧ R - M = R - M - 1 + 1) ∧ M - L + (R - M) = R - L ∧ (M - L < R - L ∧ R - M < R - L) := by
  have a1 : M - L < R - L := Nat.sub_lt_sub_right (Nat.le_of_lt hM.1) hM.2
  have a2 : R - M < R - L := Nat.sub_lt_sub_left (Nat.lt_trans hM.1 hM.2) hM.1
  have b1 := Nat.sub_add_cancel (Nat.sub_pos_of_lt hM.1)
  have b2 := Nat.sub_add_cancel (Nat.sub_pos_of_lt hM.2)
  refine ⟨⟨Nat.lt_of_succ_lt_succ ?_, Nat.lt_of_succ_lt_succ ?_⟩, ⟨b1.symm, b2.symm⟩, ?_, a1, a2⟩
  · rw [h, ← b1] at a1; exact a1
  · rw [h, ← b2] at a2; exact a2
  · rw [Nat.add_comm]; exact Nat.sub_add_sub_cancel (Nat.le_of_lt hM.2) (Nat.le_of_lt hM.1)
theorem halves_room {dp un a b : Nat} (h1 : dp + 2 * b ≤ 700) (h2 : un + 10 * b ≤ 4000) (h : a < b) : dp + 2 + 2 * a ≤ 700 ∧ un + 8 + 10 * a ≤ 4000 := ⟨by omega, by omega⟩
theorem mid_of {L R d : Nat} (h : R - L = d + 1) (hn : (L : Int) + 1 ≠ R) : L < (L + R) / 2 ∧ (L + R) / 2 < R := by
  have h1 : L < R := Nat.lt_of_sub_pos (h ▸ Nat.succ_pos d)
  have h2 : L + 1 < R := Nat.lt_of_le_of_ne h1 fun e => hn (by rw [← e]; rfl)
  exact ⟨(Nat.le_div_iff_mul_le (by decide)).mpr (by omega), Nat.div_lt_of_lt_mul (by omega)⟩
theorem cast_half {L M R : Nat} (hM : L < M ∧ M < R) : (M : Int) - (L : Int) = ((M - L : Nat) : Int) := (Int.natCast_sub (Nat.le_of_lt hM.1)).symm
theorem half_64 {L M R k : Nat} (hM : L < M ∧ M < R) (hR : R ≤ k) (hk : k ≤ 64) : M - L ≤ 64 ∧ ((M : Int) - (L : Int)).natAbs < 2 ^ 64 := by
  have h : M - L ≤ 64 := Nat.le_trans (Nat.sub_le M L) (Nat.le_trans (Nat.le_of_lt hM.2) (Nat.le_trans hR hk))
  exact ⟨h, by rw [cast_half hM, Int.natAbs_natCast]; exact Nat.lt_of_le_of_lt h (by decide)⟩
theorem room_up (dp un : Nat) : dp + 1 ≤ dp + 2 ∧ un + 3 ≤ un + 8 := ⟨Nat.le_succ _, Nat.add_le_add_left (by decide) _⟩
/-- five ways of being another, hidden from the arithmetic -/
theorem five {D f a i n c : Nat} {o1 o2 o3 o4 o5 : Obj} (h : Stop (f ≠ D ∧ a ≠ D ∧ i ≠ D ∧ n ≠ D ∧ c ≠ D)) : ∀ q ∈ [((f : Addr), o1), (a, o2), (i, o3), (n, o4), (c, o5)], @Ne Nat q.1 D :=
  have h' : f ≠ D ∧ a ≠ D ∧ i ≠ D ∧ n ≠ D ∧ c ≠ D := h
  List.forall_mem_cons.mpr ⟨h'.1, List.forall_mem_cons.mpr ⟨h'.2.1, List.forall_mem_cons.mpr ⟨h'.2.2.1, List.forall_mem_cons.mpr ⟨h'.2.2.2.1, List.forall_mem_cons.mpr ⟨h'.2.2.2.2, fun _ h => nomatch h⟩⟩⟩⟩⟩

theorem inner1_spec {nm q62 : Str} {p62 psn : Arguments} {s1 : Stmt} {rest : List Stmt} {bd : List Stmt} {sc sc62 : Scope} {ds : List PySem.Expr} {ret : Option PySem.Expr} {tps : List TypeParam} {ts : Option Scope} {bnd n62 : Str} {ps : Pos} {oc dV kV doc62 pm62 cd62 ct62 : Value} {an od : Option Addr} {osl : Array (Option Value)} {cl62 : List (Str × Addr)}
   (hK : (hd.heap_39 w.params).lookup 62 = some ⟨oc, od, .func (fnX n62 q62 p62 (s1 :: .FunctionDef nm psn bd ds ret tps sc ts bnd ps :: rest) sc62 cl62 dV kV doc62 pm62 an cd62 ct62), osl⟩)
   {f D cA cI cN c' : Addr} {qual : Str} {doc pm ctv : Value} {n tn : Nat} {oA oI oN oc' : Obj} (dA : oA.data = .cell (some (.ref D))) (dI : oI.data = .cell (some (.ref f))) (dN : oN.data = .cell (some (.int (n : Int) tn)))
   {vsC : Array Value} {tC : Tok} (dC : oc'.data = .fields vsC) (vC : vsC[1]? = some (.str qual tC)) (hn : 1 ≤ n) (hn2 : n ≤ 16)
   : ∀ (d : Nat) {E : Value → Shared → Prop} {g : Heap} (_ : Gd w p loose mean mg mb g) {s : Shared} {dp un : Nat} {vs : List Value} {ns : List Int} {c x L R : Nat} {tx tL tR : Tok} (_ : ∀ b o, g.get? b = some o → s.heap.get? b = some o)
   (_ : ∀ q ∈ [(D, W.listOf vs.toArray c), (f, fnMade nm qual psn bd sc [("n", cN), ("inner", cI), ("a_digits", cA)] doc pm c' ctv), (cA, oA), (cI, oI), (cN, oN), (c', oc')], s.heap.get? q.1 = some q.2 ∧ g.get? q.1 = none)
   (_ : IntsAre vs ns) (_ : R - L = d + 1) (_ : R ≤ ns.length) (_ : ns.length ≤ 64) (_ : x < 2 ^ (n * (R - L))) (_ : x < 2 ^ 60) (_ : dp + 2 * (R - L) ≤ 700) (_ : un + 10 * (R - L) ≤ 4000),
 wpAny (model prog w) (Ad dp un) (call (.ref f) [.int x tx, .int L tL, .int R tR]) (Chg D s fun r h' => r = .none ∧ ∃ (vs' : List Value) (c₁ : Nat), h'.get? D = some (W.listOf vs'.toArray c₁) ∧ IntsAre vs' (putD ns L R n x)) E s := by
  have e := hK.symm.trans (by k_is : (hd.heap_39 w.params).lookup 62 = some _)
  cases e
  intro d
  induction d using Nat.strongRecOn with
  | _ d ih =>
  intro E g G s dp un vs ns c x L R tx tL tR k hh hi hLR hR hlen hx hx2 hd hu
  have g0 := (hh _ (.head _)).1
  have n1 : @Ne Nat f D := neOf (hh _ (.tail _ (.head _))).1 g0 (by intro q; cases q)
  have n2 : @Ne Nat cA D := neOf (hh _ (.tail _ (.tail _ (.head _)))).1 g0 (by show oA.data ≠ _; rw [dA]; intro q; cases q)
  have n3 : @Ne Nat cI D := neOf (hh _ (.tail _ (.tail _ (.tail _ (.head _))))).1 g0 (by show oI.data ≠ _; rw [dI]; intro q; cases q)
  have n4 : @Ne Nat cN D := neOf (hh _ (.tail _ (.tail _ (.tail _ (.tail _ (.head _)))))).1 g0 (by show oN.data ≠ _; rw [dN]; intro q; cases q)
  have n5 : @Ne Nat c' D := neOf (hh _ (.tail _ (.tail _ (.tail _ (.tail _ (.tail _ (.head _))))))).1 g0 (by show oc'.data ≠ _; rw [dC]; intro q; cases q)
  refine' enter [(D, W.listOf vs.toArray c), (f, fnMade _ qual _ _ _ [("n", cN), ("inner", cI), ("a_digits", cA)] doc pm c' ctv), (cA, oA), (cI, oI), (cN, oN), (c', oc')] [("x", .int x tx), ("L", .int L tL), ("R", .int R tR)] G k hh ?k1 ?k2 ?k3 ?k4 ?k5 ?k6 ?k7 ?k8 ?k9 ?_
  case k1 => exact (hh _ (.tail _ (.head _))).1
  case k2 => exact ⟨c', oc', vsC, tC, rfl, (hh _ (.tail _ (.tail _ (.tail _ (.tail _ (.tail _ (.head _))))))).1, dC, vC⟩
  case k3 => show dp < recursionLimit; unfold recursionLimit; omega
  case k4 => exact BindsTo.of_eq rfl
  case k5 => exact locs rfl
  case k6 => decide
  case k7 => rfl
  case k8 => rfl
  case k9 => rfl
  intro bs L₁ h₁ eb F N G' hidlt
  have X := G'.X
  have T := G'.T
  have C1 := G'.C1
  k_unmd
  k_fold
  k_steps
  · -- one figure
    rename (_ : Int) = _ => e9
    rename Fr _ _ _ _ => F9
    rename News _ _ _ _ => N9
    rename IntsAre (List.set _ _ _) _ => I9
    have hRe : R = L + 1 := by omega
    subst hRe
    rw [Int.toNat_natCast] at N9 I9
    refine ⟨_, _, rfl, keptBut eb F9 (fun q hq => (hh q (.tail _ hq)).1) (fun q hq => (N9 q (.tail _ hq)).1), rfl, _, _, (N9 _ (.head _)).1, ?_⟩
    rw [← putD_one (by omega) (by simpa using hx)]
    exact I9
  · show Stop _
    unfold Stop
    have hne : Stop (@Ne Nat f D ∧ @Ne Nat cA D ∧ @Ne Nat cI D ∧ @Ne Nat cN D ∧ @Ne Nat c' D) := ⟨n1, n2, n3, n4, n5⟩
    clear n1 n2 n3 n4 n5
    rename (_ : Int) ≠ _ => e9
    have hM : L < (L + R) / 2 ∧ (L + R) / 2 < R := mid_of hLR e9
    clear e9
    refine rshift_int (by decide) ?_
    rw [fdiv_two]
    generalize hMe : (L + R) / 2 = M at hM ⊢
    k_steps
    show Stop _
    unfold Stop
    have hS : ((M : Int) - (L : Int)) * (n : Int) = (((M - L) * n : Nat) : Int) := by
      rw [Int.natCast_mul, cast_half hM]
    have hS2 : (M - L) * n ≤ 1024 := Nat.le_trans (Nat.mul_le_mul (half_64 hM hR hlen).1 hn2) (by decide)
    refine mul_int ?_ (IntMulOk.of_left (intBits_lt (half_64 hM hR hlen).2))
    rw [hS]
    generalize hSe : (M - L) * n = S at hS hS2 ⊢
    k_steps
    show Stop _
    unfold Stop
    refine rshift_int (by omega) ?_
    rw [fdiv_pow]
    k_steps
    show Stop _
    unfold Stop
    refine lshift_int_small (by omega) (by omega) (by rw [Int.natAbs_natCast]; exact Nat.lt_of_le_of_lt (Nat.div_le_self ..) (Nat.lt_trans hx2 (by decide))) ?_
    rw [mul_pow]
    k_steps
    show Stop _
    unfold Stop
    refine xor_int ?_
    rw [xor_low]
    k_steps
    show Stop _
    unfold Stop
    rename Fr _ _ _ _ => F9
    rename News _ _ _ _ => N9
    have hx3 : x % 2 ^ S < 2 ^ (n * (M - L)) := by rw [Nat.mul_comm n, hSe]; exact Nat.mod_lt _ (Nat.two_pow_pos _)
    refine useChg (dp + 2) (un + 8) F9 N9 (five hne) (ih (M - L - 1) (halves hLR hM).1.1 (dp := dp + 2) (un := un + 8) G' F9.keep (fun q hq => ⟨(N9 q hq).1, (N9 q hq).2.2⟩) hi (halves hLR hM).2.1.1 (Nat.le_trans (Nat.le_of_lt hM.2) hR) hlen hx3 (Nat.lt_of_le_of_lt (Nat.mod_le ..) hx2) (halves_room hd hu (halves hLR hM).2.2.2.1).1 (halves_room hd hu (halves hLR hM).2.2.2.1).2) rfl (by simp only [depth_deeper]; exact (room_up dp un).1) (by simp only [units_deeper]; exact (room_up dp un).2) ?_
    rintro _ h8 tk8 ⟨rfl, vs8, c8, e8, I8⟩ F8 N8 _
    have N8' := newsCons N9 e8 N8
    clear N8 N9 F9
    k_unmd
    (try dsimp only)
    k_steps
    show Stop _
    unfold Stop
    rename Fr _ _ _ _ => F9
    rename News _ _ _ _ => N9
    have hl8 : (putD ns L M n (x % 2 ^ S)).length = ns.length := putD_length (Nat.le_of_lt hM.1) (Nat.le_trans (Nat.le_of_lt hM.2) hR)
    have hx4 : x / 2 ^ S < 2 ^ (n * (R - M)) := by
      apply Nat.div_lt_of_lt_mul
      rw [← Nat.pow_add, ← hSe, Nat.mul_comm (M - L), ← Nat.mul_add, (halves hLR hM).2.2.1]
      exact hx
    refine useChg (dp + 2) (un + 8) F9 N9 (five hne) (ih (R - M - 1) (halves hLR hM).1.2 (dp := dp + 2) (un := un + 8) G' F9.keep (fun q hq => ⟨(N9 q hq).1, (N9 q hq).2.2⟩) I8 (halves hLR hM).2.1.2 (by rw [hl8]; exact hR) (by rw [hl8]; exact hlen) hx4 (Nat.lt_of_le_of_lt (Nat.div_le_self ..) hx2) (halves_room hd hu (halves hLR hM).2.2.2.2).1 (halves_room hd hu (halves hLR hM).2.2.2.2).2) rfl (by simp only [depth_deeper]; exact (room_up dp un).1) (by simp only [units_deeper]; exact (room_up dp un).2) ?_
    rintro _ h7 tk7 ⟨rfl, vs7, c7, e7, I7⟩ F7 N7 _
    have N7' := newsCons N9 e7 N7
    clear N7 N9 F9
    k_unmd
    (try dsimp only)
    k_steps
    rename Fr _ _ _ _ => F6
    rename News _ _ _ _ => N6
    rw [← hSe, putD_two (Nat.le_of_lt hM.1) (Nat.le_of_lt hM.2) hR] at I7
    exact ⟨_, _, rfl, keptBut eb F6 (fun q hq => (hh q (.tail _ hq)).1) (fun q hq => (N6 q (.tail _ hq)).1), rfl, _, _, (N6 _ (.head _)).1, I7⟩
end

end
-- part F6
section
theorem fresh_F6 : True := by w_top off; exact trivial
-- needs: B1 M2 F5
section
variable {w : World} {p : Program} {loose : List Str} {mean : ExcName → Option Value} {mg mb : Str → Option Value} {g : Heap} {E : Value → Shared → Prop} {s : Shared}
local macro_rules | `(tactic| walk_at "call ref") => `(tactic| refine Stop.mk ?_)
local macro_rules | `(tactic| walk_at "binaryOp FloorDiv int int") => `(tactic| refine Stop.mk ?_)

/-- the number of figures -/
def dlen (x n : Nat) : Nat := (Builtin.Int.intBits (x : Int) + n - 1) / n
theorem dlen_fdiv {x n : Nat} (hn : 1 ≤ n) : ((Builtin.Int.intBits (x : Int) : Int) + (n : Int) - 1).fdiv (n : Int) = ((dlen x n : Nat) : Int) := by
  rw [Int.fdiv_eq_ediv_of_nonneg _ (by omega), dlen]
  rw [Int.natCast_ediv]
  congr 1
  omega
theorem dlen_le {x n : Nat} (hn : 1 ≤ n) (hx : x < 2 ^ 60) : dlen x n ≤ 60 := by
  have h : Builtin.Int.intBits (x : Int) ≤ 60 := intBits_lt (k := 60) (by simpa using hx)
  unfold dlen
  rw [Nat.div_le_iff_le_mul_add_pred (by omega)]
  have : 60 ≤ n * 60 := Nat.le_mul_of_pos_left 60 (by omega)
  omega
theorem dlen_lt {x n : Nat} (hn : 1 ≤ n) : x < 2 ^ (n * dlen x n) := by
  have h : Builtin.Int.intBits (x : Int) ≤ n * dlen x n := by
    unfold dlen
    have := Nat.div_add_mod (Builtin.Int.intBits (x : Int) + n - 1) n
    have h2 := Nat.mod_lt (Builtin.Int.intBits (x : Int) + n - 1) (show 0 < n by omega)
    omega
  have := PySem.intBits_le_iff.mp h
  simpa using this

theorem news8 {b h : Heap} {L : Addr} {a0 a1 a2 a3 a4 a5 a6 a7 : Addr × Obj} (N : News b L h [a0, a1, a2, a3, a4, a5, a6, a7]) : News b L h [a1, a0, a4, a3, a5, a7] :=
  newsSub N (by
    intro q hq
    simp only [List.mem_cons, List.not_mem_nil, or_false] at hq ⊢
    rcases hq with h | h | h | h | h | h <;> simp [h])
theorem putD_all {n m x : Nat} : putD (List.replicate m 0) 0 m n x = digs n m x := by simp [putD]
theorem dlen_zero {n : Nat} (hn : 1 ≤ n) : dlen 0 n = 0 := by
  show (0 + n - 1) / n = 0
  exact Nat.div_eq_of_lt (by omega)

def q1 : Str := (Str.ofString "_int2digits" ++ ".<locals>.") ++ "inner"
theorem int2digits_hit {x n : Nat} {tx tn : Tok} {c' : Addr} {oc' : Obj} {vsC : Array Value} {tC : Tok} (G : Gd w p loose mean mg mb g) (k : ∀ b o, g.get? b = some o → s.heap.get? b = some o)
   (hP : s.heap.get? 57 = some (tabObj #[rawInt 79, rawInt 4, .ref c'])) (hg : g.get? 57 = none) (hC : s.heap.get? c' = some oc') (hgC : g.get? c' = none) (dC : oc'.data = .fields vsC) (vC : vsC[1]? = some (.str q1 tC)) (hx : x < 2 ^ 60) (hn : 1 ≤ n) (hn2 : n ≤ 16) :
 wpAny (model prog w) (Ad 440 1400) (call (.ref 62) [.int x tx, .int n tn]) (Ret s fun r h' => ∃ D us, r = .ref D ∧ s.heap.get? D = none ∧ (∃ c, h'.get? D = some (W.listOf us.toArray c)) ∧ IntsAre us (digs n (dlen x n) x)) E s := by
  refine' enterC [(57, tabObj #[rawInt 79, rawInt 4, .ref c']), (c', oc')] [("a", .int x tx), ("n", .int n tn)] G k ?k0 ?k1 ?k2 ?k3 ?k4 ?k5 ?k6 ?k7 ?k8 ?k9 ?_
  case k0 => exact List.forall_mem_cons.mpr ⟨⟨hP, hg⟩, List.forall_mem_cons.mpr ⟨⟨hC, hgC⟩, fun _ h => nomatch h⟩⟩
  case k1 => exact k _ _ (G.X _ _ (by k_is))
  case k2 => exact codeRec_of (G.X.keeps k) (by k_is)
  case k3 => decide
  case k4 => exact BindsTo.of_eq rfl
  case k5 => exact rfl
  case k6 => decide +kernel
  case k7 => rfl
  case k8 => rfl
  case k9 => rfl
  intro bs L h₁ tk1 cells eb F N Y G' hidlt
  have X := G'.X
  have T := G'.T
  have C1 := G'.C1
  obtain ⟨oI, oA, oN, rfl, dI, dA, dN⟩ := CellsAre.three Y
  clear Y
  replace dN : oN.data = .cell (some (.int n tn)) := dN
  replace dA : oA.data = .cell none := dA
  replace dI : oI.data = .cell none := dI
  have l57 : @LT.lt Nat _ 57 L := hidlt _ (.head _)
  have lc : @LT.lt Nat _ c' L := hidlt _ (.tail _ (.head _))
  have hdl := dlen_le hn hx
  simp only [List.cons_append, List.nil_append] at N
  k_unmd
  k_fold
  k_steps
  show Stop _
  unfold Stop
  refine floordiv_int (by omega) ?_ (Or.inl (PyProof.noPylong_small (by omega)))
  rw [dlen_fdiv hn]
  k_steps
  · show Stop _
    unfold Stop
    rename Fr _ _ _ _ => F9
    rename News _ _ _ _ => N9
    rename List.length (List.flatten _) = _ => e1
    rename IntsAre (List.flatten _) _ => I9
    rename ¬ _ => hx0
    simp only [Int.toNat_natCast, flat_rep, List.length_replicate] at e1 N9 I9
    subst e1
    have N8 := news8 N9
    have hd0 : 0 < dlen x n := by
      rcases Nat.eq_zero_or_pos (dlen x n) with h | h
      · exact absurd (show (x : Int) = 0 by have := dlen_lt (x := x) hn; rw [h] at this; simp at this; omega) hx0
      · exact h
    refine useChg 450 1600 F9 N8 ?_ (inner1_spec (by k_is) (by assumption) (by assumption) dN dC (by exact vC) hn hn2 (dlen x n - 1) (dp := 450) (un := 1600) (L := 0) G' F9.keep (fun q hq => ⟨(N8 q hq).1, (N8 q hq).2.2⟩) I9 (by omega) (by simp) (by simp; omega) (by rw [Nat.sub_zero]; exact dlen_lt hn) hx (by omega) (by omega)) rfl (by simp only [depth_deeper]; decide) (by simp only [units_deeper]; decide) ?_
    · k_all
    · rintro _ h8 tk8 ⟨rfl, vs8, c8, e8, I8⟩ F8 N7 hk8
      have N10 := newsCons N8 e8 N7
      have e57 : h8.get? 57 = some (tabObj #[rawInt 79, rawInt 4, .ref c']) := hk8 57 _ (by refine neN ?_; omega) (N9 (57, tabObj #[rawInt 79, rawInt 4, .ref c']) (by k_mem)).1
      have eC : h8.get? c' = some oc' := (N10 (c', oc') (by k_mem)).1
      clear N7 N8 N9 F9
      rw [putD_all] at I8
      k_unmd
      (try dsimp only)
      k_steps
      exact (show Ret s _ (.ref _) _ from ⟨⟨_, vs8, rfl, freshOf eb F8 (by omega), ⟨_, e8⟩, I8⟩, ⟨_, _, rfl, keptHid eb F8 (List.forall_mem_cons.mpr ⟨hP, List.forall_mem_cons.mpr ⟨hC, fun _ h => nomatch h⟩⟩) (List.forall_mem_cons.mpr ⟨e57, List.forall_mem_cons.mpr ⟨eC, fun _ h => nomatch h⟩⟩)⟩⟩)
  · rename Fr _ _ _ _ => F9
    rename News _ _ _ _ => N9
    rename List.length (List.flatten _) = _ => e1
    rename IntsAre (List.flatten _) _ => I9
    rename (_ : Int) = 0 => hx0
    have hx1 : x = 0 := by omega
    subst hx1
    simp only [Int.toNat_natCast, flat_rep, List.length_replicate] at e1 N9 I9
    rw [dlen_zero hn] at N9 I9
    exact (show Ret s _ (.ref _) _ from ⟨⟨_, [], rfl, freshOf eb F9 (by omega), ⟨_, (N9 _ (.tail _ (.head _))).1⟩, by rw [dlen_zero hn]; exact .nil⟩, ⟨_, _, rfl, keptHid eb F9 (List.forall_mem_cons.mpr ⟨hP, List.forall_mem_cons.mpr ⟨hC, fun _ h => nomatch h⟩⟩) (List.forall_mem_cons.mpr ⟨(N9 (57, tabObj #[rawInt 79, rawInt 4, .ref c']) (by k_mem)).1, List.forall_mem_cons.mpr ⟨(N9 (c', oc') (by k_mem)).1, fun _ h => nomatch h⟩⟩)⟩⟩)

theorem int2digits_first {n : Nat} {tx tn : Tok} (G : Gd w p loose mean mg mb g) (k : ∀ b o, g.get? b = some o → s.heap.get? b = some o)
   (hP : s.heap.get? 57 = some (tabObj #[])) (hg : g.get? 57 = none) (hn : 1 ≤ n) (hn2 : n ≤ 16) :
 wpAny (model prog w) (Ad 440 1400) (call (.ref 62) [.int 0 tx, .int n tn]) (Chg 57 s fun r h' => ∃ D c' oc' vsC tC, r = .ref D ∧ s.heap.get? D = none ∧ (∃ c, h'.get? D = some (W.listOf #[] c)) ∧
    h'.get? 57 = some (tabObj #[rawInt 79, rawInt 4, .ref c']) ∧ h'.get? c' = some oc' ∧ s.heap.get? c' = none ∧ oc'.data = .fields vsC ∧ vsC[1]? = some (.str q1 tC) ∧ @Ne Nat D c') E s := by
  refine' enterC [(57, tabObj #[])] [("a", .int 0 tx), ("n", .int n tn)] G k ?k0 ?k1 ?k2 ?k3 ?k4 ?k5 ?k6 ?k7 ?k8 ?k9 ?_
  case k0 => exact List.forall_mem_cons.mpr ⟨⟨hP, hg⟩, fun _ h => nomatch h⟩
  case k1 => exact k _ _ (G.X _ _ (by k_is))
  case k2 => exact codeRec_of (G.X.keeps k) (by k_is)
  case k3 => decide
  case k4 => exact BindsTo.of_eq rfl
  case k5 => exact rfl
  case k6 => decide +kernel
  case k7 => rfl
  case k8 => rfl
  case k9 => rfl
  intro bs L h₁ tk1 cells eb F N Y G' hidlt
  have X := G'.X
  have T := G'.T
  have C1 := G'.C1
  obtain ⟨oI, oA, oN, rfl, dI, dA, dN⟩ := CellsAre.three Y
  clear Y
  replace dN : oN.data = .cell (some (.int n tn)) := dN
  replace dA : oA.data = .cell none := dA
  replace dI : oI.data = .cell none := dI
  have l57 : @LT.lt Nat _ 57 L := hidlt _ (.head _)
  have hd0 : ((Builtin.Int.intBits 0 : Int) + (n : Int) - 1).fdiv (n : Int) = ((0 : Nat) : Int) := by
    have := dlen_fdiv (x := 0) hn
    rw [dlen_zero hn] at this
    exact this
  simp only [List.cons_append, List.nil_append] at N
  k_unmd
  k_fold
  k_steps
  show Stop _
  unfold Stop
  refine floordiv_int (by omega) ?_ (Or.inl (PyProof.noPylong_small (by omega)))
  rw [hd0]
  k_steps
  rename Fr _ _ _ _ => F9
  rename News _ _ _ _ => N9
  rename _ = Data.fields _ => dC
  rename _ = some (Value.str _ _) => vC
  rename IntsAre (List.flatten _) _ => I9
  have nD := (N9 _ (.tail _ (.tail _ (.head _)))).1
  have nC := (N9 _ (.tail _ (.head _))).1
  have nT := (N9 _ (.tail _ (.tail _ (.tail _ (.tail _ (.tail _ (.tail _ (.tail _ (.head _))))))))).1
  exact (show Chg 57 s _ (.ref _) _ from ⟨_, _, rfl, keptBut eb F9 (fun _ h => nomatch h) (fun _ h => nomatch h), _, _, _, _, _, rfl, freshOf eb F9 (by omega), ⟨_, nD⟩, nT, nC, freshOf eb F9 (by omega), dC, vC, by refine neN ?_; omega⟩)
end

end
-- part F7
section
theorem fresh_F7 : True := by w_top off; exact trivial
-- needs: B1 M2 F5
section
variable {w : World} {p : Program} {loose : List Str} {mean : ExcName → Option Value} {mg mb : Str → Option Value} {g : Heap} {E : Value → Shared → Prop} {s : Shared}
local macro_rules | `(tactic| walk_at "call ref") => `(tactic| refine Stop.mk ?_)
local macro_rules | `(tactic| walk_at "binaryOp RShift int int") => `(tactic| refine Stop.mk ?_)
local macro_rules | `(tactic| walk_at "binaryOp LShift int int") => `(tactic| refine Stop.mk ?_)
local macro_rules | `(tactic| walk_at "binaryOp Mult int int") => `(tactic| refine Stop.mk ?_)

theorem getD_cast (ns : List Nat) (i : Nat) : (ns.map fun (d : Nat) => (d : Int)).getD i 0 = ((ns.getD i 0 : Nat) : Int) := by
  simp only [List.getD_eq_getElem?_getD, List.getElem?_map]
  cases ns[i]? <;> rfl

theorem inner2_spec {nm q62 : Str} {p62 psn : Arguments} {rest : List Stmt} {bd : List Stmt} {sc sc62 : Scope} {ds : List PySem.Expr} {ret : Option PySem.Expr} {tps : List TypeParam} {ts : Option Scope} {bnd n62 : Str} {ps : Pos} {oc dV kV doc62 pm62 cd62 ct62 : Value} {an od : Option Addr} {osl : Array (Option Value)} {cl62 : List (Str × Addr)}
   (hK : (hd.heap_39 w.params).lookup 69 = some ⟨oc, od, .func (fnX n62 q62 p62 (.FunctionDef nm psn bd ds ret tps sc ts bnd ps :: rest) sc62 cl62 dV kV doc62 pm62 an cd62 ct62), osl⟩)
   {f D cA cI cN c' : Addr} {qual : Str} {doc pm ctv : Value} {n tn : Nat} {oA oI oN oc' : Obj} (dA : oA.data = .cell (some (.ref D))) (dI : oI.data = .cell (some (.ref f))) (dN : oN.data = .cell (some (.int (n : Int) tn)))
   {vsC : Array Value} {tC : Tok} (dC : oc'.data = .fields vsC) (vC : vsC[1]? = some (.str qual tC)) (hn2 : n ≤ 16)
   {vs : List Value} {ns : List Nat} (hi : IntsAre vs (ns.map fun (d : Nat) => (d : Int))) (hlen : ns.length ≤ 64) (hds : ∀ d ∈ ns, d < 2 ^ n)
   : ∀ (d : Nat) {E : Value → Shared → Prop} {g : Heap} (_ : Gd w p loose mean mg mb g) {s : Shared} {dp un : Nat} {L R : Nat} {tL tR : Tok} (_ : ∀ b o, g.get? b = some o → s.heap.get? b = some o)
   (_ : ∀ q ∈ [(f, fnMade nm qual psn bd sc [("n", cN), ("inner", cI), ("digits", cA)] doc pm c' ctv), (cA, oA), (cI, oI), (cN, oN), (c', oc')], s.heap.get? q.1 = some q.2 ∧ g.get? q.1 = none)
   (_ : s.heap.IsList D vs.toArray) (_ : R - L = d + 1) (_ : R ≤ ns.length) (_ : n * (R - L) ≤ 60) (_ : dp + 2 * (R - L) ≤ 700) (_ : un + 10 * (R - L) ≤ 4000),
 wpAny (model prog w) (Ad dp un) (call (.ref f) [.int L tL, .int R tR]) (Ret s fun r _ => ∃ t, r = .int (val n (seg ns L R) : Nat) t) E s := by
  have e := hK.symm.trans (by k_is : (hd.heap_39 w.params).lookup 69 = some _)
  cases e
  intro d
  induction d using Nat.strongRecOn with
  | _ d ih =>
  intro E g G s dp un L R tL tR k hh hl hLR hR hnn hd hu
  obtain ⟨oD, gD, cD, kD, dD⟩ := id hl
  have n1 : @Ne Nat f D := neOf (hh _ (.head _)).1 gD (by rw [dD]; intro q; cases q)
  have n2 : @Ne Nat cA D := neOf (hh _ (.tail _ (.head _))).1 gD (by show oA.data ≠ _; rw [dA, dD]; intro q; cases q)
  have n3 : @Ne Nat cI D := neOf (hh _ (.tail _ (.tail _ (.head _)))).1 gD (by show oI.data ≠ _; rw [dI, dD]; intro q; cases q)
  have n4 : @Ne Nat cN D := neOf (hh _ (.tail _ (.tail _ (.tail _ (.head _))))).1 gD (by show oN.data ≠ _; rw [dN, dD]; intro q; cases q)
  have n5 : @Ne Nat c' D := neOf (hh _ (.tail _ (.tail _ (.tail _ (.tail _ (.head _)))))).1 gD (by show oc'.data ≠ _; rw [dC, dD]; intro q; cases q)
  refine' enter [(f, fnMade _ qual _ _ _ [("n", cN), ("inner", cI), ("digits", cA)] doc pm c' ctv), (cA, oA), (cI, oI), (cN, oN), (c', oc')] [("L", .int L tL), ("R", .int R tR)] G k hh ?k1 ?k2 ?k3 ?k4 ?k5 ?k6 ?k7 ?k8 ?k9 ?_
  case k1 => exact (hh _ (.head _)).1
  case k2 => exact ⟨c', oc', vsC, tC, rfl, (hh _ (.tail _ (.tail _ (.tail _ (.tail _ (.head _)))))).1, dC, vC⟩
  case k3 => show dp < recursionLimit; unfold recursionLimit; omega
  case k4 => exact BindsTo.of_eq rfl
  case k5 => exact locs rfl
  case k6 => decide
  case k7 => rfl
  case k8 => rfl
  case k9 => rfl
  intro bs L₁ h₁ eb F N G' hidlt
  have hl' : bs.IsList D vs.toArray := ⟨oD, by rw [eb]; exact hideAll_get _ gD (by
    intro hm; simp only [List.map_cons, List.map_nil, List.mem_cons, List.not_mem_nil, or_false] at hm
    rcases hm with h | h | h | h | h
    · exact n1 h.symm
    · exact n2 h.symm
    · exact n3 h.symm
    · exact n4 h.symm
    · exact n5 h.symm), cD, kD, dD⟩
  clear n1 n2 n3 n4 n5
  have X := G'.X
  have T := G'.T
  have C1 := G'.C1
  have hlm : (ns.map fun (d : Nat) => (d : Int)).length = ns.length := by simp
  k_unmd
  k_fold
  k_steps
  · rename (_ : Int) = _ => e9
    have hRe : R = L + 1 := by omega
    subst hRe
    rw [Int.toNat_natCast, getD_cast]
    have hv : val n (seg ns L (L + 1)) = ns.getD L 0 := by rw [seg_one (by omega)]; simp [val]
    rw [← hv]
    exact (show Ret s _ (.int _ _) _ from ⟨⟨_, rfl⟩, ⟨_, _, rfl, keptHid eb F (fun q hq => (hh q hq).1) (fun q hq => (N q hq).1)⟩⟩)
  · show Stop _
    unfold Stop
    rename (_ : Int) ≠ _ => e9
    have hM : L < (L + R) / 2 ∧ (L + R) / 2 < R := mid_of hLR e9
    clear e9
    refine rshift_int (by decide) ?_
    rw [fdiv_two]
    generalize hMe : (L + R) / 2 = M at hM ⊢
    have hb1 : val n (seg ns M R) < 2 ^ 60 := by
      have h1 := val_lt (n := n) (a := seg ns M R) fun d hd => hds d (seg_mem hd)
      rw [seg_length (Nat.le_of_lt hM.2) hR] at h1
      have h2 : n * (R - M) ≤ n * (R - L) := Nat.mul_le_mul_left n (Nat.le_of_lt (halves hLR hM).2.2.2.2)
      exact Nat.lt_of_lt_of_le h1 (Nat.pow_le_pow_right (by decide) (Nat.le_trans h2 hnn))
    have hnn1 : n * (R - M) ≤ 60 := Nat.le_trans (Nat.mul_le_mul_left n (Nat.le_of_lt (halves hLR hM).2.2.2.2)) hnn
    have hnn2 : n * (M - L) ≤ 60 := Nat.le_trans (Nat.mul_le_mul_left n (Nat.le_of_lt (halves hLR hM).2.2.2.1)) hnn
    k_steps
    show Stop _
    unfold Stop
    have hS : ((M : Int) - (L : Int)) * (n : Int) = (((M - L) * n : Nat) : Int) := by
      rw [Int.natCast_mul, cast_half hM]
    have hS2 : (M - L) * n ≤ 1024 := Nat.le_trans (Nat.mul_le_mul (half_64 hM hR hlen).1 hn2) (by decide)
    refine mul_int ?_ (IntMulOk.of_left (intBits_lt (half_64 hM hR hlen).2))
    rw [hS]
    generalize hSe : (M - L) * n = S at hS hS2 ⊢
    k_steps
    show Stop _
    unfold Stop
    rename Fr _ _ _ _ => F9
    rename News _ _ _ _ => N9
    refine use (dp + 2) (un + 8) F9 N9 (ih (R - M - 1) (halves hLR hM).1.2 (dp := dp + 2) (un := un + 8) G' F9.keep (fun q hq => ⟨(N9 q hq).1, (N9 q hq).2.2⟩) (hl'.at fun o e => F9.keep _ o e) (halves hLR hM).2.1.2 hR hnn1 (halves_room hd hu (halves hLR hM).2.2.2.2).1 (halves_room hd hu (halves hLR hM).2.2.2.2).2) rfl (by simp only [depth_deeper]; exact (room_up dp un).1) (by simp only [units_deeper]; exact (room_up dp un).2) ?_
    rintro _ h8 tk8 ⟨t8, rfl⟩ F8 N8 _
    clear F9 N9
    k_unmd
    (try dsimp only)
    k_steps
    show Stop _
    unfold Stop
    refine lshift_int_small (by omega) (by omega) (by rw [Int.natAbs_natCast]; exact Nat.lt_trans hb1 (by decide)) ?_
    rw [mul_pow]
    k_steps
    show Stop _
    unfold Stop
    rename Fr _ _ _ _ => F9
    rename News _ _ _ _ => N9
    refine use (dp + 2) (un + 8) F9 N9 (ih (M - L - 1) (halves hLR hM).1.1 (dp := dp + 2) (un := un + 8) G' F9.keep (fun q hq => ⟨(N9 q hq).1, (N9 q hq).2.2⟩) (hl'.at fun o e => F9.keep _ o e) (halves hLR hM).2.1.1 (Nat.le_trans (Nat.le_of_lt hM.2) hR) hnn2 (halves_room hd hu (halves hLR hM).2.2.2.1).1 (halves_room hd hu (halves hLR hM).2.2.2.1).2) rfl (by simp only [depth_deeper]; exact (room_up dp un).1) (by simp only [units_deeper]; exact (room_up dp un).2) ?_
    rintro _ h7 tk7 ⟨t7, rfl⟩ F7 N7 _
    clear F9 N9
    k_unmd
    (try dsimp only)
    k_steps
    rename Fr _ _ _ _ => F6
    rename News _ _ _ _ => N6
    have hv := val_two (n := n) (Nat.le_of_lt hM.1) (Nat.le_of_lt hM.2) hR
    rw [hSe] at hv
    rw [← Int.natCast_add, hv]
    exact (show Ret s _ (.int _ _) _ from ⟨⟨_, rfl⟩, ⟨_, _, rfl, keptHid eb F6 (fun q hq => (hh q hq).1) (fun q hq => (N6 q hq).1)⟩⟩)
end

end
-- part F8
section
theorem fresh_F8 : True := by w_top off; exact trivial
-- needs: B1 M2 F5 F7
section
variable {w : World} {p : Program} {loose : List Str} {mean : ExcName → Option Value} {mg mb : Str → Option Value} {g : Heap} {E : Value → Shared → Prop} {s : Shared}
local macro_rules | `(tactic| walk_at "call ref") => `(tactic| refine Stop.mk ?_)

theorem news6 {b h : Heap} {L : Addr} {a0 a1 a2 a3 a4 a5 : Addr × Obj} (N : News b L h [a0, a1, a2, a3, a4, a5]) : News b L h [a0, a3, a1, a2, a5] :=
  newsSub N (by
    intro q hq
    simp only [List.mem_cons, List.not_mem_nil, or_false] at hq ⊢
    rcases hq with h | h | h | h | h <;> simp [h])
theorem news6' {b h : Heap} {L : Addr} {a0 a1 a2 a3 a4 a5 : Addr × Obj} (N : News b L h [a0, a1, a2, a3, a4, a5]) : News b L h [a0, a4, a2, a3, a1] :=
  newsSub N (by
    intro q hq
    simp only [List.mem_cons, List.not_mem_nil, or_false] at hq ⊢
    rcases hq with h | h | h | h | h <;> simp [h])
def q2 : Str := (Str.ofString "_digits2int" ++ ".<locals>.") ++ "inner"
theorem digits2int_hit {n : Nat} {tn : Tok} {D c' : Addr} {oc' : Obj} {vsC : Array Value} {tC : Tok} {vs : List Value} {ns : List Nat} (G : Gd w p loose mean mg mb g) (k : ∀ b o, g.get? b = some o → s.heap.get? b = some o)
   (hP : s.heap.get? 64 = some (tabObj #[rawInt 94, rawInt 4, .ref c'])) (hg : g.get? 64 = none) (hC : s.heap.get? c' = some oc') (hgC : g.get? c' = none) (dC : oc'.data = .fields vsC) (vC : vsC[1]? = some (.str q2 tC))
   (hl : s.heap.IsList D vs.toArray) (hi : IntsAre vs (ns.map fun (d : Nat) => (d : Int))) (hlen : ns.length ≤ 64) (hds : ∀ d ∈ ns, d < 2 ^ n) (hn2 : n ≤ 16) (hnn : n * ns.length ≤ 60) :
 wpAny (model prog w) (Ad 440 1400) (call (.ref 69) [.ref D, .int n tn]) (Ret s fun r _ => ∃ t, r = .int (val n ns : Nat) t) E s := by
  refine' enterC [(64, tabObj #[rawInt 94, rawInt 4, .ref c']), (c', oc')] [("digits", .ref D), ("n", .int n tn)] G k ?k0 ?k1 ?k2 ?k3 ?k4 ?k5 ?k6 ?k7 ?k8 ?k9 ?_
  case k0 => exact List.forall_mem_cons.mpr ⟨⟨hP, hg⟩, List.forall_mem_cons.mpr ⟨⟨hC, hgC⟩, fun _ h => nomatch h⟩⟩
  case k1 => exact k _ _ (G.X _ _ (by k_is))
  case k2 => exact codeRec_of (G.X.keeps k) (by k_is)
  case k3 => decide
  case k4 => exact BindsTo.of_eq rfl
  case k5 => exact rfl
  case k6 => decide +kernel
  case k7 => rfl
  case k8 => rfl
  case k9 => rfl
  intro bs L h₁ tk1 cells eb F N Y G' hidlt
  obtain ⟨oD, gD, cD, kD, dD⟩ := id hl
  have m1 := neOf hP gD (by rw [dD]; intro q; cases q)
  have m2 := neOf hC gD (by rw [dC, dD]; intro q; cases q)
  have hl' : bs.IsList D vs.toArray := ⟨oD, by rw [eb]; exact hideAll_get _ gD (by
    intro hm; simp only [List.map_cons, List.map_nil, List.mem_cons, List.not_mem_nil, or_false] at hm
    rcases hm with h | h
    · exact m1 h.symm
    · exact m2 h.symm), cD, kD, dD⟩
  have hlm : (ns.map fun (d : Nat) => (d : Int)).length = ns.length := by simp
  have X := G'.X
  have T := G'.T
  have C1 := G'.C2
  obtain ⟨oI, oN, oA, rfl, dI, dN, dA⟩ := CellsAre.three Y
  clear Y
  replace dN : oN.data = .cell (some (.int n tn)) := dN
  replace dA : oA.data = .cell (some (.ref D)) := dA
  replace dI : oI.data = .cell none := dI
  have l57 : @LT.lt Nat _ 64 L := hidlt _ (.head _)
  have lc : @LT.lt Nat _ c' L := hidlt _ (.tail _ (.head _))
  simp only [List.cons_append, List.nil_append] at N
  k_unmd
  k_fold
  k_steps
  · show Stop _
    unfold Stop
    rename Fr _ _ _ _ => F9
    rename News _ _ _ _ => N9
    rename 0 < _ => hpos
    rw [hlm] at hpos ⊢
    have N8 := news6 N9
    refine use 450 1600 F9 N9 (inner2_spec (by k_is) (D := D) dA (by assumption) dN dC (by exact vC) hn2 hi hlen hds (ns.length - 1) (dp := 450) (un := 1600) (L := 0) G' F9.keep (fun q hq => ⟨(N8 q hq).1, (N8 q hq).2.2⟩) (hl'.at fun o e => F9.keep _ o e) (by omega) (Nat.le_refl _) (by rw [Nat.sub_zero]; exact hnn) (by omega) (by omega)) rfl (by simp only [depth_deeper]; decide) (by simp only [units_deeper]; decide) ?_
    rintro _ h8 tk8 ⟨t8, rfl⟩ F8 N7 hk8
    rw [seg_all]
    clear F9 N9
    exact (show Ret s _ (.int _ _) _ from ⟨⟨_, rfl⟩, ⟨_, _, rfl, keptHid eb F8 (List.forall_mem_cons.mpr ⟨hP, List.forall_mem_cons.mpr ⟨hC, fun _ h => nomatch h⟩⟩) (List.forall_mem_cons.mpr ⟨(N7 (64, tabObj #[rawInt 94, rawInt 4, .ref c']) (by k_mem)).1, List.forall_mem_cons.mpr ⟨(N7 (c', oc') (by k_mem)).1, fun _ h => nomatch h⟩⟩)⟩⟩)
  · rename Fr _ _ _ _ => F9
    rename News _ _ _ _ => N9
    rename ¬ _ => h0
    have hn0 : ns = [] := by cases ns with | nil => rfl | cons a r => exact absurd (by simp) h0
    subst hn0
    exact (show Ret s _ (.int _ _) _ from ⟨⟨_, rfl⟩, ⟨_, _, rfl, keptHid eb F9 (List.forall_mem_cons.mpr ⟨hP, List.forall_mem_cons.mpr ⟨hC, fun _ h => nomatch h⟩⟩) (List.forall_mem_cons.mpr ⟨(N9 (64, tabObj #[rawInt 94, rawInt 4, .ref c']) (by k_mem)).1, List.forall_mem_cons.mpr ⟨(N9 (c', oc') (by k_mem)).1, fun _ h => nomatch h⟩⟩)⟩⟩)

theorem digits2int_first {n : Nat} {tn : Tok} {D : Addr} {vs : List Value} {ns : List Nat} (G : Gd w p loose mean mg mb g) (k : ∀ b o, g.get? b = some o → s.heap.get? b = some o)
   (hP : s.heap.get? 64 = some (tabObj #[])) (hg : g.get? 64 = none)
   (hl : s.heap.IsList D vs.toArray) (hi : IntsAre vs (ns.map fun (d : Nat) => (d : Int))) (hlen : ns.length ≤ 64) (hds : ∀ d ∈ ns, d < 2 ^ n) (hn2 : n ≤ 16) (hnn : n * ns.length ≤ 60) :
 wpAny (model prog w) (Ad 440 1400) (call (.ref 69) [.ref D, .int n tn]) (Chg 64 s fun r h' => (∃ t, r = .int (val n ns : Nat) t) ∧ ∃ c' oc' vsC tC,
    h'.get? 64 = some (tabObj #[rawInt 94, rawInt 4, .ref c']) ∧ h'.get? c' = some oc' ∧ s.heap.get? c' = none ∧ oc'.data = .fields vsC ∧ vsC[1]? = some (.str q2 tC)) E s := by
  refine' enterC [(64, tabObj #[])] [("digits", .ref D), ("n", .int n tn)] G k ?k0 ?k1 ?k2 ?k3 ?k4 ?k5 ?k6 ?k7 ?k8 ?k9 ?_
  case k0 => exact List.forall_mem_cons.mpr ⟨⟨hP, hg⟩, fun _ h => nomatch h⟩
  case k1 => exact k _ _ (G.X _ _ (by k_is))
  case k2 => exact codeRec_of (G.X.keeps k) (by k_is)
  case k3 => decide
  case k4 => exact BindsTo.of_eq rfl
  case k5 => exact rfl
  case k6 => decide +kernel
  case k7 => rfl
  case k8 => rfl
  case k9 => rfl
  intro bs L h₁ tk1 cells eb F N Y G' hidlt
  obtain ⟨oD, gD, cD, kD, dD⟩ := id hl
  have m1 := neOf hP gD (by rw [dD]; intro q; cases q)
  have hl' : bs.IsList D vs.toArray := ⟨oD, by rw [eb]; exact hideAll_get _ gD (by
    intro hm; simp only [List.map_cons, List.map_nil, List.mem_cons, List.not_mem_nil, or_false] at hm
    exact m1 hm.symm), cD, kD, dD⟩
  have hlm : (ns.map fun (d : Nat) => (d : Int)).length = ns.length := by simp
  have X := G'.X
  have T := G'.T
  have C1 := G'.C2
  obtain ⟨oI, oN, oA, rfl, dI, dN, dA⟩ := CellsAre.three Y
  clear Y
  replace dN : oN.data = .cell (some (.int n tn)) := dN
  replace dA : oA.data = .cell (some (.ref D)) := dA
  replace dI : oI.data = .cell none := dI
  have l57 : @LT.lt Nat _ 64 L := hidlt _ (.head _)
  simp only [List.cons_append, List.nil_append] at N
  k_unmd
  k_fold
  k_steps
  · show Stop _
    unfold Stop
    rename Fr _ _ _ _ => F9
    rename News _ _ _ _ => N9
    rename 0 < _ => hpos
    rename _ = Data.fields _ => dC
    rename _ = some (Value.str _ _) => vC
    rw [hlm] at hpos ⊢
    have N8 := news6' N9
    refine use 450 1600 F9 N9 (inner2_spec (by k_is) (D := D) dA (by assumption) dN dC vC hn2 hi hlen hds (ns.length - 1) (dp := 450) (un := 1600) (L := 0) G' F9.keep (fun q hq => ⟨(N8 q hq).1, (N8 q hq).2.2⟩) (hl'.at fun o e => F9.keep _ o e) (by omega) (Nat.le_refl _) (by rw [Nat.sub_zero]; exact hnn) (by omega) (by omega)) rfl (by simp only [depth_deeper]; decide) (by simp only [units_deeper]; decide) ?_
    rintro _ h8 tk8 ⟨t8, rfl⟩ F8 N7 hk8
    rw [seg_all]
    clear F9 N9
    have nC := (N7 _ (.tail _ (.head _))).1
    have nT := (N7 _ (.tail _ (.tail _ (.tail _ (.tail _ (.tail _ (.head _))))))).1
    exact (show Chg 64 s _ (.int _ _) _ from ⟨_, _, rfl, keptBut eb F8 (fun _ h => nomatch h) (fun _ h => nomatch h), ⟨_, rfl⟩, _, _, _, _, nT, nC, freshOf eb F8 (by omega), dC, vC⟩)
  · rename Fr _ _ _ _ => F9
    rename News _ _ _ _ => N9
    rename ¬ _ => h0
    rename _ = Data.fields _ => dC
    rename _ = some (Value.str _ _) => vC
    have hn0 : ns = [] := by cases ns with | nil => rfl | cons a r => exact absurd (by simp) h0
    subst hn0
    have nC := (N9 _ (.tail _ (.head _))).1
    have nT := (N9 _ (.tail _ (.tail _ (.tail _ (.tail _ (.tail _ (.head _))))))).1
    exact (show Chg 64 s _ (.int _ _) _ from ⟨_, _, rfl, keptBut eb F9 (fun _ h => nomatch h) (fun _ h => nomatch h), ⟨_, rfl⟩, _, _, _, _, nT, nC, freshOf eb F9 (by omega), dC, vC⟩)
end

end
-- part F9
section
theorem fresh_F9 : True := by w_top off; exact trivial
-- needs: B1 M2 F1 F5 F6 F7 F8
section
variable {w : World} {p : Program} {loose : List Str} {mean : ExcName → Option Value} {mg mb : Str → Option Value} {g : Heap} {E : Value → Shared → Prop} {s : Shared}
local macro_rules | `(tactic| walk_at "call ref") => `(tactic| refine Stop.mk ?_)
local macro_rules | `(tactic| walk_at "pyIter ref") => `(tactic| refine Stop.mk ?_)
local macro_rules | `(tactic| walk_at "binaryOp LShift int int") => `(tactic| refine Stop.mk ?_)

/-- a def's table of codes is filled -/
def Tb (g h : Heap) (P : Addr) (line : Int) (q : Str) : Prop :=
  g.get? P = none ∧ ∃ c' oc' vs t, h.get? P = some (tabObj #[rawInt line, rawInt 4, .ref c']) ∧ h.get? c' = some oc' ∧ g.get? c' = none ∧ oc'.data = .fields vs ∧ vs[1]? = some (.str q t)
theorem Tb.keeps {g h h' : Heap} {P : Addr} {line : Int} {q : Str} (x : Tb g h P line q) (k : ∀ b o, h.get? b = some o → h'.get? b = some o) : Tb g h' P line q :=
  let ⟨a, c', oc', vs, t, e1, e2, r⟩ := x; ⟨a, c', oc', vs, t, k _ _ e1, k _ _ e2, r⟩

theorem dlen_mul {x n k : Nat} (hx : x < 2 ^ k) : n * dlen x n ≤ k + n := by
  have h : Builtin.Int.intBits (x : Int) ≤ k := intBits_lt (by simpa using hx)
  unfold dlen
  have := Nat.mul_div_le (Builtin.Int.intBits (x : Int) + n - 1) n
  omega

theorem int2digits_spec {x n : Nat} {tx tn : Tok} (G : Gd w p loose mean mg mb g) (k : ∀ b o, g.get? b = some o → s.heap.get? b = some o) (B : Tb g s.heap 57 79 q1) (hx : x < 2 ^ 60) (hn : 1 ≤ n) (hn2 : n ≤ 16) :
 wpAny (model prog w) (Ad 440 1400) (call (.ref 62) [.int x tx, .int n tn]) (Ret s fun r h' => ∃ D us, r = .ref D ∧ s.heap.get? D = none ∧ (∃ c, h'.get? D = some (W.listOf us.toArray c)) ∧ IntsAre us ((digsN n (dlen x n) x).map fun (d : Nat) => (d : Int))) E s := by
  obtain ⟨hg, c', oc', vs, t, e1, e2, e3, e4, e5⟩ := B
  rw [← digs_cast]
  exact int2digits_hit G k e1 hg e2 e3 e4 e5 hx hn hn2
theorem digits2int_spec {n : Nat} {tn : Tok} {D : Addr} {vs : List Value} {ns : List Nat} (G : Gd w p loose mean mg mb g) (k : ∀ b o, g.get? b = some o → s.heap.get? b = some o) (B : Tb g s.heap 64 94 q2)
   (hl : s.heap.IsList D vs.toArray) (hi : IntsAre vs (ns.map fun (d : Nat) => (d : Int))) (hlen : ns.length ≤ 64) (hds : ∀ d ∈ ns, d < 2 ^ n) (hn2 : n ≤ 16) (hnn : n * ns.length ≤ 60) :
 wpAny (model prog w) (Ad 440 1400) (call (.ref 69) [.ref D, .int n tn]) (Ret s fun r _ => ∃ t, r = .int (val n ns : Nat) t) E s := by
  obtain ⟨hg, c', oc', vs, t, e1, e2, e3, e4, e5⟩ := B
  exact digits2int_hit G k e1 hg e2 e3 e4 e5 hl hi hlen hds hn2 hnn

def DmInv (b n : Nat) (tb : Tok) (ds : List Nat) (i : Nat) (m : Str → Option Value) (nx : List (Addr × Obj)) : Prop :=
  ∃ (Dq : Addr) (vs : List Value) (c : Nat) (qs : List Nat) (tn tr : Tok), nx = [(Dq, W.listOf vs.toArray c)] ∧ IntsAre vs (qs.map fun (d : Nat) => (d : Int)) ∧ qs.length = i ∧ (∀ q ∈ qs, q < 2 ^ n) ∧
    m "q_digits" = some (.ref Dq) ∧ m "b" = some (.int b tb) ∧ m "n" = some (.int n tn) ∧ m "r" = some (.int (horner b n (ds.reverse.take i) : Nat) tr)

theorem divmod_pos_spec {a b : Nat} {ta tb : Tok} (G : Gd w p loose mean mg mb g) (k : ∀ b o, g.get? b = some o → s.heap.get? b = some o) (B1 : Tb g s.heap 57 79 q1) (B2 : Tb g s.heap 64 94 q2)
   (ha : a < 2 ^ 40) (hb : 0 < b) (hb2 : b < 2 ^ 16) :
 wpAny (model prog w) (Ad 430 1300) (call (.ref 76) [.int a ta, .int b tb]) (Ret s fun r h' => ∃ l t1 t2 q, r = .ref l ∧ s.heap.get? l = none ∧ h'.get? l = some { cls := .type "tuple", data := .seq #[.int q t1, .int ((a % b : Nat) : Int) t2] }) E s := by
  refine' enter [] [("a", .int a ta), ("b", .int b tb)] G k ?k0 ?k1 ?k2 ?k3 ?k4 ?k5 ?k6 ?k7 ?k8 ?k9 ?_
  walk_at "gf enter"
  rw [nil_eq eb] at F N X T G'
  have hbits : Builtin.Int.intBits (b : Int) ≤ 16 := intBits_lt (k := 16) (by simpa using hb2)
  have hnb : b < 2 ^ Builtin.Int.intBits (b : Int) := by simpa using PySem.intBits_le_iff.mp (Nat.le_refl (Builtin.Int.intBits (b : Int)))
  have hnb1 : 1 ≤ Builtin.Int.intBits (b : Int) := by
    rcases Nat.eq_zero_or_pos (Builtin.Int.intBits (b : Int)) with h | h
    · rw [h] at hnb; simp at hnb; omega
    · exact h
  k_steps
  generalize Builtin.Int.intBits (b : Int) = n at *
  show Stop _
  unfold Stop
  rename Fr _ _ _ _ => F9
  rename News _ _ _ _ => N9
  refine use 440 1400 F9 N9 (int2digits_spec G (fun a o e => F9.keep a o (k a o e)) (B1.keeps F9.keep) (Nat.lt_trans ha (by decide)) hnb1 hbits) rfl (by simp only [depth_deeper]; decide) (by simp only [units_deeper]; decide) ?_
  rintro _ h8 tk8 ⟨D, us, rfl, eD, ⟨c, gD⟩, ID⟩ F8 N7 hk8
  have N8 := newsAdd F9 hk8 eD gD N7
  have hdl := dlen_le hnb1 (Nat.lt_trans ha (show 2 ^ 40 < 2 ^ 60 by decide))
  have hlen : ((digsN n (dlen a n) a).map fun (d : Nat) => (d : Int)).length = dlen a n := by simp [digsN_length]
  clear F9 N9 N7
  k_unmd
  (try dsimp only)
  k_steps
  show Stop _
  unfold Stop
  rename Fr _ _ _ _ => F9
  rename News _ _ _ _ => N9
  have nI := N9 _ (.head _)
  have nQ := N9 _ (.tail _ (.head _))
  have nD := N9 _ (.tail _ (.tail _ (.head _)))
  have hIL : @Ne Nat L _ := Ne.symm nI.2.1
  have hDL : @Ne Nat L D := Ne.symm nD.2.1
  refine for_rev (L := L) (DmInv b n tb (digsN n (dlen a n) a)) rfl rfl nI.1 ⟨_, nD.1, rfl, _, rfl⟩ ?_ hIL hDL nI.2.2 ?_ ID F9 (newsSub N9 (nx' := [_]) (by intro q hq; rw [List.mem_singleton.mp hq]; exact .tail _ (.head _))) ?_ ?_ ?_
  · refine neN ?_; omega
  · intro q hq; rw [List.mem_singleton.mp hq]; constructor <;> (refine neN ?_; dsimp only; omega)
  · exact ⟨_, [], 0, [], _, _, rfl, .nil, rfl, (fun _ h => nomatch h), by with_unfolding_all rfl, by with_unfolding_all rfl, by with_unfolding_all rfl, by with_unfolding_all rfl⟩
  · clear nI nQ nD N9 F9
    rintro i t9 m nx h tk own hlt hadr hoff ⟨Dq, vs, cq, qs, tn9, tr9, rfl, hI, hql, hqs, e1, e2, e3, e4⟩ F1 N1
    rw [← hadr] at hoff
    simp only [List.map_cons, List.map_nil] at hoff
    have F2 := frB [("q_digits", .ref Dq), ("b", .int b tb), ("n", .int n tn9), ("r", .int (horner b n ((digsN n (dlen a n) a).reverse.take i) : Nat) tr9)] F1 (by simp (decide := true) [e1, e2, e3, e4])
    rw [← List.map_reverse, getD_cast] at F2
    simp only [List.cons_append, List.nil_append] at N1
    clear F1
    have hr := horner_lt hb (n := n) ((digsN n (dlen a n) a).reverse.take i)
    have hd : (digsN n (dlen a n) a).reverse.getD i 0 < 2 ^ n := by
      rw [List.getD_eq_getElem?_getD]
      rcases h : (digsN n (dlen a n) a).reverse[i]? with _ | d
      · exact Nat.two_pow_pos n
      · exact digsN_lt (List.mem_reverse.mp (List.mem_of_getElem? h))
    have hst : horner b n ((digsN n (dlen a n) a).reverse.take (i + 1)) = (horner b n ((digsN n (dlen a n) a).reverse.take i) * 2 ^ n + (digsN n (dlen a n) a).reverse.getD i 0) % b := by
      have hlt' : i < (digsN n (dlen a n) a).reverse.length := by simpa using hlt
      rw [List.take_add_one, List.getElem?_eq_getElem hlt', Option.toList_some, horner_snoc, List.getD_eq_getElem?_getD, List.getElem?_eq_getElem hlt']
      rfl
    generalize (digsN n (dlen a n) a).reverse.getD i 0 = d9 at *
    generalize horner b n ((digsN n (dlen a n) a).reverse.take i) = r9 at *
    have hpn : 2 ^ n ≤ 65536 := Nat.le_trans (Nat.pow_le_pow_right (by decide) hbits) (by decide)
    have hrn : r9 * 2 ^ n ≤ 65536 * 65536 := Nat.mul_le_mul (by omega) hpn
    have hqn : (r9 * 2 ^ n + d9) / b < 2 ^ n := by
      rw [Nat.div_lt_iff_lt_mul hb]
      have : (r9 + 1) * 2 ^ n ≤ b * 2 ^ n := Nat.mul_le_mul_right _ hr
      rw [Nat.add_mul] at this
      rw [Nat.mul_comm (2 ^ n) b]
      omega
    k_unmd
    k_fold
    k_steps
    show Stop _
    unfold Stop
    dsimp only
    refine lshift_int_small (by omega) (by omega) (by rw [Int.natAbs_natCast]; omega) ?_
    rw [mul_pow]
    k_steps
    show Stop _
    unfold Stop
    rw [← Int.natCast_add]
    rename Fr _ _ _ _ => F9
    rename News _ _ _ _ => N9
    refine use 500 2000 F9 N9 (div2n1n_spec G (fun a o e => F9.keep a o (k a o e)) (by omega) (by omega) (by omega) (by omega) (by omega)) rfl (by simp only [depth_deeper]; decide) (by simp only [units_deeper]; decide) ?_
    rintro _ h7 tk7 ⟨T9, t7, t8, rfl, eT, gT⟩ F8 N7 hk7
    rw [← Int.natCast_ediv, ← Int.natCast_emod] at gT
    have N8 := newsAdd F9 hk7 eT gT N7
    have lt1 : @Ne Nat Dq T9 := fun q => by
      have q' : Dq = T9 := q
      rw [← q', (N9 _ (.head _)).1] at eT; cases eT
    clear N7 N9 F9
    k_unmd
    (try dsimp only)
    k_steps
    (try (dsimp only [List.cons_append, List.nil_append]; k_steps))
    unfold Stop
    dsimp only [InvPostN]
    rename Fr _ _ _ _ => F6
    rename News _ _ _ _ => N6
    rw [List.push_toArray] at N6
    refine InvEndN.intro F6 N6 ⟨Dq, vs ++ [Value.int (((r9 * 2 ^ n + d9) / b : Nat) : Int) t7], cq + 1, qs ++ [(r9 * 2 ^ n + d9) / b], tn9, t8, rfl, ?_, by simp [hql], ?_, by with_unfolding_all rfl, by with_unfolding_all rfl, by with_unfolding_all rfl, by rw [hst]; with_unfolding_all rfl⟩ hadr ?_ ?_
    · rw [List.map_append]; exact IntsAre.append hI (.cons _ _ .nil)
    · intro q hq
      rcases List.mem_append.mp hq with hq | hq
      · exact hqs q hq
      · rw [List.mem_singleton.mp hq]; exact hqn
    · intro q hq; rw [List.mem_singleton.mp hq]; exact .tail _ (.head _)
    · exact fun q hq => .tail _ (.tail _ hq)
  · clear nI nQ nD N9 F9
    rintro m nx h tk ⟨Dq, vs, cq, qs, tn9, tr9, rfl, hI, hql, hqs, e1, e2, e3, e4⟩ F1 N1
    rw [hlen] at hql e4
    have hfin : horner b n ((digsN n (dlen a n) a).reverse.take (dlen a n)) = a % b := by
      rw [List.take_of_length_le (by simp [digsN_length]), horner_val, val_digsN (dlen_lt hnb1)]
    rw [hfin] at e4
    have F2 := frB [("q_digits", .ref Dq), ("b", .int b tb), ("n", .int n tn9), ("r", .int ((a % b : Nat) : Int) tr9)] F1 (by simp (decide := true) [e1, e2, e3, e4])
    clear F1
    k_unmd
    dsimp only
    k_steps
    show Stop _
    unfold Stop
    rename Fr _ _ _ _ => F9
    rename News _ _ _ _ => N9
    rename IntsAre (List.reverse _) _ => I9
    rw [← List.map_reverse] at I9
    have hdm := dlen_mul (n := n) ha
    refine use 440 1400 F9 N9 (digits2int_spec G (fun a o e => F9.keep a o (k a o e)) (B2.keeps F9.keep) ⟨_, (N9 _ (.head _)).1, rfl, _, rfl⟩ I9 (by simp; omega) (fun d hd => hqs d (List.mem_reverse.mp hd)) hbits (by rw [List.length_reverse, hql]; omega)) rfl (by simp only [depth_deeper]; decide) (by simp only [units_deeper]; decide) ?_
    rintro _ h6 tk6 ⟨t6, rfl⟩ F6 N6 hk6
    clear F9 N9 I9
    k_unmd
    (try dsimp only)
    k_steps
    rename Fr _ _ _ _ => F5
    rename News _ _ _ _ => N5
    exact (show Ret s _ (.ref _) _ from ⟨⟨_, _, _, _, rfl, (N5 _ (.head _)).2.2, (N5 _ (.head _)).1⟩, ⟨_, _, rfl, F5.keep⟩⟩)

theorem int_divmod_spec {a b : Nat} {ta tb : Tok} (G : Gd w p loose mean mg mb g) (k : ∀ b o, g.get? b = some o → s.heap.get? b = some o) (B1 : Tb g s.heap 57 79 q1) (B2 : Tb g s.heap 64 94 q2)
   (ha : a < 2 ^ 40) (hb : 0 < b) (hb2 : b < 2 ^ 16) :
 wpAny (model prog w) (Ad 420 1200) (call (.ref 83) [.int a ta, .int b tb]) (Ret s fun r h' => ∃ l t1 t2 q, r = .ref l ∧ s.heap.get? l = none ∧ h'.get? l = some { cls := .type "tuple", data := .seq #[.int q t1, .int ((a % b : Nat) : Int) t2] }) E s := by
  refine' enter [] [("a", .int a ta), ("b", .int b tb)] G k ?k0 ?k1 ?k2 ?k3 ?k4 ?k5 ?k6 ?k7 ?k8 ?k9 ?_
  walk_at "gf enter"
  rw [nil_eq eb] at F N X T G'
  k_steps
  · rename (_ : Int) = 0 => h0
    exact absurd h0 (by omega)
  show Stop _
  unfold Stop
  rename Fr _ _ _ _ => F9
  rename News _ _ _ _ => N9
  refine use 430 1300 F9 N9 (divmod_pos_spec G (fun a o e => F9.keep a o (k a o e)) (B1.keeps F9.keep) (B2.keeps F9.keep) ha hb hb2) rfl (by simp only [depth_deeper]; decide) (by simp only [units_deeper]; decide) ?_
  rintro _ h8 tk8 ⟨l, t1, t2, q, rfl, eD, gD⟩ F8 N7 hk8
  have N8 := newsAdd F9 hk8 eD gD N7
  exact (show Ret s _ (.ref _) _ from ⟨⟨_, _, _, _, rfl, (N8 _ (.head _)).2.2, gD⟩, ⟨_, _, rfl, F8.keep⟩⟩)
end

end
-- part M3
section
theorem fresh_M3 : True := by w_top off; exact trivial
-- needs: B1
/-! the law's numbers -/
def numsStep (a : List Int) (c : Int) : List Int := a ++ [a.sum + 1 + c % 5]
def numsOf (ns : List Int) : List Int := (ns.take 7).foldl numsStep []
/-- each more than all ahead of it together, by at most five -/
inductive Sup : List Int → Prop
  | nil : Sup []
  | snoc {a : List Int} {x : Int} : Sup a → a.sum < x → x ≤ a.sum + 5 → Sup (a ++ [x])
theorem sum_snoc (a : List Int) (x : Int) : (a ++ [x]).sum = a.sum + x := by simp
theorem Sup.step {a : List Int} (h : Sup a) (c : Int) : Sup (numsStep a c) :=
  .snoc h (by have := Int.emod_nonneg c (show (5 : Int) ≠ 0 by decide); omega) (by have := Int.emod_lt_of_pos c (show (0 : Int) < 5 by decide); omega)
theorem Sup.fold : ∀ (l : List Int) {a : List Int}, Sup a → Sup (l.foldl numsStep a)
  | [], _, h => h
  | c :: l, _, h => Sup.fold l (h.step c)
theorem fold_length : ∀ (l : List Int) (a : List Int), (l.foldl numsStep a).length = a.length + l.length
  | [], _ => rfl
  | c :: l, a => by rw [List.foldl_cons, fold_length l, numsStep]; simp; omega
theorem Sup.bound {a : List Int} (h : Sup a) : 0 ≤ a.sum ∧ a.sum + 5 ≤ 5 * 2 ^ a.length := by
  induction h with
  | nil => simp
  | snoc ha h1 h2 ih =>
    rw [sum_snoc, List.length_append, List.length_singleton, Int.pow_succ]
    omega
theorem pow_le7 {n : Nat} (h : n ≤ 7) : (2 : Int) ^ n ≤ 128 := by
  have : (2 : Nat) ^ n ≤ 128 := Nat.pow_le_pow_right (by decide) h
  have h2 : ((2 ^ n : Nat) : Int) ≤ 128 := by exact_mod_cast this
  rwa [Int.natCast_pow] at h2
theorem Sup.small {a : List Int} (h : Sup a) (h7 : a.length ≤ 7) : 0 ≤ a.sum ∧ a.sum ≤ 635 := by
  have := h.bound; have := pow_le7 h7; omega
theorem Sup.pos {a : List Int} (h : Sup a) : ∀ x ∈ a, 0 < x ∧ x ≤ a.sum := by
  induction h with
  | nil => simp
  | snoc ha h1 h2 ih =>
    intro y hy
    rw [sum_snoc]
    have := ha.bound
    rcases List.mem_append.mp hy with h | h
    · have := ih y h; omega
    · rw [List.mem_singleton.mp h]; omega
theorem Sup.rise {a : List Int} (h : Sup a) : a.Pairwise (· ≤ ·) := by
  induction h with
  | nil => exact .nil
  | snoc ha h1 h2 ih =>
    rw [List.pairwise_append]
    refine ⟨ih, by simp, fun x hx y hy => ?_⟩
    rw [List.mem_singleton.mp hy]
    have := ha.pos x hx; omega
theorem numsOf_sup (ns : List Int) : Sup (numsOf ns) := Sup.fold _ .nil
theorem numsOf_length (ns : List Int) : (numsOf ns).length ≤ 7 := by rw [numsOf, fold_length]; simp; omega

end
-- part L1
section
local macro_rules | `(tactic| walk_at "gf pad") => `(tactic| fail "pad")
theorem fresh_L1 : True := by w_top off; exact trivial
-- needs: B1 M3
section
variable {w : World} {p : Program} {loose : List Str} {mean : ExcName → Option Value} {mg mb : Str → Option Value} {g : Heap} {Q : Flow → Shared → Prop} {s : Shared}
local macro_rules | `(tactic| walk_at "call ref") => `(tactic| refine Stop.mk ?_)
local macro_rules | `(tactic| walk_at "pyIter ref") => `(tactic| refine Stop.mk ?_)

local macro_rules | `(tactic| walk_at "exec For Name Subscript cons nil") => `(tactic| ((rename Fr _ _ _ _ => lF'); (with_unfolding_all refine' For_invVF lF' ?k1 ?k2 ?_; (case k1 => exact rfl); (case k2 => exact rfl); k_whole)))

theorem lawA {nm q : Str} {pr : Arguments} {s0 s1 : Stmt} {rest : List Stmt} {sc : Scope} {oc dV kV doc pm cd ct cdv : Value} {an od : Option Addr} {osl : Array (Option Value)} {cl : List (Str × Addr)} {qual : Str} {f : Addr}
   (hK : (hd.heap_39 w.params).lookup 95 = some ⟨oc, od, .func (fnX nm q pr (s0 :: s1 :: rest) sc cl dV kV doc pm an cd ct), osl⟩)
   (G : Gd w p loose mean mg mb g) {L l : Addr} {m : Str → Option Value} {vs : List Value} {ns : List Int} {o1 o2 o3 o4 o5 o6 o7 o8 : Obj}
   (F : Fr g L s.heap m) (hm : m "script" = some (.ref l)) (N : News g L s.heap [(L+1+1+1+1+1+1+1+1, o8), (L+1+1+1+1+1+1+1, o7), (L+1+1+1+1+1+1, o6), (L+1+1+1+1+1, o5), (L+1+1+1+1, o4), (L+1+1+1, o3), (L+1+1, o2), (L+1, o1), (64, tabObj #[]), (57, tabObj #[])])
   (d1 : o1.data = .cell none) (l64 : @LT.lt Nat _ 64 L) (l57 : @LT.lt Nat _ 57 L) (hl : g.IsList l vs.toArray) (hi : IntsAre vs ns) (hlen : ns.length ≤ 63)
   (cont : ∀ (Dn : Addr) (vn : List Value) (c : Nat) (ox : Obj) h tk m', IntsAre vn (numsOf ns) → @LT.lt Nat _ (L+1+1+1+1+1+1+1+1) Dn → ox.data = .cell (some (.ref Dn)) → m' "script" = some (.ref l) → Fr g L h m' →
     News g L h [(Dn, W.listOf vn.toArray c), (L+1+1+1+1+1+1+1+1, o8), (L+1+1+1+1+1+1+1, o7), (L+1+1+1+1+1+1, o6), (L+1+1+1+1+1, o5), (L+1+1+1+1, o4), (L+1+1+1, o3), (L+1+1, o2), (L+1, ox), (64, tabObj #[]), (57, tabObj #[])] →
     wpAny (model prog w) (Ad 400 1000) (execs rest (envOfC qual sc L f cdv)) Q (fun _ _ => False) { s with heap := h, toks := tk }) :
   wpAny (model prog w) (Ad 400 1000) (execs (s0 :: s1 :: rest) (envOfC qual sc L f cdv)) Q (fun _ _ => False) s := by
  have e := hK.symm.trans (by k_is : (hd.heap_39 w.params).lookup 95 = some _)
  cases e
  have X := G.X
  have T := G.T
  have F0 := frB [("script", .ref l)] F (by simp (decide := true) [hm])
  clear F
  obtain ⟨sh, sg, sd, st, so⟩ := s
  k_unmd
  k_steps
  show Stop _
  unfold Stop
  rename Fr _ _ _ _ => F9
  rename News _ _ _ _ => N9
  rename IntsAre _ (List.take 7 ns) => I9
  rename Obj.data _ = Data.cell (some _) => d9
  have hgt : @LT.lt Nat _ (L+1+1+1+1+1+1+1+1) _ := And.left (by assumption)
  refine iter_invNL (fun i m' nx => ∃ (Dn : Addr) (vn : List Value) (c : Nat) (ox ol : Obj) (Dl : Addr), nx = [(Dl, ol), (Dn, W.listOf vn.toArray c), (L+1+1+1+1+1+1+1+1, o8), (L+1+1+1+1+1+1+1, o7), (L+1+1+1+1+1+1, o6), (L+1+1+1+1+1, o5), (L+1+1+1+1, o4), (L+1+1+1, o3), (L+1+1, o2), (L+1, ox), (64, tabObj #[]), (57, tabObj #[])] ∧ IntsAre vn (((ns.take 7).take i).foldl numsStep []) ∧ ox.data = .cell (some (.ref Dn)) ∧ m' "script" = some (.ref l) ∧ @LT.lt Nat _ (L+1+1+1+1+1+1+1+1) Dn) rfl (.head _) I9 F9 N9 ⟨_, [], 0, _, _, _, rfl, .nil, d9, by with_unfolding_all rfl, hgt⟩ ?_ ?_
  · clear F9 N9 I9 d9
    rintro i n t m1 news1 h tk own hn hadr hoff hmem ⟨Dn, vn, c, ox, ol, Dl, rfl, hI, hd, hs, hgt⟩ F1 N1
    have F2 := frB [("cell", .int n t), ("script", .ref l)] F1 (by simp (decide := true) [hs])
    have hadr2 := hadr
    simp only [List.map_cons, List.map_nil, List.cons.injEq, and_true] at hadr2
    obtain ⟨rfl, rfl⟩ := hadr2
    simp only [List.map_cons, List.map_nil] at hoff
    have hol := Option.some.inj ((N1 _ (List.mem_append_left own hmem)).1.symm.trans (N1 _ (List.mem_append_left own (.head _))).1)
    dsimp only at hol
    subst hol
    simp only [List.cons_append, List.nil_append] at N1
    clear F1
    have hst : ((ns.take 7).take (i + 1)).foldl numsStep [] = numsStep (((ns.take 7).take i).foldl numsStep []) n := by
      rw [List.take_add_one, hn]; simp
    have hlN : (((ns.take 7).take i).foldl numsStep []).length ≤ 7 := by
      rw [fold_length]; simp; omega
    have hsum := (Sup.fold ((ns.take 7).take i) .nil).small hlN
    rw [hst]
    generalize ((ns.take 7).take i).foldl numsStep [] = ks at *
    k_unmd
    k_fold
    k_steps
    unfold Stop
    dsimp only [InvPostN]
    rename Fr _ _ _ _ => F6
    rename News _ _ _ _ => N6
    rw [List.push_toArray] at N6
    obtain ⟨t6, N7⟩ : ∃ t6, News g L _ ((Dl, W.listOf _ 0) :: (Dn, W.listOf (vn ++ [Value.int (ks.sum + 1 + n.fmod 5) t6]).toArray (c + 1)) :: _) := ⟨_, N6⟩
    refine' InvEndN.intro F6 N7 ⟨.head _, Dn, vn ++ [Value.int (ks.sum + 1 + n.fmod 5) t6], c + 1, ox, _, Dl, rfl, ?hI, hd, by with_unfolding_all rfl, hgt⟩ (by rfl) ?hn ?ho
    case hn => exact fun q hq => List.mem_append_left own hq
    case ho => exact fun q hq => List.mem_append_right (_ :: _ :: _ :: _ :: _ :: _ :: _ :: _ :: _ :: _ :: _ :: [_]) hq
    rw [numsStep, ← Int.fmod_eq_emod_of_nonneg _ (by decide)]
    exact hI.append (.cons _ _ .nil)
  · rintro m1 news1 h tk _ ⟨Dn, vn, c, ox, ol, Dl, rfl, hI, hd, hs, hgt⟩ F1 N1
    rw [List.take_length] at hI
    exact cont Dn vn c ox h tk m1 hI hgt hd hs F1 (newsSub N1 fun q hq => .tail _ hq)
end

end
-- part T1
section
theorem fresh_T1 : True := by w_top off; exact trivial
-- needs: B1 M2 F6 F8 F9
section
variable {w : World} {p : Program} {loose : List Str} {mean : ExcName → Option Value} {mg mb : Str → Option Value} {g : Heap} {E Q : Value → Shared → Prop} {s : Shared} {A : Around}
theorem newsAdd2 {b h h' : Heap} {L D : Addr} {m : Str → Option Value} {o : Obj} {nx : List (Addr × Obj)} (F : Fr b L h m) (e : h.get? D = none) (g : h'.get? D = some o) (N : News b L h' nx) :
    News b L h' ((D, o) :: nx) := fun q hq => by
  rcases List.mem_cons.mp hq with rfl | hq
  · refine ⟨g, fun q => ?_, ?_⟩
    · obtain ⟨oL, _, _, e', _⟩ := F.ns
      have q' : D = L := q
      rw [q', e'] at e; cases e
    · cases e' : b.get? D with
      | none => rfl
      | some o' => have := F.keep _ _ e'; rw [e] at this; cases this
  · exact N q hq
theorem newsApp {b h : Heap} {L : Addr} {x y : List (Addr × Obj)} (N : News b L h x) (M : News b L h y) : News b L h (x ++ y) := fun q hq => by
  rcases List.mem_append.mp hq with hq | hq
  · exact N q hq
  · exact M q hq
theorem newsTake {b h : Heap} {L : Addr} {x : List (Addr × Obj)} (n : Nat) (N : News b L h x) : News b L h (x.take n) := fun q hq => N q (List.mem_of_mem_take hq)
theorem newsDrop {b h : Heap} {L : Addr} {x : List (Addr × Obj)} (n : Nat) (N : News b L h x) : News b L h (x.drop n) := fun q hq => N q (List.mem_of_mem_drop hq)

theorem freshNe {b h : Heap} {L D : Addr} {x : List (Addr × Obj)} (N : News b L h x) (e : h.get? D = none) : ∀ q ∈ x, @Ne Nat q.1 D := fun q hq r => by
  have r' : q.1 = D := r
  have z := (N q hq).1
  rw [r', e] at z; cases z
theorem offTail {m : List (Addr × Obj)} {a : Addr} {as : List Addr} (h : PySem.W.OwnOff m (a :: as)) : PySem.W.OwnOff m as := fun q hq b hb => h q hq b (List.mem_cons_of_mem _ hb)
theorem offMore {b h : Heap} {L : Addr} {x more more' : List (Addr × Obj)} {adr : List Addr} (N : News b L h x) (ha : ∀ a ∈ adr, a ∈ x.map (·.1)) (hof : PySem.W.OwnOff more adr) (h2 : ∀ q ∈ more', q ∈ more ∨ h.get? q.1 = none) : PySem.W.OwnOff more' adr := fun q hq a hm => by
  rcases h2 q hq with h | h
  · exact hof q h a hm
  · obtain ⟨p, hp, rfl⟩ := List.mem_map.mp (ha a hm)
    exact Ne.symm (freshNe N h p hp)

/-- a def's table of codes, filled, its code told of in a ledger -/
def Fill (o : Obj) (line : Int) (q : Str) (more : List (Addr × Obj)) : Prop :=
  ∃ c' oc' vs t, (c', oc') ∈ more ∧ o = tabObj #[rawInt line, rawInt 4, .ref c'] ∧ oc'.data = .fields vs ∧ vs[1]? = some (.str q t)
theorem Fill.mono {o : Obj} {line : Int} {q : Str} {more more' : List (Addr × Obj)} (x : Fill o line q more) (h : ∀ q ∈ more, q ∈ more') : Fill o line q more' :=
  let ⟨c', oc', vs, t, a, r⟩ := x; ⟨c', oc', vs, t, h _ a, r⟩
theorem Fill.tb {o : Obj} {line : Int} {q : Str} {P L : Addr} {h : Heap} {more all : List (Addr × Obj)} (x : Fill o line q more) (N : News g L h all) (hP : (P, o) ∈ all) (hm : ∀ q ∈ more, q ∈ all) : Tb g h P line q := by
  obtain ⟨c', oc', vs, t, a, rfl, r⟩ := x
  exact ⟨(N _ hP).2.2, c', oc', vs, t, (N _ hP).1, (N _ (hm _ a)).1, (N _ (hm _ a)).2.2, r⟩

theorem i2d_any {L : Addr} {m : Str → Option Value} {pre more : List (Addr × Obj)} {o5 o6 : Obj} {x : Nat} {tx tn : Tok} (F : Fr g L s.heap m) (G : Gd w p loose mean mg mb g) (NP : News g L s.heap pre) (NT : News g L s.heap ((57, o5) :: (64, o6) :: more))
    (hoff : ∀ q ∈ pre, @Ne Nat q.1 57) (hmo : ∀ q ∈ more, @Ne Nat q.1 57) (h5 : (o5 = tabObj #[] ∧ x = 0) ∨ Fill o5 79 q1 more) (hx : x < 2 ^ 60) (hA : A.handled = none) (hd : A.depth ≤ 440) (hu : A.units ≤ 1400)
    (cont : ∀ D us c o5' more' h' tk, Fill o5' 79 q1 more' → (∀ q ∈ more, q ∈ more') → (∀ q ∈ more', q ∈ more ∨ s.heap.get? q.1 = none) → s.heap.get? D = none → (∀ q ∈ more', @Ne Nat q.1 D) →
      IntsAre us ((digsN 1 (dlen x 1) x).map fun (d : Nat) => (d : Int)) → Fr g L h' m → News g L h' ((D, W.listOf us.toArray c) :: pre) → News g L h' ((57, o5') :: (64, o6) :: more') → Q (.ref D) { s with heap := h', toks := tk }) :
    wpAny (model prog w) A (call (.ref 62) [.int x tx, .int 1 tn]) Q E s := by
  have N5 := NT _ (.head _)
  rcases h5 with ⟨rfl, rfl⟩ | hf
  · refine useChg 440 1400 (D := 57) (o := tabObj #[]) (nx := pre ++ ((64, o6) :: more)) F (fun q hq => ?_) (fun q hq => ?_) (int2digits_first (n := 1) G F.keep N5.1 N5.2.2 (by decide) (by decide)) hA hd hu ?_
    · rcases List.mem_cons.mp hq with rfl | hq
      · exact N5
      · rcases List.mem_append.mp hq with hq | hq
        · exact NP q hq
        · exact NT q (.tail _ hq)
    · rcases List.mem_append.mp hq with hq | hq
      · exact hoff q hq
      · rcases List.mem_cons.mp hq with rfl | hq
        · exact (by decide : @Ne Nat 64 57)
        · exact hmo q hq
    · rintro _ h' tk ⟨D, c', oc', vsC, tC, rfl, eD, ⟨c, gD⟩, g5, gc, ec, dc, vc, nDc⟩ F' N' hk
      have M' : News g L h' ((64, o6) :: more) := fun q hq => N' q (List.mem_append_right _ hq)
      have M2 := newsAdd2 F ec gc M'
      refine cont D [] c _ ((c', oc') :: more) h' tk ⟨c', oc', vsC, tC, .head _, rfl, dc, vc⟩ (fun q hq => .tail _ hq) (fun q hq => ?_) eD (fun q hq => ?_) ?_ F' (newsAdd2 F eD gD fun q hq => N' q (List.mem_append_left _ hq)) (fun q hq => ?_)
      · rcases List.mem_cons.mp hq with rfl | hq
        · exact .inr ec
        · exact .inl hq
      · rcases List.mem_cons.mp hq with rfl | hq
        · exact Ne.symm nDc
        · intro e
          have e' : q.1 = D := e
          have z := (NT q (.tail _ (.tail _ hq))).1
          rw [e', eD] at z; cases z
      · rw [dlen_zero (Nat.le_refl 1)]; exact .nil
      · rcases List.mem_cons.mp hq with rfl | hq
        · exact ⟨g5, N5.2⟩
        · rcases List.mem_cons.mp hq with rfl | hq
          · exact M' _ (.head _)
          · rcases List.mem_cons.mp hq with rfl | hq
            · exact M2 _ (.head _)
            · exact M' _ (.tail _ hq)
  · refine use 440 1400 F (newsApp NP NT) (int2digits_spec (n := 1) G F.keep (hf.tb NT (.head _) fun q hq => .tail _ (.tail _ hq)) hx (by decide) (by decide)) hA hd hu ?_
    rintro _ h' tk ⟨D, us, rfl, eD, ⟨c, gD⟩, hI⟩ F' N' hk
    exact cont D us c o5 more h' tk hf (fun q hq => hq) (fun q hq => .inl hq) eD (fun q hq e => by
      have e' : q.1 = D := e
      have z := (NT q (.tail _ (.tail _ hq))).1
      rw [e', eD] at z; cases z) hI F' (newsAdd2 F eD gD fun q hq => N' q (List.mem_append_left _ hq)) fun q hq => N' q (List.mem_append_right _ hq)

theorem d2i_any {L D : Addr} {m : Str → Option Value} {pre more : List (Addr × Obj)} {o5 o6 : Obj} {vs : List Value} {ns : List Nat} {tn : Tok} (F : Fr g L s.heap m) (G : Gd w p loose mean mg mb g) (NP : News g L s.heap pre) (NT : News g L s.heap ((57, o5) :: (64, o6) :: more))
    (hoff : ∀ q ∈ pre, @Ne Nat q.1 64) (hmo : ∀ q ∈ more, @Ne Nat q.1 64) (h6 : o6 = tabObj #[] ∨ Fill o6 94 q2 more)
    (hl : s.heap.IsList D vs.toArray) (hi : IntsAre vs (ns.map fun (d : Nat) => (d : Int))) (hlen : ns.length ≤ 60) (hds : ∀ d ∈ ns, d < 2) (hA : A.handled = none) (hd : A.depth ≤ 440) (hu : A.units ≤ 1400)
    (cont : ∀ t o6' more' h' tk, Fill o6' 94 q2 more' → (∀ q ∈ more, q ∈ more') → (∀ q ∈ more', q ∈ more ∨ s.heap.get? q.1 = none) → Fr g L h' m → News g L h' pre → News g L h' ((57, o5) :: (64, o6') :: more') → Q (.int (val 1 ns : Nat) t) { s with heap := h', toks := tk }) :
    wpAny (model prog w) A (call (.ref 69) [.ref D, .int 1 tn]) Q E s := by
  have N6 := NT _ (.tail _ (.head _))
  have N5 := NT _ (.head _)
  rcases h6 with rfl | hf
  · refine useChg 440 1400 (D := 64) (o := tabObj #[]) (nx := pre ++ ((57, o5) :: more)) F (fun q hq => ?_) (fun q hq => ?_) (digits2int_first (n := 1) G F.keep N6.1 N6.2.2 hl hi (by omega) hds (by decide) (by omega)) hA hd hu ?_
    · rcases List.mem_cons.mp hq with rfl | hq
      · exact N6
      · rcases List.mem_append.mp hq with hq | hq
        · exact NP q hq
        · rcases List.mem_cons.mp hq with rfl | hq
          · exact N5
          · exact NT q (.tail _ (.tail _ hq))
    · rcases List.mem_append.mp hq with hq | hq
      · exact hoff q hq
      · rcases List.mem_cons.mp hq with rfl | hq
        · exact (by decide : @Ne Nat 57 64)
        · exact hmo q hq
    · rintro _ h' tk ⟨⟨t, rfl⟩, c', oc', vsC, tC, g6, gc, ec, dc, vc⟩ F' N' hk
      have M' : News g L h' ((57, o5) :: more) := fun q hq => N' q (List.mem_append_right _ hq)
      have M2 := newsAdd2 F ec gc M'
      refine cont t _ ((c', oc') :: more) h' tk ⟨c', oc', vsC, tC, .head _, rfl, dc, vc⟩ (fun q hq => .tail _ hq) (fun q hq => ?_) F' (fun q hq => N' q (List.mem_append_left _ hq)) (fun q hq => ?_)
      · rcases List.mem_cons.mp hq with rfl | hq
        · exact .inr ec
        · exact .inl hq
      · rcases List.mem_cons.mp hq with rfl | hq
        · exact M' _ (.head _)
        · rcases List.mem_cons.mp hq with rfl | hq
          · exact ⟨g6, N6.2⟩
          · rcases List.mem_cons.mp hq with rfl | hq
            · exact M2 _ (.head _)
            · exact M' _ (.tail _ hq)
  · refine use 440 1400 F (newsApp NP NT) (digits2int_spec (n := 1) G F.keep (hf.tb NT (.tail _ (.head _)) fun q hq => .tail _ (.tail _ hq)) hl hi (by omega) hds (by decide) (by omega)) hA hd hu ?_
    rintro _ h' tk ⟨t, rfl⟩ F' N' hk
    exact cont t o6 more h' tk hf (fun q hq => hq) (fun q hq => .inl hq) F' (fun q hq => N' q (List.mem_append_left _ hq)) fun q hq => N' q (List.mem_append_right _ hq)
end

end
-- part M4
section
theorem fresh_M4 : True := by w_top off; exact trivial
-- needs: B1 M1 M2 M3
/-! sums of lots -/
def dot : List Int → List Int → Int
  | k :: ks, d :: ds => k * d + dot ks ds
  | _, _ => 0
def tot (ks : List Int) (i : Nat) : Int := dot ks (digs 1 ks.length i)
def picks (ks ds : List Int) : List Int := (PySem.W.rangeKs 0 ks.length).foldl (fun l k => if ds.getD k.toNat 0 = 1 then l ++ [ks.getD k.toNat 0] else l) []
theorem digsN_take {n a b x : Nat} (h : a ≤ b) : (digsN n b x).take a = digsN n a x := by
  unfold digsN
  rw [← List.map_take, List.take_range, Nat.min_eq_left h]
theorem digsN_pad {d k x : Nat} (hx : x < 2 ^ (1 * d)) : digsN 1 d x ++ List.replicate k 0 = digsN 1 (d + k) x := by
  apply List.ext_getElem
  · simp [digsN_length]
  · intro j h1 h2
    by_cases hj : j < d
    · rw [List.getElem_append_left (by simpa [digsN_length] using hj)]
      simp [digsN]
    · rw [List.getElem_append_right (by simpa [digsN_length] using hj)]
      simp only [List.getElem_replicate, digsN, List.getElem_map, List.getElem_range]
      have : x / 2 ^ (1 * j) = 0 := Nat.div_eq_of_lt (Nat.lt_of_lt_of_le hx (Nat.pow_le_pow_right (by decide) (by omega)))
      rw [this]
theorem pad_digs {d r k x : Nat} (hx : x < 2 ^ (1 * d)) (hk : k ≤ d + r) : ((digsN 1 d x).map (fun (d : Nat) => (d : Int)) ++ List.replicate r ((0 : Nat) : Int)).take k = digs 1 k x := by
  rw [← List.map_replicate (f := fun (d : Nat) => (d : Int)), ← List.map_append, digsN_pad hx, ← List.map_take, digsN_take hk, digs_cast]

end
-- part M5
section
theorem fresh_M5 : True := by w_top off; exact trivial
-- needs: B1 M1 M2 M3 M4
/-! the greedy lot is right -/
def Bits (F : List Int) : Prop := ∀ d ∈ F, d = 0 ∨ d = 1
theorem digs_bits (n x : Nat) : Bits (digs 1 n x) := by
  intro d hd
  obtain ⟨i, _, rfl⟩ := List.mem_map.mp hd
  have := Nat.mod_lt (x / 2 ^ (1 * i)) (show 0 < 2 ^ 1 by decide)
  omega
theorem foldl_pick (ks ds : List Int) : ∀ (js l : List Int), (js.foldl (fun l k => if ds.getD k.toNat 0 = 1 then l ++ [ks.getD k.toNat 0] else l) l).sum = l.sum + (js.map fun k => if ds.getD k.toNat 0 = 1 then ks.getD k.toNat 0 else 0).sum
  | [], l => by simp
  | j :: js, l => by
    rw [List.foldl_cons, foldl_pick ks ds js, List.map_cons, List.sum_cons]
    split
    · rw [sum_snoc]; omega
    · omega
theorem dot_range : ∀ (ks ds : List Int), ds.length = ks.length → Bits ds → ((List.range ks.length).map fun i => if ds.getD i 0 = 1 then ks.getD i 0 else 0).sum = dot ks ds
  | [], [], _, _ => rfl
  | [], _ :: _, h, _ => by simp at h
  | _ :: _, [], h, _ => by simp at h
  | k :: ks, d :: ds, h, hb => by
    rw [List.length_cons, List.range_succ_eq_map, List.map_cons, List.sum_cons, List.map_map, dot, ← dot_range ks ds (by simpa using h) fun x hx => hb x (.tail _ hx)]
    have h1 := hb d (.head _)
    have e : (fun i => if (d :: ds).getD i 0 = 1 then (k :: ks).getD i 0 else 0) ∘ Nat.succ = fun i => if ds.getD i 0 = 1 then ks.getD i 0 else 0 := by
      funext i; simp
    rw [e]
    rcases h1 with rfl | rfl <;> simp
theorem picks_dot {ks ds : List Int} (h : ds.length = ks.length) (hb : Bits ds) : ((PySem.W.rangeKs 0 ks.length).foldl (fun l k => if ds.getD k.toNat 0 = 1 then l ++ [ks.getD k.toNat 0] else l) []).sum = dot ks ds := by
  rw [foldl_pick, ← dot_range ks ds h hb]
  unfold PySem.W.rangeKs
  rw [List.map_map]
  simp [Function.comp_def]
theorem picks_sum {ks : List Int} {i : Nat} : (picks ks (digs 1 ks.length i)).sum = tot ks i := picks_dot (digs_length _ _ _) (digs_bits _ _)
theorem dot_snoc : ∀ (a f : List Int) (x d : Int), f.length = a.length → dot (a ++ [x]) (f ++ [d]) = dot a f + x * d
  | [], [], x, d, _ => by simp [dot]
  | [], _ :: _, _, _, h => by simp at h
  | _ :: _, [], _, _, h => by simp at h
  | k :: a, e :: f, x, d, h => by
    rw [List.cons_append, List.cons_append, dot, dot_snoc a f x d (by simpa using h), dot]; omega
theorem dot_bound : ∀ {a f : List Int}, (∀ x ∈ a, 0 < x) → Bits f → 0 ≤ dot a f ∧ dot a f ≤ a.sum
  | [], _, _, _ => by simp [dot]
  | k :: a, [], h, _ => by
    have : ∀ l : List Int, (∀ x ∈ l, 0 < x) → 0 ≤ l.sum := by
      intro l hl
      induction l with
      | nil => simp
      | cons y r ih => rw [List.sum_cons]; have := hl y (.head _); have := ih fun x hx => hl x (.tail _ hx); omega
    simp only [dot]
    exact ⟨Int.le_refl _, this _ h⟩
  | k :: a, d :: f, h, hb => by
    have ih := dot_bound (a := a) (f := f) (fun x hx => h x (.tail _ hx)) fun x hx => hb x (.tail _ hx)
    have hk := h k (.head _)
    rw [dot, List.sum_cons]
    rcases hb d (.head _) with rfl | rfl
    · rw [Int.mul_zero]; omega
    · rw [Int.mul_one]; omega
theorem bits_snoc {f : List Int} {d : Int} : Bits (f ++ [d]) ↔ Bits f ∧ (d = 0 ∨ d = 1) := by
  constructor
  · exact fun h => ⟨fun x hx => h x (List.mem_append_left _ hx), h d (by simp)⟩
  · rintro ⟨h, h2⟩ x hx
    rcases List.mem_append.mp hx with hx | hx
    · exact h x hx
    · rw [List.mem_singleton.mp hx]; exact h2
theorem br_low {a : List Int} {x y : Int} (h : y < x) : br (a ++ [x]) y = br a y := by
  unfold br
  rw [List.takeWhile_append]
  split
  · rename_i e
    rw [List.takeWhile_cons, if_neg (by simp; omega), List.append_nil, e]
  · rfl
theorem br_high {a : List Int} {x y : Int} (h : x ≤ y) (ha : ∀ z ∈ a, z ≤ y) : br (a ++ [x]) y = a.length + 1 := by
  unfold br
  rw [List.takeWhile_append_of_pos (by simpa using ha), List.takeWhile_cons, if_pos (by simpa using h)]
  simp
theorem br_le (a : List Int) (y : Int) : br a y ≤ a.length := (List.takeWhile_sublist _).length_le
def run (ns : List Int) : Nat → List Int × Int → List Int × Int
  | 0, st => st
  | k + 1, st => lotStep ns (run ns k st)
theorem run_lotIt (ns : List Int) (x : Int) : ∀ k, lotIt ns x k = run ns k (List.replicate ns.length 0, x)
  | 0 => rfl
  | k + 1 => by rw [lotIt, run_lotIt ns x k]; rfl
theorem run_first (ns : List Int) (st : List Int × Int) : ∀ k, run ns (k + 1) st = run ns k (lotStep ns st)
  | 0 => rfl
  | k + 1 => by show lotStep ns (run ns (k + 1) st) = _; rw [run_first ns st k]; rfl
theorem run_length (ns : List Int) (st : List Int × Int) : ∀ k, (run ns k st).1.length = st.1.length
  | 0 => rfl
  | k + 1 => by rw [run, lotStep_length, run_length ns st k]
theorem getD_nonneg {a : List Int} (h : ∀ x ∈ a, 0 < x) (i : Nat) : 0 ≤ a.getD i 0 := by
  rw [List.getD_eq_getElem?_getD]
  rcases e : a[i]? with _ | x
  · exact Int.le_refl _
  · exact Int.le_of_lt (h x (List.mem_of_getElem? e))
theorem step_le {a : List Int} (h : ∀ x ∈ a, 0 < x) (st : List Int × Int) : (lotStep a st).2 ≤ st.2 := by
  unfold lotStep
  split
  · have := getD_nonneg h (br a st.2 - 1); dsimp only; omega
  · exact Int.le_refl _
theorem run_le {a : List Int} (h : ∀ x ∈ a, 0 < x) (st : List Int × Int) : ∀ k, (run a k st).2 ≤ st.2
  | 0 => Int.le_refl _
  | k + 1 => Int.le_trans (step_le h _) (run_le h st k)
theorem step_snoc {a G : List Int} {x d r : Int} (hG : G.length = a.length) (hr : r < x) : lotStep (a ++ [x]) (G ++ [d], r) = ((lotStep a (G, r)).1 ++ [d], (lotStep a (G, r)).2) := by
  have hb := br_le a r
  unfold lotStep
  dsimp only
  rw [br_low hr]
  by_cases h0 : 0 < br a r
  · have hi : br a r - 1 < G.length := by omega
    have e1 : (G ++ [d]).getD (br a r - 1) 0 = G.getD (br a r - 1) 0 := by
      rw [List.getD_eq_getElem?_getD, List.getD_eq_getElem?_getD, List.getElem?_append_left hi]
    have e2 : (a ++ [x]).getD (br a r - 1) 0 = a.getD (br a r - 1) 0 := by
      rw [List.getD_eq_getElem?_getD, List.getD_eq_getElem?_getD, List.getElem?_append_left (by omega)]
    rw [e1, e2]
    split
    · rw [List.set_append_left _ _ hi]
    · rfl
  · rw [if_neg (fun h => h0 h.2.1), if_neg (fun h => h0 h.2.1)]
theorem run_snoc {a G : List Int} {x d r : Int} (ha : ∀ z ∈ a, 0 < z) (hG : G.length = a.length) (hr : r < x) : ∀ k, run (a ++ [x]) k (G ++ [d], r) = ((run a k (G, r)).1 ++ [d], (run a k (G, r)).2)
  | 0 => rfl
  | k + 1 => by
    have h1 := run_le ha (G, r) k
    rw [run, run_snoc ha hG hr k, step_snoc (by rw [run_length]; exact hG) (by dsimp only at h1; omega)]
    rfl
theorem run_dot {ks : List Int} (hS : Sup ks) : ∀ (F : List Int), F.length = ks.length → Bits F → ∀ k, ks.length ≤ k → run ks k (List.replicate ks.length 0, dot ks F) = (F, 0) := by
  induction hS with
  | nil =>
    intro F hF _ k _
    have : F = [] := List.eq_nil_of_length_eq_zero hF
    subst this
    show run [] k ([], 0) = ([], 0)
    induction k with
    | zero => rfl
    | succ k ih => rw [run, ih (Nat.zero_le _)]; rfl
  | @snoc a x ha h1 h2 ih =>
    intro F hF hb k hk
    have hpos := fun z hz => (ha.pos z hz).1
    rcases List.eq_nil_or_concat F with rfl | ⟨G, d, rfl⟩
    · simp at hF
    rw [List.concat_eq_append] at *
    rw [List.length_append, List.length_append] at hF
    have hG : G.length = a.length := by simpa using hF
    obtain ⟨hbG, hd⟩ := bits_snoc.mp hb
    have hdb := dot_bound hpos hbG
    rw [dot_snoc _ _ _ _ hG, List.length_append, List.length_singleton, List.replicate_succ']
    rw [List.length_append, List.length_singleton] at hk
    rcases hd with rfl | rfl
    · rw [Int.mul_zero, Int.add_zero, run_snoc hpos (by simp) (by omega), ih G hG hbG k (by omega)]
    · obtain ⟨k', rfl⟩ : ∃ k', k = k' + 1 := ⟨k - 1, by omega⟩
      have hr0 := ha.bound.1
      rw [Int.mul_one, run_first]
      have hst : lotStep (a ++ [x]) (List.replicate a.length 0 ++ [0], dot a G + x) = (List.replicate a.length 0 ++ [1], dot a G) := by
        unfold lotStep
        dsimp only
        rw [br_high (by omega) fun z hz => by have := ha.pos z hz; omega, Nat.add_sub_cancel]
        have e1 : (List.replicate a.length (0 : Int) ++ [0]).getD a.length 0 = 0 := by
          rw [List.getD_eq_getElem?_getD, List.getElem?_append_right (by simp)]; simp
        have e2 : (a ++ [x]).getD a.length 0 = x := by
          rw [List.getD_eq_getElem?_getD, List.getElem?_append_right (Nat.le_refl _)]; simp
        rw [if_pos ⟨by omega, by omega, e1⟩, e2, List.set_append_right _ _ (by simp)]
        simp
      rw [hst, run_snoc hpos (by simp) (by omega), ih G hG hbG k' (by omega)]
theorem lot_dot {ks F : List Int} (hS : Sup ks) (hF : F.length = ks.length) (hb : Bits F) : lot ks (dot ks F) = some F := by
  unfold lot
  rw [run_lotIt, run_dot hS F hF hb _ (Nat.le_refl _), if_pos rfl]
theorem lot_tot {ks : List Int} {i : Nat} (hS : Sup ks) (_hi : i < 2 ^ ks.length) : lot ks (tot ks i) = some (digs 1 ks.length i) := lot_dot hS (digs_length _ _ _) (digs_bits _ _)

end
-- part L2
section
local macro_rules | `(tactic| walk_at "gf pad") => `(tactic| fail "pad")
theorem fresh_L2 : True := by w_top off; exact trivial
-- needs: B1 M1 M2 M3 M4 F4 T1
section
variable {w : World} {p : Program} {loose : List Str} {mean : ExcName → Option Value} {mg mb : Str → Option Value} {g : Heap} {Q QF : Flow → Shared → Prop} {s : Shared}
local macro_rules | `(tactic| walk_at "call ref") => `(tactic| refine Stop.mk ?_)
local macro_rules | `(tactic| walk_at "pyIter ref") => `(tactic| refine Stop.mk ?_)

def LoopJ (L l Dn Do Ds : Addr) (vn : List Value) (c : Nat) (ks : List Int) (ox o2 o4 o5 o6 o7 o8 : Obj) (tw : Tok) (i : Nat) (m : Str → Option Value) (nx : List (Addr × Obj)) : Prop :=
  ∃ (vs : List Value) (cs : Nat) (o3 t5 t6 : Obj) (more : List (Addr × Obj)), nx = (Ds, W.listOf vs.toArray cs) :: (Do, W.listOf #[] 0) :: (Dn, W.listOf vn.toArray c) :: (L+1+1+1+1+1+1+1+1, o8) :: (L+1+1+1+1+1+1+1, o7) :: (L+1+1+1+1+1+1, o6) :: (L+1+1+1+1+1, o5) :: (L+1+1+1+1, o4) :: (L+1+1+1, o3) :: (L+1+1, o2) :: (L+1, ox) :: (57, t5) :: (64, t6) :: more ∧
    IntsAre vs ((List.range i).map (tot ks)) ∧ (t5 = tabObj #[] ∧ i = 0 ∨ Fill t5 79 q1 more) ∧ (t6 = tabObj #[] ∧ i = 0 ∨ Fill t6 94 q2 more) ∧
    OwnOff more [Ds, Do, Dn, L+1+1+1+1+1+1+1+1, L+1+1+1+1+1+1+1, L+1+1+1+1+1+1, L+1+1+1+1+1, L+1+1+1+1, L+1+1+1, L+1+1, L+1, 57, 64] ∧
    m "script" = some (.ref l) ∧ m "order" = some (.ref Do) ∧ m "whole" = some (.int ks.sum tw) ∧ ∃ v3, o3.data = .cell v3

local macro_rules | `(tactic| walk_at "eval ListComp") => `(tactic| refine Stop.mk ?_)
local macro_rules | `(tactic| walk_at "execs cons") => `(tactic| ((with_reducible show wpAny _ _ (execs (Stmt.Assign [Expr.Name (Str.ofString "total") _] _ _ :: _) _) _ _ _); refine Stop.mk ?_))
theorem turn1 {nm q : Str} {pr : Arguments} {s0 s1 s2 s3 : Stmt} {tg it : Expr} {fp : Pos} {b1 b2 b3 b4 : Stmt} {rest : List Stmt} {sc : Scope} {oc dV kV doc pm cd ct cdv : Value} {an od : Option Addr} {osl : Array (Option Value)} {cl : List (Str × Addr)} {qual : Str} {f : Addr}
   (hK : (hd.heap_39 w.params).lookup 95 = some ⟨oc, od, .func (fnX nm q pr (s0 :: s1 :: s2 :: s3 :: .For tg it [b1, b2, b3, b4] [] fp :: rest) sc cl dV kV doc pm an cd ct), osl⟩)
   (G : Gd w p loose mean mg mb g) {L l Dn Do Ds I : Addr} {m : Str → Option Value} {vn vs : List Value} {ks : List Int} {oI ox o2 o3 o4 o5 o6 o7 o8 t5 t6 : Obj} {c cs i : Nat} {tw t : Tok} {more : List (Addr × Obj)} {v3 : Option Value}
   (F : Fr g L s.heap (kstB m [("number", .int i t), ("script", .ref l), ("order", .ref Do), ("whole", .int ks.sum tw)]))
   (N : News g L s.heap ((I, oI) :: (Ds, W.listOf vs.toArray cs) :: (Do, W.listOf #[] 0) :: (Dn, W.listOf vn.toArray c) :: (L+1+1+1+1+1+1+1+1, o8) :: (L+1+1+1+1+1+1+1, o7) :: (L+1+1+1+1+1+1, o6) :: (L+1+1+1+1+1, o5) :: (L+1+1+1+1, o4) :: (L+1+1+1, o3) :: (L+1+1, o2) :: (L+1, ox) :: (57, t5) :: (64, t6) :: more))
   (hI : IntsAre vn ks) (hgt : @LT.lt Nat _ (L+1+1+1+1+1+1+1+1) Dn) (hgt2 : @LT.lt Nat _ Dn Ds) (hgt3 : @LT.lt Nat _ Ds Do) (hgI : @LT.lt Nat _ Do I) (h7 : ks.length ≤ 7) (dx : ox.data = .cell (some (.ref Dn))) (d3 : o3.data = .cell v3) (l64 : @LT.lt Nat _ 64 L)
   (hof : OwnOff more [I, Ds, Do, Dn, L+1+1+1+1+1+1+1+1, L+1+1+1+1+1+1+1, L+1+1+1+1+1+1, L+1+1+1+1+1, L+1+1+1+1, L+1+1+1, L+1+1, L+1, 57, 64]) (h5 : t5 = tabObj #[] ∧ i = 0 ∨ Fill t5 79 q1 more) (hi : i < 128)
   (cont : ∀ Df fs o3' t5' more' h tk, @LT.lt Nat _ I Df → IntsAre fs (digs 1 ks.length i) → o3'.data = .cell (some (.ref Df)) → Fill t5' 79 q1 more' → (∀ q ∈ more, q ∈ more') → OwnOff more' ([I, Ds, Do, Dn, L+1+1+1+1+1+1+1+1, L+1+1+1+1+1+1+1, L+1+1+1+1+1+1, L+1+1+1+1+1, L+1+1+1+1, L+1+1+1, L+1+1, L+1, 57, 64]) →
      Fr g L h (kstB m [("number", .int i t), ("script", .ref l), ("order", .ref Do), ("whole", .int ks.sum tw)]) → News g L h ((Df, W.listOf fs.toArray 0) :: (I, oI) :: (Ds, W.listOf vs.toArray cs) :: (Do, W.listOf #[] 0) :: (Dn, W.listOf vn.toArray c) :: (L+1+1+1+1+1+1+1+1, o8) :: (L+1+1+1+1+1+1+1, o7) :: (L+1+1+1+1+1+1, o6) :: (L+1+1+1+1+1, o5) :: (L+1+1+1+1, o4) :: (L+1+1+1, o3') :: (L+1+1, o2) :: (L+1, ox) :: (57, t5') :: (64, t6) :: more') →
      wpAny (model prog w) (Ad 400 1000) (execs [b2, b3, b4] (envOfC qual sc L f cdv)) QF (fun _ _ => False) { s with heap := h, toks := tk }) :
   wpAny (model prog w) (Ad 400 1000) (execs [b1, b2, b3, b4] (envOfC qual sc L f cdv)) QF (fun _ _ => False) s := by
  have e := hK.symm.trans (by k_is : (hd.heap_39 w.params).lookup 95 = some _)
  cases e
  clear hK
  have X := G.X
  have T := G.T
  obtain ⟨sh, sg, sd, st, so⟩ := s
  k_unmd
  k_steps
  show Stop _
  unfold Stop
  rename Fr _ _ _ _ => F9
  rename News _ _ _ _ => N9
  have NP := newsTake 12 N9
  have NT := newsDrop 12 N9
  simp only [List.take_succ_cons, List.take_zero, List.drop_succ_cons, List.drop_zero] at NP NT
  refine i2d_any F9 G NP NT ?_ (fun q hq => hof q hq 57 (by simp)) (h5.imp (fun h => ⟨h.1, by omega⟩) id) (by omega) rfl (by simp only [depth_deeper]; decide) (by simp only [units_deeper]; decide) ?_
  · simp only [List.forall_mem_cons]
    refine ⟨?_, ?_, ?_, ?_, ?_, ?_, ?_, ?_, ?_, ?_, ?_, ?_, fun _ h => nomatch h⟩
    all_goals k_ne
  rintro D us cD t5' more' h8 tk8 h5' hm1 hm2 eD hmD ID F8 NP' NT'
  have hof' : OwnOff more' [I, Ds, Do, Dn, L+1+1+1+1+1+1+1+1, L+1+1+1+1+1+1+1, L+1+1+1+1+1+1, L+1+1+1+1+1, L+1+1+1+1, L+1+1+1, L+1+1, L+1, 57, 64] := offMore N9 (by simp) hof hm2
  have N8 := newsAdd2 F9 eD (NP' _ (.head _)).1 (newsApp (newsDrop 1 NP') NT')
  have hD := freshNe NP eD
  simp only [List.forall_mem_cons] at hD
  have hof'' := fun (q : Addr × Obj) hq => (List.forall_mem_cons.mpr ⟨hmD q hq, hof' q hq⟩ : ∀ a ∈ D :: _, @Ne Nat q.1 a)
  have hof2 : OwnOff more' (D :: [I, Ds, Do, Dn, L+1+1+1+1+1+1+1+1, L+1+1+1+1+1+1+1, L+1+1+1+1+1+1, L+1+1+1+1+1, L+1+1+1+1, L+1+1+1, L+1+1, L+1, 57, 64]) := hof''
  clear hof'' hof'
  simp only [List.drop_succ_cons, List.drop_zero, List.cons_append, List.nil_append] at N8
  clear F9 N9 NP NT NP' NT' hof eD
  have hdl : ((digsN 1 (dlen i 1) i).map fun (d : Nat) => (d : Int)).length ≤ 8 := by
    have := dlen_mul (n := 1) (x := i) (k := 7) (by omega)
    rw [List.length_map, digsN_length]; omega
  generalize hdd : ((digsN 1 (dlen i 1) i).map fun (d : Nat) => (d : Int)) = dd at *
  k_unmd
  (try dsimp only)
  k_steps
  show Stop _
  unfold Stop
  rename Fr _ _ _ _ => F6
  rename News _ _ _ _ => N6
  rename IntsAre _ (List.take _ _) => I6
  rename Obj.data _ = Data.cell (some (Value.ref _)) => d6
  have hfin : List.take (ks.length : Int).toNat (dd ++ (List.replicate (ks.length : Int).toNat [(0 : Int)]).flatten) = digs 1 ks.length i := by
    rw [Int.toNat_natCast, flat_rep, ← hdd, show (0 : Int) = ((0 : Nat) : Int) from rfl]
    exact pad_digs (dlen_lt (Nat.le_refl 1)) (by omega)
  try rw [hfin] at I6
  have N7 := newsApp (newsTake 1 N6) (newsDrop 5 N6)
  simp only [List.take_succ_cons, List.take_zero, List.drop_succ_cons, List.drop_zero, List.cons_append, List.nil_append] at N7
  refine cont _ _ _ _ more' _ _ ?_ I6 d6 h5' hm1 (offTail hof2) F6 N7
  omega

end

end
-- part L3
section
theorem fresh_L3 : True := by w_top off; exact trivial
-- needs: B1 M1 M2 M3 M4 M5 F4 T1 L2
section
variable {w : World} {p : Program} {loose : List Str} {mean : ExcName → Option Value} {mg mb : Str → Option Value} {g : Heap} {Q QF : Flow → Shared → Prop} {s : Shared}
local macro_rules | `(tactic| walk_at "call ref") => `(tactic| refine Stop.mk ?_)
local macro_rules | `(tactic| walk_at "pyIter ref") => `(tactic| refine Stop.mk ?_)
local macro_rules | `(tactic| walk_at "eval ListComp") => `(tactic| refine Stop.mk ?_)
local macro_rules | `(tactic| walk_at "CompSrcT") => `(tactic| refine StopP.mk ?_)
local macro_rules | `(tactic| walk_at "CompSrc") => `(tactic| refine StopP.mk ?_)
local macro_rules | `(tactic| walk_at "KCiEl") => `(tactic| refine StopP.mk ?_)
local macro_rules | `(tactic| walk_at "KCiNo") => `(tactic| refine StopP.mk ?_)
theorem turn2 {nm q : Str} {pr : Arguments} {s0 s1 s2 s3 : Stmt} {tg it : Expr} {fp : Pos} {b1 b2 b3 b4 : Stmt} {rest : List Stmt} {sc : Scope} {oc dV kV doc pm cd ct cdv : Value} {an od : Option Addr} {osl : Array (Option Value)} {cl : List (Str × Addr)} {qual : Str} {f : Addr}
   (hK : (hd.heap_39 w.params).lookup 95 = some ⟨oc, od, .func (fnX nm q pr (s0 :: s1 :: s2 :: s3 :: .For tg it [b1, b2, b3, b4] [] fp :: rest) sc cl dV kV doc pm an cd ct), osl⟩)
   (G : Gd w p loose mean mg mb g) {L l Dn Do Ds I Df : Addr} {m : Str → Option Value} {vn vs fs : List Value} {ks : List Int} {oI ox o2 o3 o4 o5 o6 o7 o8 t5 t6 : Obj} {c cs i : Nat} {tw t : Tok} {more : List (Addr × Obj)}
   (F : Fr g L s.heap (kstB m [("number", .int i t), ("script", .ref l), ("order", .ref Do), ("whole", .int ks.sum tw)]))
   (N : News g L s.heap ((Df, W.listOf fs.toArray 0) :: (I, oI) :: (Ds, W.listOf vs.toArray cs) :: (Do, W.listOf #[] 0) :: (Dn, W.listOf vn.toArray c) :: (L+1+1+1+1+1+1+1+1, o8) :: (L+1+1+1+1+1+1+1, o7) :: (L+1+1+1+1+1+1, o6) :: (L+1+1+1+1+1, o5) :: (L+1+1+1+1, o4) :: (L+1+1+1, o3) :: (L+1+1, o2) :: (L+1, ox) :: (57, t5) :: (64, t6) :: more))
   (hI : IntsAre vn ks) (hIf : IntsAre fs (digs 1 ks.length i)) (hIs : IntsAre vs ((List.range i).map (tot ks))) (hS : Sup ks) (hgt : @LT.lt Nat _ (L+1+1+1+1+1+1+1+1) Dn) (hgt2 : @LT.lt Nat _ Dn Ds) (hgt3 : @LT.lt Nat _ Ds Do) (hgI : @LT.lt Nat _ Do I) (hgf : @LT.lt Nat _ I Df) (h7 : ks.length ≤ 7) (dx : ox.data = .cell (some (.ref Dn))) (d2 : o2.data = .cell (some (.ref Ds))) (d3 : o3.data = .cell (some (.ref Df))) (l64 : @LT.lt Nat _ 64 L)
   (hof : OwnOff more [I, Ds, Do, Dn, L+1+1+1+1+1+1+1+1, L+1+1+1+1+1+1+1, L+1+1+1+1+1+1, L+1+1+1+1+1, L+1+1+1+1, L+1+1+1, L+1+1, L+1, 57, 64]) (h5 : Fill t5 79 q1 more) (h6 : t6 = tabObj #[] ∧ i = 0 ∨ Fill t6 94 q2 more) (hi : i < 2 ^ ks.length)
   (cont : ∀ m' vs' t6' more' h tk, IntsAre vs' ((List.range (i + 1)).map (tot ks)) → Fill t5 79 q1 more' → Fill t6' 94 q2 more' → OwnOff more' [I, Ds, Do, Dn, L+1+1+1+1+1+1+1+1, L+1+1+1+1+1+1+1, L+1+1+1+1+1+1, L+1+1+1+1+1, L+1+1+1+1, L+1+1+1, L+1+1, L+1, 57, 64] →
      m' "script" = some (.ref l) → m' "order" = some (.ref Do) → m' "whole" = some (.int ks.sum tw) → Fr g L h m' →
      News g L h ((I, oI) :: (Ds, W.listOf vs'.toArray (cs + 1)) :: (Do, W.listOf #[] 0) :: (Dn, W.listOf vn.toArray c) :: (L+1+1+1+1+1+1+1+1, o8) :: (L+1+1+1+1+1+1+1, o7) :: (L+1+1+1+1+1+1, o6) :: (L+1+1+1+1+1, o5) :: (L+1+1+1+1, o4) :: (L+1+1+1, o3) :: (L+1+1, o2) :: (L+1, ox) :: (57, t5) :: (64, t6') :: more') →
      QF .next { s with heap := h, toks := tk }) :
   wpAny (model prog w) (Ad 400 1000) (execs [b2, b3, b4] (envOfC qual sc L f cdv)) QF (fun _ _ => False) s := by
  have e := hK.symm.trans (by k_is : (hd.heap_39 w.params).lookup 95 = some _)
  cases e
  clear hK
  have X := G.X
  have T := G.T
  have hp7 : 2 ^ ks.length ≤ 128 := Nat.pow_le_pow_right (by decide) h7
  have hdl : (digs 1 ks.length i).length = ks.length := digs_length _ _ _
  have hsl : ((List.range i).map (tot ks)).length ≤ 128 := by simp; omega
  have hsn : (List.range (i + 1)).map (tot ks) = (List.range i).map (tot ks) ++ [tot ks i] := by rw [List.range_succ, List.map_append]; rfl
  rw [hsn] at cont
  generalize (List.range i).map (tot ks) = ss at *
  generalize hdd : digs 1 ks.length i = ds at *
  obtain ⟨sh, sg, sd, st, so⟩ := s
  k_unmd
  k_steps
  show Stop _
  unfold Stop
  rename Fr _ _ _ _ => F9
  refine LCt.ListComp_T (F₀ := F9) (by with_unfolding_all rfl) (by decide) (by rfl) (by decide) (by rfl) ?_
  k_steps
  show Stop _
  unfold Stop
  rename Fr _ _ _ _ => F9
  rename News _ _ _ _ => N9
  rename IsRange _ _ _ _ _ _ _ _ => R9
  refine LCt.CompSrcT.range rfl F9 N9 R9 (range_small (by omega) (by omega)) rangeSize_up (by rw [PySem.sizeLine_eq]; omega) ?_
  intro g'
  refine kci_range (fun l k => if ds.getD k.toNat 0 = 1 then l ++ [ks.getD k.toNat 0] else l) (fun k t I9 oI9 C9 oC9 D9 m2 ys l9 h9 tk9 E9 hlo hhi hI9 hC9 hx9 F8 N8 off9 ne9 hM => ?_) ?_ ?_
  · clear cont
    k_steps
    · rename List.getD ds _ _ = 1 => c9
      rename Fr _ _ _ _ => F6
      rename News _ _ _ _ => N6
      exact LCg.CompEnd.intro F6 N6 _ (fun p hp => hp) off9 trivial ⟨rfl, _, _, rfl, if_pos c9⟩
    · rename ¬ List.getD ds _ _ = 1 => c9
      rename Fr _ _ _ _ => F6
      rename News _ _ _ _ => N6
      exact LCg.CompEnd.intro F6 N6 _ (fun p hp => hp) off9 trivial ⟨rfl, if_neg c9⟩
  · unfold KPfDone
    intro ys hI9 _
    unfold LCg.FinE
    intro D9 h9 tk9 F8 N8 o9
    clear F9 N9 R9
    have hsum : (List.foldl (fun l k => if ds.getD k.toNat 0 = 1 then l ++ [ks.getD k.toNat 0] else l) [] (rangeKs 0 ks.length)).sum = tot ks i := by
      rw [← hdd]; exact picks_sum
    k_unmd
    (try dsimp only)
    k_steps
    show Stop _
    unfold Stop
    rename Fr _ _ _ _ => F9
    rename News _ _ _ _ => N9
    have hlot : lot ks (List.foldl (fun l k => if ds.getD k.toNat 0 = 1 then l ++ [ks.getD k.toNat 0] else l) [] (rangeKs 0 ks.length)).sum = some ds := by
      rw [hsum, lot_tot hS hi, hdd]
    refine use 490 1900 F9 N9 (law_lot_spec G F9.keep ⟨_, (N9 (Dn, W.listOf vn.toArray c) (by simp)).1, rfl, _, rfl⟩ hI hS.rise (by omega)) rfl (by simp only [depth_deeper]; decide) (by simp only [units_deeper]; decide) ?_
    intro r h7 tk7 hr F7 N7' hk7
    rw [hlot] at hr
    obtain ⟨D, us, rfl, eD, ⟨cD, gD⟩, hIu⟩ := hr
    have N7 := newsAdd2 F9 eD gD N7'
    have hDn := freshNe N9 eD
    simp only [List.forall_mem_cons] at hDn
    clear F9 N9 N7'
    k_unmd
    (try dsimp only)
    k_steps
    show Stop _
    unfold Stop
    rename Fr _ _ _ _ => F9
    rename News _ _ _ _ => N9
    have NP := newsDrop 2 (newsTake 15 N9)
    have NT := newsDrop 15 N9
    simp only [List.take_succ_cons, List.take_zero, List.drop_succ_cons, List.drop_zero] at NP NT
    rw [← hdd, digs_cast] at hIf
    refine d2i_any F9 G NP NT ?_ (fun q hq => hof q hq 64 (by simp)) (h6.imp And.left id) ⟨_, (NP (Df, W.listOf fs.toArray 0) (by simp)).1, rfl, _, rfl⟩ hIf (by rw [digsN_length]; omega) (fun d hd => by simpa using digsN_lt hd) rfl (by simp only [depth_deeper]; decide) (by simp only [units_deeper]; decide) ?_
    · simp only [List.forall_mem_cons]
      refine ⟨?_, ?_, ?_, ?_, ?_, ?_, ?_, ?_, ?_, ?_, ?_, ?_, ?_, fun _ h => nomatch h⟩
      all_goals k_ne
    rintro t8 t6' more' h8 tk8 h6' hm1 hm2 F8 NP' NT'
    have hof' : OwnOff more' [I, Ds, Do, Dn, L+1+1+1+1+1+1+1+1, L+1+1+1+1+1+1+1, L+1+1+1+1+1+1, L+1+1+1+1+1, L+1+1+1+1, L+1+1+1, L+1+1, L+1, 57, 64] := offMore N9 (by simp) hof hm2
    have N8 := newsApp NP' NT'
    simp only [List.drop_succ_cons, List.drop_zero, List.cons_append, List.nil_append] at N8
    clear F9 N9 NP NT NP' NT' hof
    rw [val_digsN (by simpa using hi)]
    clear hDn
    k_unmd
    (try dsimp only)
    k_steps
    · exact absurd rfl (by assumption)
    (try (dsimp only [List.cons_append, List.nil_append]; k_steps))
    rename Fr _ _ _ _ => F6
    rename News _ _ _ _ => N6
    rw [List.push_toArray, hsum] at N6
    exact cont _ _ _ more' _ _ (hIs.append (.cons _ _ .nil)) (h5.mono hm1) h6' hof' (by with_unfolding_all rfl) (by with_unfolding_all rfl) (by with_unfolding_all rfl) F6 (newsDrop 1 N6)
  · intro l k
    dsimp only
    split <;> simp
end

end
-- part L4
section
theorem fresh_L4 : True := by w_top off; exact trivial
-- needs: B1 M1 M2 M3 M4 M5 F4 T1 L2 L3
section
variable {w : World} {p : Program} {loose : List Str} {mean : ExcName → Option Value} {mg mb : Str → Option Value} {g : Heap} {Q QF : Flow → Shared → Prop} {s : Shared}
local macro_rules | `(tactic| walk_at "call ref") => `(tactic| refine Stop.mk ?_)
local macro_rules | `(tactic| walk_at "pyIter ref") => `(tactic| refine Stop.mk ?_)

theorem lawC {nm q : Str} {pr : Arguments} {s0 s1 s2 s3 : Stmt} {tg it : Expr} {fp : Pos} {b1 b2 b3 b4 : Stmt} {rest : List Stmt} {sc : Scope} {oc dV kV doc pm cd ct cdv : Value} {an od : Option Addr} {osl : Array (Option Value)} {cl : List (Str × Addr)} {qual : Str} {f : Addr}
   (hK : (hd.heap_39 w.params).lookup 95 = some ⟨oc, od, .func (fnX nm q pr (s0 :: s1 :: s2 :: s3 :: .For tg it [b1, b2, b3, b4] [] fp :: rest) sc cl dV kV doc pm an cd ct), osl⟩)
   (G : Gd w p loose mean mg mb g) {L l Dn Do Ds r : Addr} {m : Str → Option Value} {vn : List Value} {ks : List Int} {ox o2 o3 o4 o5 o6 o7 o8 : Obj} {c : Nat} {tw t₀ u₀ v₀ : Tok}
   (F : Fr g L s.heap m) (m1 : m "script" = some (.ref l)) (m2 : m "order" = some (.ref Do)) (m3 : m "whole" = some (.int ks.sum tw)) (R : IsRange s.heap r 0 ((2 : Int) ^ ((ks.length : Int).toNat)) 1 t₀ u₀ v₀)
   (N : News g L s.heap ((Ds, W.listOf #[] 0) :: (Do, W.listOf #[] 0) :: (Dn, W.listOf vn.toArray c) :: (L+1+1+1+1+1+1+1+1, o8) :: (L+1+1+1+1+1+1+1, o7) :: (L+1+1+1+1+1+1, o6) :: (L+1+1+1+1+1, o5) :: (L+1+1+1+1, o4) :: (L+1+1+1, o3) :: (L+1+1, o2) :: (L+1, ox) :: (57, tabObj #[]) :: (64, tabObj #[]) :: []))
   (hI : IntsAre vn ks) (hgt : @LT.lt Nat _ (L+1+1+1+1+1+1+1+1) Dn) (hgt2 : @LT.lt Nat _ Dn Ds) (hgt3 : @LT.lt Nat _ Ds Do) (hS : Sup ks) (h7 : ks.length ≤ 7) (dx : ox.data = .cell (some (.ref Dn))) (d2 : o2.data = .cell (some (.ref Ds))) (d3 : o3.data = .cell none) (l64 : @LT.lt Nat _ 64 L)
   (cont : ∀ m' vs cs o3' t5 t6 more h tk, IntsAre vs ((List.range (2 ^ ks.length)).map (tot ks)) → Fill t5 79 q1 more → Fill t6 94 q2 more → OwnOff more [Ds, Do, Dn, L+1+1+1+1+1+1+1+1, L+1+1+1+1+1+1+1, L+1+1+1+1+1+1, L+1+1+1+1+1, L+1+1+1+1, L+1+1+1, L+1+1, L+1, 57, 64] →
      m' "script" = some (.ref l) → m' "order" = some (.ref Do) → m' "whole" = some (.int ks.sum tw) → Fr g L h m' →
      News g L h ((Ds, W.listOf vs.toArray cs) :: (Do, W.listOf #[] 0) :: (Dn, W.listOf vn.toArray c) :: (L+1+1+1+1+1+1+1+1, o8) :: (L+1+1+1+1+1+1+1, o7) :: (L+1+1+1+1+1+1, o6) :: (L+1+1+1+1+1, o5) :: (L+1+1+1+1, o4) :: (L+1+1+1, o3') :: (L+1+1, o2) :: (L+1, ox) :: (57, t5) :: (64, t6) :: more) → QF .next { s with heap := h, toks := tk }) :
   wpAny (model prog w) (Ad 400 1000) (pyIter (.ref r)) (fun it s₂ => LoopAtV prog w (Ad 400 1000) g (envOfC qual sc L f cdv) "number" [b1, b2, b3, b4] QF (fun _ _ => False) it s₂) (fun _ _ => False) s := by
  have hK0 := hK
  have hpow : (2 : Int) ^ ((ks.length : Int).toNat) = ((2 ^ ks.length : Nat) : Int) := by simp
  have hp7 : 2 ^ ks.length ≤ 128 := Nat.pow_le_pow_right (by decide) h7
  have hp0 : 0 < 2 ^ ks.length := Nat.two_pow_pos _
  rw [hpow] at R
  have hsm : Builtin.Range.small 0 ((2 ^ ks.length : Nat) : Int) 1 = true := by
    generalize 2 ^ ks.length = pn at *
    exact range_small (by omega) (by omega)
  refine for_rangeG (L := L) (LoopJ L l Dn Do Ds vn c ks ox o2 o4 o5 o6 o7 o8 tw) rfl rfl R hsm rangeSize_up F N ⟨[], 0, _, _, _, [], rfl, .nil, .inl ⟨rfl, rfl⟩, .inl ⟨rfl, rfl⟩, (fun _ h => nomatch h), m1, m2, m3, _, d3⟩ ?_ ?_
  · rintro i t m1 news1 h tk I oI hi ⟨vs, cs, o3', t5, t6, more, rfl, hIs, h5, h6, hof, m1, m2, m3, v3, d3'⟩ hoI hltI F1 N1
    rw [Int.zero_add] at F1
    have F2 := frB [("number", .int i t), ("script", .ref l), ("order", .ref Do), ("whole", .int ks.sum tw)] F1 (by simp (decide := true) [m1, m2, m3])
    have hgI : @LT.lt Nat _ Do I := hltI (Do, W.listOf #[] 0) (.tail _ (.head _))
    have hof : OwnOff more [I, Ds, Do, Dn, L+1+1+1+1+1+1+1+1, L+1+1+1+1+1+1+1, L+1+1+1+1+1+1, L+1+1+1+1+1, L+1+1+1+1, L+1+1+1, L+1+1, L+1, 57, 64] := fun q hq a ha => by
      rcases List.mem_cons.mp ha with rfl | ha
      · exact hoI q (by simp [hq])
      · exact hof q hq a ha
    refine turn1 hK0 G (s := { s with heap := h, toks := tk }) F2 N1 hI hgt hgt2 hgt3 hgI h7 dx d3' l64 hof h5 (by omega) ?_
    intro Df fs o3'' t5' more' h8 tk8 hgf hIf d3'' h5' hm1 hof' F8 N8
    refine turn2 hK0 G (s := { s with heap := h8, toks := tk8 }) F8 N8 hI hIf hIs hS hgt hgt2 hgt3 hgI hgf h7 dx d2 d3'' l64 hof' h5' (h6.imp id fun x => x.mono hm1) hi ?_
    intro m' vs' t6' more'' h9 tk9 hIs' h5'' h6'' hof'' e1 e2 e3 F9 N9
    refine (show GEnd g L I oI _ _ _ from ⟨h9, tk9, m', _, rfl, F9, N9, ?_, vs', cs + 1, o3'', t5', t6', more'', rfl, hIs', .inr h5'', .inr h6'', offTail hof'', e1, e2, e3, _, d3''⟩)
    intro q hq
    rcases List.mem_append.mp (show q ∈ [_, _, _, _, _, _, _, _, _, _, _, _, _] ++ more'' from hq) with hq' | hq'
    · clear hq; revert q
      simp only [List.forall_mem_cons] at hoI ⊢
      refine ⟨?_, ?_, ?_, ?_, ?_, ?_, ?_, ?_, ?_, ?_, ?_, ?_, ?_, fun _ h => nomatch h⟩
      all_goals k_ne
    · exact hof'' q hq' I (.head _)
  · rintro m' nx h tk ⟨vs, cs, o3', t5, t6, more, rfl, hIs, h5, h6, hof, m1, m2, m3, v3, d3'⟩ F' N'
    refine cont m' vs cs o3' t5 t6 more h tk hIs (h5.resolve_left fun x => ?_) (h6.resolve_left fun x => ?_) hof m1 m2 m3 F' N'
    all_goals (have := x.2; omega)

theorem lawB {nm q : Str} {pr : Arguments} {s0 s1 s2 s3 s4 : Stmt} {rest : List Stmt} {sc : Scope} {oc dV kV doc pm cd ct cdv : Value} {an od : Option Addr} {osl : Array (Option Value)} {cl : List (Str × Addr)} {qual : Str} {f : Addr}
   (hK : (hd.heap_39 w.params).lookup 95 = some ⟨oc, od, .func (fnX nm q pr (s0 :: s1 :: s2 :: s3 :: s4 :: rest) sc cl dV kV doc pm an cd ct), osl⟩)
   (G : Gd w p loose mean mg mb g) {L l Dn : Addr} {m : Str → Option Value} {vn : List Value} {ks : List Int} {ox o2 o3 o4 o5 o6 o7 o8 : Obj} {c : Nat}
   (F : Fr g L s.heap m) (hm : m "script" = some (.ref l)) (N : News g L s.heap [(Dn, W.listOf vn.toArray c), (L+1+1+1+1+1+1+1+1, o8), (L+1+1+1+1+1+1+1, o7), (L+1+1+1+1+1+1, o6), (L+1+1+1+1+1, o5), (L+1+1+1+1, o4), (L+1+1+1, o3), (L+1+1, o2), (L+1, ox), (64, tabObj #[]), (57, tabObj #[])])
   (hI : IntsAre vn ks) (hgt : @LT.lt Nat _ (L+1+1+1+1+1+1+1+1) Dn) (hS : Sup ks) (h7 : ks.length ≤ 7) (dx : ox.data = .cell (some (.ref Dn))) (d2 : o2.data = .cell none) (d3 : o3.data = .cell none) (l64 : @LT.lt Nat _ 64 L) (l57 : @LT.lt Nat _ 57 L)
   (cont : ∀ Ds Do tw m' vs cs o2' o3' t5 t6 more h tk, @LT.lt Nat _ Dn Ds → @LT.lt Nat _ Ds Do → o2'.data = .cell (some (.ref Ds)) → IntsAre vs ((List.range (2 ^ ks.length)).map (tot ks)) → Fill t5 79 q1 more → Fill t6 94 q2 more → OwnOff more [Ds, Do, Dn, L+1+1+1+1+1+1+1+1, L+1+1+1+1+1+1+1, L+1+1+1+1+1+1, L+1+1+1+1+1, L+1+1+1+1, L+1+1+1, L+1+1, L+1, 57, 64] →
      m' "script" = some (.ref l) → m' "order" = some (.ref Do) → m' "whole" = some (.int ks.sum tw) → Fr g L h m' →
      News g L h ((Ds, W.listOf vs.toArray cs) :: (Do, W.listOf #[] 0) :: (Dn, W.listOf vn.toArray c) :: (L+1+1+1+1+1+1+1+1, o8) :: (L+1+1+1+1+1+1+1, o7) :: (L+1+1+1+1+1+1, o6) :: (L+1+1+1+1+1, o5) :: (L+1+1+1+1, o4) :: (L+1+1+1, o3') :: (L+1+1, o2') :: (L+1, ox) :: (57, t5) :: (64, t6) :: more) →
      wpAny (model prog w) (Ad 400 1000) (execs rest (envOfC qual sc L f cdv)) Q (fun _ _ => False) { s with heap := h, toks := tk }) :
   wpAny (model prog w) (Ad 400 1000) (execs (s2 :: s3 :: s4 :: rest) (envOfC qual sc L f cdv)) Q (fun _ _ => False) s := by
  have e := hK.symm.trans (by k_is : (hd.heap_39 w.params).lookup 95 = some _)
  cases e
  have hK0 := hK
  clear hK
  have X := G.X
  have T := G.T
  have F0 := frB [("script", .ref l)] F (by simp (decide := true) [hm])
  clear F
  obtain ⟨sh, sg, sd, st, so⟩ := s
  have hb := hS.small h7
  k_unmd
  k_steps
  show Stop _
  unfold Stop
  rename IsRange _ _ _ _ _ _ _ _ => R9
  rename Fr _ _ _ _ => F9
  rename News _ _ _ _ => N9
  rename Obj.data _ = Data.cell (some _) => d9
  refine lawC (c := c) (o3 := o3) (o4 := o4) (o5 := o5) (o6 := o6) (o7 := o7) (o8 := o8) (G := G) (hK := hK0) (F := F9) (m1 := by with_unfolding_all rfl) (m2 := by with_unfolding_all rfl) (m3 := by with_unfolding_all rfl) (R := R9) (N := newsSub N9 ?hsub) (hI := hI) (hgt := hgt) (hgt2 := ?g2) (hgt3 := ?g3) (hS := hS) (h7 := h7) (dx := dx) (d2 := d9) (d3 := d3) (l64 := l64) ?_
  case hsub => k_allIn
  case g2 => omega
  case g3 => omega
  intro m' vs cs o3' t5 t6 more h tk h1 h2 h3 h4 e1 e2 e3 F' N'
  exact cont _ _ _ m' vs cs _ o3' t5 t6 more h tk (by omega) (by omega) d9 h1 h2 h3 h4 e1 e2 e3 F' N'
end

end
-- part M6
section
theorem fresh_M6 : True := by w_top off; exact trivial
-- needs: B1
/-! each third one -/
theorem third_len (ss : List Int) : (PyProof.Rows.pickNums ss none none (some 3)).length ≤ ss.length := by
  unfold PyProof.Rows.pickNums
  refine Nat.le_trans (List.length_filterMap_le _ _) ?_
  unfold sliceRange sliceBounds
  simp only [List.length_map, List.length_range, Option.getD_some]
  split <;> (try split) <;> omega
theorem range_pair : ∀ n : Nat, (List.range n).Pairwise (· < ·)
  | 0 => .nil
  | n + 1 => by
    rw [List.range_succ, List.pairwise_append]
    refine ⟨range_pair n, by simp, fun a ha b hb => ?_⟩
    rw [List.mem_singleton.mp hb]; exact List.mem_range.mp ha
theorem third_rise {ss : List Int} (h : ss.Pairwise (· < ·)) : (PyProof.Rows.pickNums ss none none (some 3)).Pairwise (· < ·) := by
  unfold PyProof.Rows.pickNums
  rw [List.pairwise_filterMap]
  unfold sliceRange sliceBounds
  rw [List.pairwise_map]
  refine (range_pair _).imp ?_
  intro a b hab x hx y hy
  rw [List.pairwise_iff_getElem] at h
  obtain ⟨h1, rfl⟩ := List.getElem?_eq_some_iff.mp hx
  obtain ⟨h2, rfl⟩ := List.getElem?_eq_some_iff.mp hy
  refine h _ _ h1 h2 ?_
  simp only [Option.getD_some]
  simp
  omega
theorem take_lt {th : List Int} (h : th.Pairwise (· < ·)) {i : Nat} {n : Int} (hn : th[i]? = some n) : ∀ y ∈ th.take i, y < n := by
  intro y hy
  rw [List.pairwise_iff_getElem] at h
  obtain ⟨hi, rfl⟩ := List.getElem?_eq_some_iff.mp hn
  obtain ⟨j, hj, rfl⟩ := List.mem_iff_getElem.mp hy
  rw [List.getElem_take]
  exact h _ _ _ hi (by simp at hj; omega)
theorem rangeSize_to {a : Int} {n : Nat} : Builtin.Range.rangeSize a (a + (n : Int)) 1 = (n : Int) := by
  unfold Builtin.Range.rangeSize; simp; omega
theorem rangeSize_sub {a b : Int} : Builtin.Range.rangeSize a b 1 = ((b - a).toNat : Int) := by
  unfold Builtin.Range.rangeSize; simp; omega
theorem rise_at {ss : List Int} (h : ss.Pairwise (· < ·)) {i j : Nat} (hij : i < j) (hj : j < ss.length) : ss.getD i 0 < ss.getD j 0 := by
  rw [List.pairwise_iff_getElem] at h
  have := h i j (by omega) hj hij
  simpa [List.getD_eq_getElem?_getD, show i < ss.length by omega, hj] using this
theorem foldl_none (ks : List Int) (l : List Int) : ks.foldl (fun l _ => l) l = l := by
  induction ks with
  | nil => rfl
  | cons k r ih => exact ih
theorem abs_nat (s : Int) : (if s < 0 then -s else s) = (s.natAbs : Int) := by split <;> omega
theorem abs_mod (s : Int) (n : Nat) : (if s < 0 then -s else s).fmod (n : Int) = ((s.natAbs % n : Nat) : Int) := by
  rw [abs_nat, Int.fmod_eq_emod_of_nonneg _ (by omega), Int.natCast_emod]
theorem nat_fmod (a b : Nat) : (a : Int).fmod (b : Int) = ((a % b : Nat) : Int) := by
  rw [Int.fmod_eq_emod_of_nonneg _ (by omega), Int.natCast_emod]
theorem one_fmod (b : Nat) : (1 : Int).fmod (b : Int) = ((1 % b : Nat) : Int) := nat_fmod 1 b

end
-- part L5
section
theorem fresh_L5 : True := by w_top off; exact trivial
-- needs: B1 M1 M2 M3 M4 M5 M6 F3 T1
section
variable {w : World} {p : Program} {loose : List Str} {mean : ExcName → Option Value} {mg mb : Str → Option Value} {g : Heap} {Q QF : Flow → Shared → Prop} {s : Shared}
local macro_rules | `(tactic| walk_at "call ref") => `(tactic| refine Stop.mk ?_)
local macro_rules | `(tactic| walk_at "pyIter ref") => `(tactic| refine Stop.mk ?_)
local macro_rules | `(tactic| walk_at "exec For Name Subscript cons nil") => `(tactic| ((rename Fr _ _ _ _ => lF'); (with_unfolding_all refine' For_invVF lF' ?k1 ?k2 ?_; (case k1 => exact rfl); (case k2 => exact rfl); k_whole)))

theorem useChg2 {A : Around} {b : Heap} {L D : Addr} {o : Obj} {m : Str → Option Value} {na nb : List (Addr × Obj)} {t : Sem Value} {P : Value → Heap → Prop} {Q E : Value → Shared → Prop} (d u : Nat)
    (F : Fr b L s.heap m) (NA : News b L s.heap na) (NB : News b L s.heap nb) (ND : News b L s.heap [(D, o)]) (offA : ∀ q ∈ na, @Ne Nat q.1 D) (offB : ∀ q ∈ nb, @Ne Nat q.1 D) (h : wpAny (model prog w) (Ad d u) t (Chg D s P) E s) (hh : A.handled = none) (hd : A.depth ≤ d) (hu : A.units ≤ u)
    (cont : ∀ r h' tk, P r h' → Fr b L h' m → News b L h' na → News b L h' nb → (∀ o', h'.get? D = some o' → News b L h' [(D, o')]) → Q r { s with heap := h', toks := tk }) : wpAny (model prog w) A t Q E s := by
  refine useChg d u (D := D) (o := o) (nx := na ++ nb) F (fun q hq => ?_) (fun q hq => ?_) h hh hd hu fun r h' tk hp F' N' hk => cont r h' tk hp F' (fun q hq => N' q (List.mem_append_left _ hq)) (fun q hq => N' q (List.mem_append_right _ hq)) fun o' e q hq => ?_
  · rcases List.mem_cons.mp hq with rfl | hq
    · exact ND _ (.head _)
    · exact newsApp NA NB q hq
  · rcases List.mem_append.mp hq with hq | hq
    · exact offA q hq
    · exact offB q hq
  · rw [List.mem_singleton.mp hq]
    exact ⟨e, (ND _ (.head _)).2⟩
theorem insort_chg {l : Addr} {vs : List Value} {ns : List Int} {x : Int} {t : Tok} {c : Nat} {E : Value → Shared → Prop} (G : Gd w p loose mean mg mb g) (k : ∀ b o, g.get? b = some o → s.heap.get? b = some o)
   (hl : s.heap.get? l = some (W.listOf vs.toArray c)) (hg : g.get? l = none) (hi : IntsAre vs ns) (hs : ∀ y ∈ ns, y < x) (hlen : ns.length < 1000) :
   wpAny (model prog w) (Ad 490 1900) (call (.ref 32) [.ref l, .int x t]) (Chg l s fun _ h' => ∃ c', h'.get? l = some (W.listOf (vs ++ [Value.int x t]).toArray c')) E s := by
  refine wpAny_mono (insort_left_spec G k hl hg hi hs hlen) (fun r s' hr => ?_) fun _ _ e => e
  obtain ⟨h', tk, c', rfl, hk, e⟩ := hr
  exact ⟨h', tk, rfl, hk, c', e⟩
theorem lawD {nm q : Str} {pr : Arguments} {s0 s1 s2 s3 s4 s5 : Stmt} {rest : List Stmt} {sc : Scope} {oc dV kV doc pm cd ct cdv : Value} {an od : Option Addr} {osl : Array (Option Value)} {cl : List (Str × Addr)} {qual : Str} {f : Addr}
   (hK : (hd.heap_39 w.params).lookup 95 = some ⟨oc, od, .func (fnX nm q pr (s0 :: s1 :: s2 :: s3 :: s4 :: s5 :: rest) sc cl dV kV doc pm an cd ct), osl⟩)
   (G : Gd w p loose mean mg mb g) {L l Dn Ds Do : Addr} {m : Str → Option Value} {vn vs : List Value} {ks ss : List Int} {ox o2 o3 o4 o5 o6 o7 o8 t5 t6 : Obj} {c cs : Nat} {tw : Tok} {more : List (Addr × Obj)}
   (F : Fr g L s.heap m) (m1 : m "script" = some (.ref l)) (m2 : m "order" = some (.ref Do)) (m3 : m "whole" = some (.int ks.sum tw))
   (N : News g L s.heap ((Ds, W.listOf vs.toArray cs) :: (Do, W.listOf #[] 0) :: (Dn, W.listOf vn.toArray c) :: (L+1+1+1+1+1+1+1+1, o8) :: (L+1+1+1+1+1+1+1, o7) :: (L+1+1+1+1+1+1, o6) :: (L+1+1+1+1+1, o5) :: (L+1+1+1+1, o4) :: (L+1+1+1, o3) :: (L+1+1, o2) :: (L+1, ox) :: (57, t5) :: (64, t6) :: more))
   (hI : IntsAre vs ss) (hss : ss.length ≤ 128) (hsr : ss.Pairwise (· < ·)) (hgt : @LT.lt Nat _ (L+1+1+1+1+1+1+1+1) Dn) (hgt2 : @LT.lt Nat _ Dn Ds) (hgt3 : @LT.lt Nat _ Ds Do) (d2 : o2.data = .cell (some (.ref Ds))) (l64 : @LT.lt Nat _ 64 L)
   (hof : OwnOff more [Ds, Do, Dn, L+1+1+1+1+1+1+1+1, L+1+1+1+1+1+1+1, L+1+1+1+1+1+1, L+1+1+1+1+1, L+1+1+1+1, L+1+1+1, L+1+1, L+1, 57, 64])
   (cont : ∀ m' vo co h tk, IntsAre vo (PyProof.Rows.pickNums ss none none (some 3)) → m' "script" = some (.ref l) → m' "order" = some (.ref Do) → m' "whole" = some (.int ks.sum tw) → Fr g L h m' →
      News g L h ((Ds, W.listOf vs.toArray cs) :: (Do, W.listOf vo.toArray co) :: (Dn, W.listOf vn.toArray c) :: (L+1+1+1+1+1+1+1+1, o8) :: (L+1+1+1+1+1+1+1, o7) :: (L+1+1+1+1+1+1, o6) :: (L+1+1+1+1+1, o5) :: (L+1+1+1+1, o4) :: (L+1+1+1, o3) :: (L+1+1, o2) :: (L+1, ox) :: (57, t5) :: (64, t6) :: more) →
      wpAny (model prog w) (Ad 400 1000) (execs rest (envOfC qual sc L f cdv)) Q (fun _ _ => False) { s with heap := h, toks := tk }) :
   wpAny (model prog w) (Ad 400 1000) (execs (s5 :: rest) (envOfC qual sc L f cdv)) Q (fun _ _ => False) s := by
  have e := hK.symm.trans (by k_is : (hd.heap_39 w.params).lookup 95 = some _)
  cases e
  clear hK
  have X := G.X
  have T := G.T
  have F0 := frB [("script", .ref l), ("order", .ref Do), ("whole", .int ks.sum tw)] F (by simp (decide := true) [m1, m2, m3])
  clear F m1 m2 m3
  obtain ⟨sh, sg, sd, st, so⟩ := s
  k_unmd
  k_steps
  show Stop _
  unfold Stop
  rename Fr _ _ _ _ => F9
  rename News _ _ _ _ => N9
  have hlt : ∀ q ∈ (_ : List (Addr × Obj)), @LT.lt Nat _ q.1 (sh.objs.size + 1) := fun q hq => Nat.lt_succ_of_lt (Heap.lt_size (N q hq).1)
  dsimp only at N9
  generalize hD' : sh.objs.size + 1 = D' at *
  clear hD'
  obtain ⟨vt, hvt⟩ : ∃ vt : List Value, vt.toArray = slicePick vs.toArray none none (some 3) := ⟨_, Array.toArray_toList⟩
  have hIt : IntsAre vt (PyProof.Rows.pickNums ss none none (some 3)) := by
    have := IntsAre.pick hI none none (some 3)
    rw [← hvt] at this; simpa using this
  have hth := third_rise hsr
  have htl := third_len ss
  rw [← hvt] at N9
  generalize PyProof.Rows.pickNums ss none none (some 3) = th at *
  refine iter_invNL (fun i m' nx => ∃ (vo : List Value) (co : Nat), nx = (D', W.listOf vt.toArray 0) :: (Ds, W.listOf vs.toArray cs) :: (Do, W.listOf vo.toArray co) :: (Dn, W.listOf vn.toArray c) :: (L+1+1+1+1+1+1+1+1, o8) :: (L+1+1+1+1+1+1+1, o7) :: (L+1+1+1+1+1+1, o6) :: (L+1+1+1+1+1, o5) :: (L+1+1+1+1, o4) :: (L+1+1+1, o3) :: (L+1+1, o2) :: (L+1, ox) :: (57, t5) :: (64, t6) :: more ∧ IntsAre vo (th.take i) ∧ m' "script" = some (.ref l) ∧ m' "order" = some (.ref Do) ∧ m' "whole" = some (.int ks.sum tw)) rfl (.head _) hIt F9 N9 ⟨[], 0, rfl, .nil, by with_unfolding_all rfl, by with_unfolding_all rfl, by with_unfolding_all rfl⟩ ?_ ?_
  · clear F9 N9
    rintro i n t m1 news1 h tk own hn hadr hoff hmem ⟨vo, co, rfl, hIo, e1, e2, e3⟩ F1 N1
    have F2 := frB [("total", .int n t), ("script", .ref l), ("order", .ref Do), ("whole", .int ks.sum tw)] F1 (by simp (decide := true) [e1, e2, e3])
    clear F1
    simp only [List.cons_append] at N1
    simp only [List.map_cons] at hoff
    k_unmd
    k_fold
    k_steps
    show Stop _
    unfold Stop
    rename Fr _ _ _ _ => F8
    rename News _ _ _ _ => N8
    have NA := newsTake 2 N8
    have NO := newsTake 1 (newsDrop 2 N8)
    have NB := newsDrop 3 N8
    simp only [List.take_succ_cons, List.take_zero, List.drop_succ_cons, List.drop_zero] at NA NO NB
    have nO := NO _ (.head _)
    refine useChg2 490 1900 F8 NA NB NO ?_ ?_ (insort_chg G F8.keep nO.1 nO.2.2 hIo (take_lt hth hn) (by simp; omega)) rfl (by simp only [depth_deeper]; decide) (by simp only [units_deeper]; decide) ?_
    · simp only [List.forall_mem_cons]
      have := hlt (Do, W.listOf #[] 0) (.tail _ (.head _))
      refine ⟨?_, ?_, fun _ h => nomatch h⟩
      all_goals k_ne
    · simp only [List.forall_mem_cons]
      refine ⟨?_, ?_, ?_, ?_, ?_, ?_, ?_, ?_, ?_, ?_, ?_, fun q hq => ?_⟩
      any_goals (refine neN ?_; omega)
      rcases List.mem_append.mp hq with hq | hq
      · exact hof q hq Do (.tail _ (.head _))
      · exact hoff q hq Do (.tail _ (.tail _ (.head _)))
    rintro _ h7 tk7 ⟨c', hc'⟩ F7 NA' NB' hO
    have N7 := newsApp NA' (newsApp (hO _ hc') NB')
    simp only [List.cons_append, List.nil_append] at N7
    clear NA NO NB NA' NB' N8 F8
    k_unmd
    (try dsimp only)
    k_steps
    unfold Stop
    dsimp only [InvPostN]
    rename Fr _ _ _ _ => F6
    rename News _ _ _ _ => N6
    have hst : th.take (i + 1) = th.take i ++ [n] := by rw [List.take_add_one, hn]; rfl
    refine InvEndN.intro F6 N6 ⟨.head _, _, _, rfl, by rw [hst]; exact hIo.append (.cons _ _ .nil), by with_unfolding_all rfl, by with_unfolding_all rfl, by with_unfolding_all rfl⟩ (by rfl) (fun q hq => List.mem_append_left own hq) (fun q hq => List.mem_of_mem_drop (i := 14) (List.mem_append_right more hq))
  · rintro m1 news1 h tk _ ⟨vo, co, rfl, hIo, e1, e2, e3⟩ F1 N1
    rw [List.take_length] at hIo
    exact cont m1 vo co h tk hIo e1 e2 e3 F1 (newsDrop 1 N1)
end

end
-- part S1
section
theorem fresh_S1 : True := by w_top off; exact trivial
-- needs: B1
/-! sorted() of a list that rises already, of any length up to a thousand -/
section
open PyProof.Rows
theorem minRun_le : ∀ (f n r : Nat), r ≤ 1 → minRun' f n r ≤ n + r
  | 0, _, _, _ => Nat.le_refl _
  | f + 1, n, r, hr => by
    rw [minRun'_succ]
    split
    · exact Nat.le_refl _
    · have h1 : max r (n % 2) ≤ 1 := by omega
      have := minRun_le f (n / 2) _ h1
      omega
variable {prog : Program} {w : World} {A : Around} {E : Value → Shared → Prop} {s : Shared}
theorem runs_risen {a₀ : Array Keyed} {st : SortSt} {Q : Unit → SortSt → Prop} (h0 : IntKeys a₀) (hB : SBase a₀ st) (h2 : 2 ≤ a₀.size) (hs : SortedTo (arrOf st) a₀.size)
    (h : ∀ st', arrOf st' = arrOf st → failedOf st' = none → Q () st') : wpS (model prog w) A E s sortRuns' Q st := by
  rw [sortRuns'_eq]
  refine wpS_bind (wpS_get ?_)
  have hmr := minRun_le a₀.size a₀.size 0 (by decide)
  dsimp only
  simp only [hB.size]
  generalize minRun' a₀.size a₀.size 0 = mr at hmr
  refine wpS_bind (wpS_mono (wpS_forRange
    (I := fun x c st' => (x = 0 ∧ c = (none, 0) ∧ st' = st) ∨ (1 ≤ x ∧ c = (none, a₀.size) ∧ arrOf st' = arrOf st ∧ failedOf st' = none ∧ pendingOf st' = #[(0, a₀.size, 0)]))
    (Q := fun c st' => c = (none, a₀.size) ∧ arrOf st' = arrOf st ∧ failedOf st' = none ∧ pendingOf st' = #[(0, a₀.size, 0)]) ?turn ?last (.inl ⟨rfl, rfl, rfl⟩)) ?after)
  case last =>
    rintro c st' (⟨hx, _, _⟩ | ⟨_, hc⟩)
    · omega
    · exact hc
  case turn =>
    rintro x c st' _ hx (⟨rfl, rfl, rfl⟩ | ⟨_, rfl, hD⟩)
    · dsimp only
      rw [if_neg (by omega), Nat.sub_zero, countRun0_eq]
      refine wpS_bind (wpS_bind (wpS_ascLoop h0 (Nat.le_refl _) (Nat.le_refl 1) (by omega) hB (fun i j hij hj => hs i j hij (by omega)) fun n hn1 hn2 _ hor => ?_))
      have hn : n = a₀.size := by
        rcases hor with hn | hlt
        · exact hn
        · by_cases hne : n = a₀.size
          · exact hne
          · have := hs (n - 1) n (by omega) (by omega); omega
      subst hn
      dsimp only
      rw [if_pos (by simp)]
      refine wpS_pure ?_
      dsimp only
      rw [if_neg (by omega)]
      refine wpS_bind (wpS_get ?_)
      have hb : (pendingOf st').back? = none := by rw [hB.pend]; rfl
      rw [hb]
      dsimp only
      refine wpS_bind (wpS_modify (wpS_pure (.inr ⟨by omega, by simp, rfl, hB.failed, ?_⟩)))
      show (pendingOf st').push _ = _
      rw [hB.pend]; rfl
    · dsimp only
      rw [if_pos (Nat.le_refl _)]
      exact wpS_pure ⟨rfl, hD⟩
  case after =>
    rintro c st' ⟨rfl, hD⟩
    dsimp only
    refine wpS_bind (wpS_mono (wpS_forRange (I := fun _ c st'' => st'' = st' ∧ c = (none, ())) (Q := fun c st'' => st'' = st' ∧ c = (none, ())) ?_ (fun _ _ hh => hh) ⟨rfl, rfl⟩) ?_)
    · rintro x c st'' _ _ ⟨rfl, rfl⟩
      refine wpS_bind (wpS_get ?_)
      rw [if_pos (by rw [hD.2.2]; exact Nat.le_refl 1)]
      exact wpS_pure ⟨rfl, rfl⟩
    · rintro c st'' ⟨rfl, rfl⟩
      exact wpS_pure (h _ hD.1 hD.2.1)

theorem pairs_snd (vs : List Value) : (pairsOf vs).map (·.2) = vs.toArray := by
  apply Array.ext'
  rw [Array.toList_map, pairsOf_toList, List.toList_toArray]
  induction vs with
  | nil => rfl
  | cons v r ih => rw [List.zip_cons_cons, List.map_cons, ih]
theorem pairs_risen {vs : List Value} {ns : List Int} (hI : IntsAre vs ns) (hr : ns.Pairwise (· ≤ ·)) : SortedTo (pairsOf vs) (pairsOf vs).size := by
  intro i j hij hj
  rw [pairsOf_size] at hj
  have hlen := hI.length
  have key : ∀ k, k < vs.length → K (pairsOf vs) k = ns.getD k 0 := by
    intro k hk
    rw [K_eq (by rw [pairsOf_size]; exact hk)]
    obtain ⟨t, ht⟩ := hI.get k ns[k] (by simp [show k < ns.length by omega])
    have e : (pairsOf vs)[k]'(by rw [pairsOf_size]; exact hk) = (vs[k], vs[k]) := by simp [pairsOf]
    rw [e]
    have e2 : vs[k] = Value.int ns[k] t := by
      have := List.getElem?_eq_getElem hk
      rw [ht] at this; exact (Option.some.inj this).symm
    simp only [e2, List.getD_eq_getElem?_getD, List.getElem?_eq_getElem (show k < ns.length by omega)]
    rfl
  rw [key i (by omega), key j hj]
  rcases Nat.lt_or_eq_of_le hij with h | h
  · rw [List.pairwise_iff_getElem] at hr
    have := hr i j (by omega) (by omega) h
    simpa [List.getD_eq_getElem?_getD, show i < ns.length by omega, show j < ns.length by omega] using this
  · subst h; exact Int.le_refl _

theorem lsort_risen {a : Addr} {vs : List Value} {ns : List Int} {n : Nat} {P : Fin → Shared → Prop} (ho : s.heap.get? a = some (seqObj "list" vs.toArray n)) (hI : IntsAre vs ns) (hr : ns.Pairwise (· ≤ ·)) (hlen : vs.length ≤ 1000)
    (h : P (.done (.ret .none)) { s with heap := sortedHeap s.heap a vs vs.toArray }) : wpAny (model prog w) A (Builtin.«list.sort» ⟨[.ref a], []⟩) P E s := by
  rw [list_sort_plain]
  have ha : a < s.heap.objs.size := Heap.lt_size ho
  refine wpAny_bind (listItems_at ho rfl ?_)
  refine wpAny_bind (listUpdate_at ho rfl ?_ (by rw [sizeLine_eq, List.size_toArray]; omega) (Nat.zero_le _))
  obtain ⟨e1, ho1⟩ : ∃ e1, (s.heap.update a (Obj.mapSeq fun _ => #[])).get? a = some (seqObj "list" #[] e1) := ⟨_, get?_update_seq ho (fun _ => #[])⟩
  refine wpAny_bind (seqEpoch_at ho1 rfl ?_)
  refine wpAny_bind (wpAny_newTuple ?_)
  refine wpAny_bind (wpAny_newList ?_)
  refine wpAny_holding ?_
  have ho6 : (((s.heap.update a (Obj.mapSeq fun _ => #[])).push (seqObj "tuple" vs.toArray 0)).push (seqObj "list" #[] 0)).get? a = some (seqObj "list" #[] e1) := by
    rw [Heap.get?_push_ne _ _ _ (by rw [size_push', Heap.size_update]; exact Nat.ne_of_lt (Nat.lt_succ_of_lt ha)), Heap.get?_push_ne _ _ _ (by rw [Heap.size_update]; exact Nat.ne_of_lt ha)]
    exact ho1
  show wpAny (model prog w) A _ P E { s with heap := ((s.heap.update a (Obj.mapSeq fun _ => #[])).push (seqObj "tuple" vs.toArray 0)).push (seqObj "list" #[] 0) }
  dsimp only
  have hout : ∀ xs : Array Keyed, xs = pairsOf vs → xs.map (·.2) = vs.toArray := fun xs e => by rw [e, pairs_snd]
  by_cases h2 : vs.toArray.size < 2
  · rw [if_pos h2, if_pos h2]
    refine wpAny_bind (wpAny_pure ?_)
    rw [StateT.run_pure]
    refine wpAny_bind (wpAny_pure ?_)
    dsimp only
    refine wpAny_bind (seqEpoch_at ho6 rfl ?_)
    refine wpAny_bind (listUpdate_at ho6 rfl ?_ (Nat.zero_le _) (by rw [Array.size_map]; show (pairsOf vs).size ≤ _; rw [pairsOf_size, sizeLine_eq]; omega))
    simp only [bne_self_eq_false, Bool.false_eq_true, if_false]
    refine wpAny_pure ?_
    have e : (arrOf (SortSt.mk' general' (vs.toArray.zip vs.toArray) #[] 7 none)).map (·.2) = vs.toArray := hout _ rfl
    rw [e]
    exact h
  · rw [if_neg h2, if_neg h2]
    obtain ⟨v₁, v₂, rest, rfl⟩ : ∃ v₁ v₂ rest, vs = v₁ :: v₂ :: rest := by
      match vs, h2 with
      | [], h2 => simp at h2
      | [_], h2 => simp at h2
      | v₁ :: v₂ :: rest, _ => exact ⟨v₁, v₂, rest, rfl⟩
    rw [keyKind_ints hI]
    refine wpAny_bind (wpAny_pure ?_)
    refine wpAny_bind (wpAny_mono (runs_risen (a₀ := pairsOf (v₁ :: v₂ :: rest)) (st := SortSt.mk' oneType' ((v₁ :: v₂ :: rest).toArray.zip (v₁ :: v₂ :: rest).toArray) #[] 7 none)
      (Q := fun _ st' => arrOf st' = pairsOf (v₁ :: v₂ :: rest) ∧ failedOf st' = none)
      hI.intKeys ⟨Array.Perm.refl _, rfl, rfl, rfl⟩ (by rw [pairsOf_size]; simp) (pairs_risen hI hr) fun st' a1 a2 => ⟨a1, a2⟩) ?_ fun _ _ e => e)
    rintro ⟨⟨⟩, st'⟩ s' ⟨rfl, hp, hf⟩
    dsimp only
    refine wpAny_bind (seqEpoch_at ho6 rfl ?_)
    refine wpAny_bind (listUpdate_at ho6 rfl ?_ (Nat.zero_le _) (by rw [Array.size_map, hp, pairsOf_size, sizeLine_eq]; omega))
    rw [hf]
    simp only [bne_self_eq_false, Bool.false_eq_true, if_false]
    refine wpAny_pure ?_
    rw [hout _ hp]
    exact h

theorem sorted_risen {h₀ : Heap} {L l : Addr} {m : Str → Option Value} {news : List (Addr × Obj)} {vs : List Value} {ns : List Int} {Q : Value → Shared → Prop} (F : Fr h₀ L s.heap m) (N : News h₀ L s.heap news)
    (hl : s.heap.IsList l vs.toArray) (hI : IntsAre vs ns) (hr : ns.Pairwise (· ≤ ·)) (hlen : vs.length ≤ 1000)
    (h : ∀ D c h', Fr h₀ L h' m → News h₀ L h' ((D, W.listOf vs.toArray c) :: news) → (∀ q ∈ news, @LT.lt Nat _ q.1 D) → Q (.ref D) { s with heap := h' }) :
    wpAny (model prog w) A (call (.builtin "sorted") [.ref l]) Q E s := by
  refine Calls.call_function_entry kind_sorted plain_sorted entry_sorted (args_sorted1 _) ?_
  unfold Builtin.«sorted»
  refine wpAny_bind (m := checkCount "sorted" 1 1 _) (wpAny_pure ?_)
  refine wpAny_bind (collect_list hl ?_ (by rw [sizeLine_eq]; omega))
  refine wpAny_bind (wpAny_newList ?_)
  have hsz : ((s.heap.push (seqObj "list" #[] 0)).update s.heap.objs.size (Obj.mapSeq (· ++ vs.toArray))).objs.size = s.heap.objs.size + 1 := by
    rw [Heap.size_update, size_push']
  have hoL : (((s.heap.push (seqObj "list" #[] 0)).update s.heap.objs.size (Obj.mapSeq (· ++ vs.toArray))).push (seqObj "list" vs.toArray 0)).get? (s.heap.objs.size + 1) = some (seqObj "list" vs.toArray 0) := by
    rw [← hsz]; exact Heap.get?_push_size _ rfl
  show wpAny _ _ _ _ _ { s with heap := ((s.heap.push (seqObj "list" #[] 0)).update s.heap.objs.size (Obj.mapSeq (· ++ vs.toArray))).push (seqObj "list" vs.toArray 0) }
  rw [hsz]
  obtain ⟨e, he⟩ := sortedAll_at s.heap vs vs.toArray
  refine wpAny_bind (wpAny_holding (wpAny_call_entry slot_list_sort ⟨_, hoL, rfl⟩ entry_list_sort (lsort_risen hoL hI hr hlen ⟨_, rfl, ?_⟩) (args_list_sort _)))
  exact wpAny_pure ⟨_, rfl, h _ e _ (F.kept fun _ _ => sortedAll_old) (N.kept_cons F (fun _ _ => sortedAll_old) (Nat.le_succ _) he) fun p hp => Nat.lt_succ_of_lt (Heap.lt_size (N p hp).1)⟩
end

end
-- part L6
section
theorem fresh_L6 : True := by w_top off; exact trivial
-- needs: B1 M1 M2 M3 M4 M5 M6 T1 S1
section
variable {w : World} {p : Program} {loose : List Str} {mean : ExcName → Option Value} {mg mb : Str → Option Value} {g : Heap} {Q QF : Flow → Shared → Prop} {s : Shared}
local macro_rules | `(tactic| walk_at "call ref") => `(tactic| refine Stop.mk ?_)
local macro_rules | `(tactic| walk_at "pyIter ref") => `(tactic| refine Stop.mk ?_)
local macro_rules | `(tactic| walk_at "eval ListComp") => `(tactic| refine Stop.mk ?_)
local macro_rules | `(tactic| walk_at "CompSrcT") => `(tactic| refine StopP.mk ?_)
local macro_rules | `(tactic| walk_at "CompSrc") => `(tactic| refine StopP.mk ?_)
local macro_rules | `(tactic| walk_at "KCiEl") => `(tactic| refine StopP.mk ?_)
local macro_rules | `(tactic| walk_at "KCiNo") => `(tactic| refine StopP.mk ?_)
local macro_rules | `(tactic| walk_at "KCfEl") => `(tactic| refine StopP.mk ?_)
local macro_rules | `(tactic| walk_at "CompEnd") => `(tactic| refine StopP.mk ?_)
local macro_rules | `(tactic| walk_at "call builtin:sorted") => `(tactic| refine Stop.mk ?_)
local macro_rules | `(tactic| walk_at "subscriptTail Name Slice ref ref") => `(tactic| refine Stop.mk ?_)
local macro_rules | `(tactic| walk_at "execs cons") => `(tactic| ((with_reducible show wpAny _ _ (execs (Stmt.If (Expr.Compare (Expr.ListComp _ _ _ _) _ _ _) _ _ _ :: _) _) _ _ _); refine Stop.mk ?_))
theorem lawE {nm q : Str} {pr : Arguments} {s0 s1 s2 s3 s4 s5 s6 : Stmt} {rest : List Stmt} {sc : Scope} {oc dV kV doc pm cd ct cdv : Value} {an od : Option Addr} {osl : Array (Option Value)} {cl : List (Str × Addr)} {qual : Str} {f : Addr}
   (hK : (hd.heap_39 w.params).lookup 95 = some ⟨oc, od, .func (fnX nm q pr (s0 :: s1 :: s2 :: s3 :: s4 :: s5 :: s6 :: rest) sc cl dV kV doc pm an cd ct), osl⟩)
   (G : Gd w p loose mean mg mb g) {L l Dn Ds Do : Addr} {m : Str → Option Value} {vn vs vo : List Value} {ks ss : List Int} {ox o2 o3 o4 o5 o6 o7 o8 t5 t6 : Obj} {c cs co : Nat} {tw : Tok} {more : List (Addr × Obj)}
   (F : Fr g L s.heap m) (m1 : m "script" = some (.ref l)) (m2 : m "order" = some (.ref Do)) (m3 : m "whole" = some (.int ks.sum tw))
   (N : News g L s.heap ((Ds, W.listOf vs.toArray cs) :: (Do, W.listOf vo.toArray co) :: (Dn, W.listOf vn.toArray c) :: (L+1+1+1+1+1+1+1+1, o8) :: (L+1+1+1+1+1+1+1, o7) :: (L+1+1+1+1+1+1, o6) :: (L+1+1+1+1+1, o5) :: (L+1+1+1+1, o4) :: (L+1+1+1, o3) :: (L+1+1, o2) :: (L+1, ox) :: (57, t5) :: (64, t6) :: more))
   (hI : IntsAre vs ss) (hIo : IntsAre vo (PyProof.Rows.pickNums ss none none (some 3))) (hss : ss.length ≤ 128) (hsr : ss.Pairwise (· < ·)) (hgt : @LT.lt Nat _ (L+1+1+1+1+1+1+1+1) Dn) (hgt2 : @LT.lt Nat _ Dn Ds) (hgt3 : @LT.lt Nat _ Ds Do) (d2 : o2.data = .cell (some (.ref Ds))) (l64 : @LT.lt Nat _ 64 L)
   (hof : OwnOff more [Ds, Do, Dn, L+1+1+1+1+1+1+1+1, L+1+1+1+1+1+1+1, L+1+1+1+1+1+1, L+1+1+1+1+1, L+1+1+1+1, L+1+1+1, L+1+1, L+1, 57, 64])
   (cont : ∀ m' h tk, m' "script" = some (.ref l) → m' "whole" = some (.int ks.sum tw) → Fr g L h m' →
      News g L h ((Ds, W.listOf vs.toArray cs) :: (Dn, W.listOf vn.toArray c) :: (L+1+1+1+1+1+1+1+1, o8) :: (L+1+1+1+1+1+1+1, o7) :: (L+1+1+1+1+1+1, o6) :: (L+1+1+1+1+1, o5) :: (L+1+1+1+1, o4) :: (L+1+1+1, o3) :: (L+1+1, o2) :: (L+1, ox) :: (57, t5) :: (64, t6) :: more) →
      wpAny (model prog w) (Ad 400 1000) (execs rest (envOfC qual sc L f cdv)) Q (fun _ _ => False) { s with heap := h, toks := tk }) :
   wpAny (model prog w) (Ad 400 1000) (execs (s6 :: rest) (envOfC qual sc L f cdv)) Q (fun _ _ => False) s := by
  have e := hK.symm.trans (by k_is : (hd.heap_39 w.params).lookup 95 = some _)
  cases e
  clear hK
  have X := G.X
  have T := G.T
  have F0 := frB [("script", .ref l), ("order", .ref Do), ("whole", .int ks.sum tw)] F (by simp (decide := true) [m1, m2, m3])
  clear F m1 m2 m3
  obtain ⟨sh, sg, sd, st, so⟩ := s
  have htl := third_len ss
  k_unmd
  k_steps
  show Stop _
  unfold Stop
  rename Fr _ _ _ _ => F9
  rename News _ _ _ _ => N9
  have hvl := hI.length
  refine sorted_risen F9 N9 (N9.isList (.head _)) hI (hsr.imp fun h => Int.le_of_lt h) (by omega) ?_
  intro D1 c1 h1 F8 N8 l1
  simp only [List.forall_mem_cons] at l1
  clear F9 N9
  k_unmd
  (try dsimp only)
  k_steps
  show Stop _
  unfold Stop
  rename Fr _ _ _ _ => F9
  refine LCt.ListComp_T (F₀ := F9) (by with_unfolding_all rfl) (by decide) (by rfl) (by decide) (by rfl) ?_
  k_steps
  show Stop _
  unfold Stop
  rename Fr _ _ _ _ => F9
  rename News _ _ _ _ => N9
  rename IsRange _ _ _ _ _ _ _ _ => R9
  refine LCt.CompSrcT.range rfl F9 N9 R9 (range_small (by omega) (by omega)) rangeSize_sub (by rw [PySem.sizeLine_eq]; omega) ?_
  intro g'
  refine kci_range (fun l _ => l) (fun k t I9 oI9 C9 oC9 D9 m2 ys l9 h9 tk9 E9 hlo hhi hI9 hC9 hx9 F8 N8 off9 ne9 hM => ?_) ?_ (fun l k => Nat.le_succ _)
  · clear cont F9 N9 R9 l1 htl
    k_steps
    · exfalso
      rename List.getD ss _ _ = List.getD ss _ _ => c9
      have := rise_at hsr (i := (k - 1).toNat) (j := k.toNat) (by omega) (by omega)
      omega
    · rename ¬ List.getD ss _ _ = List.getD ss _ _ => c9
      rename Fr _ _ _ _ => F6
      rename News _ _ _ _ => N6
      exact LCg.CompEnd.intro F6 N6 _ (fun p hp => hp) off9 trivial ⟨rfl, rfl⟩
  · unfold KPfDone
    rw [foldl_none]
    intro ys hI9 _
    cases hI9
    unfold LCg.FinE
    intro D9 h9 tk9 F8 N8 o9
    clear F9 N9 R9
    k_unmd
    (try dsimp only)
    k_steps
    show Stop _
    unfold Stop
    rename Fr _ _ _ _ => F9
    rename News _ _ _ _ => N9
    refine slice_list3 F9 N9 (News.isList (n := cs) N9 (by k_mem)) .none .none (.int _ _) (by decide) ?_
    intro h6 F6 N6
    obtain ⟨vt, hvt⟩ : ∃ vt : List Value, vt.toArray = slicePick vs.toArray none none (some 3) := ⟨_, Array.toArray_toList⟩
    have hIt : IntsAre vt (PyProof.Rows.pickNums ss none none (some 3)) := by
      have := IntsAre.pick hI none none (some 3)
      rw [← hvt] at this; simpa using this
    rw [← hvt] at N6
    generalize PyProof.Rows.pickNums ss none none (some 3) = th at *
    clear F9 N9 hvt
    k_unmd
    (try dsimp only)
    k_steps
    show Stop _
    unfold Stop
    rename Fr _ _ _ _ => F5
    rename News _ _ _ _ => N5
    have N4 := newsDrop 4 N5
    simp only [List.drop_succ_cons, List.drop_zero] at N4
    have N3 := newsApp (newsTake 1 N4) (newsDrop 2 N4)
    simp only [List.take_succ_cons, List.take_zero, List.drop_succ_cons, List.drop_zero, List.cons_append, List.nil_append] at N3
    exact cont _ _ _ (by with_unfolding_all rfl) (by with_unfolding_all rfl) F5 N3
end

end
-- part L7
section
theorem fresh_L7 : True := by w_top off; exact trivial
-- needs: B1 M1 M2 M3 M4 M5 M6 T1 F4
section
variable {w : World} {p : Program} {loose : List Str} {mean : ExcName → Option Value} {mg mb : Str → Option Value} {g : Heap} {Q QF : Flow → Shared → Prop} {s : Shared}
local macro_rules | `(tactic| walk_at "call ref") => `(tactic| refine Stop.mk ?_)
local macro_rules | `(tactic| walk_at "pyIter ref") => `(tactic| refine Stop.mk ?_)
local macro_rules | `(tactic| walk_at "eval ListComp") => `(tactic| refine Stop.mk ?_)
local macro_rules | `(tactic| walk_at "CompSrcT") => `(tactic| refine StopP.mk ?_)
local macro_rules | `(tactic| walk_at "CompSrc") => `(tactic| refine StopP.mk ?_)
local macro_rules | `(tactic| walk_at "KCiEl") => `(tactic| refine StopP.mk ?_)
local macro_rules | `(tactic| walk_at "KCiNo") => `(tactic| refine StopP.mk ?_)
local macro_rules | `(tactic| walk_at "KCfEl") => `(tactic| refine StopP.mk ?_)
local macro_rules | `(tactic| walk_at "CompEnd") => `(tactic| refine StopP.mk ?_)
local macro_rules | `(tactic| walk_at "execs cons") => `(tactic| ((with_reducible show wpAny _ _ (execs (Stmt.Assign [Expr.Name (Str.ofString "count") _] _ _ :: _) _) _ _ _); refine Stop.mk ?_))
theorem lawF {nm q : Str} {pr : Arguments} {s0 s1 s2 s3 s4 s5 s6 s7 : Stmt} {rest : List Stmt} {sc : Scope} {oc dV kV doc pm cd ct cdv : Value} {an od : Option Addr} {osl : Array (Option Value)} {cl : List (Str × Addr)} {qual : Str} {f : Addr}
   (hK : (hd.heap_39 w.params).lookup 95 = some ⟨oc, od, .func (fnX nm q pr (s0 :: s1 :: s2 :: s3 :: s4 :: s5 :: s6 :: s7 :: rest) sc cl dV kV doc pm an cd ct), osl⟩)
   (G : Gd w p loose mean mg mb g) {L l Dn Ds : Addr} {m : Str → Option Value} {vn vs : List Value} {ks ss : List Int} {ox o2 o3 o4 o5 o6 o7 o8 t5 t6 : Obj} {c cs : Nat} {tw : Tok} {more : List (Addr × Obj)}
   (F : Fr g L s.heap m) (m1 : m "script" = some (.ref l)) (m3 : m "whole" = some (.int ks.sum tw))
   (N : News g L s.heap ((Ds, W.listOf vs.toArray cs) :: (Dn, W.listOf vn.toArray c) :: (L+1+1+1+1+1+1+1+1, o8) :: (L+1+1+1+1+1+1+1, o7) :: (L+1+1+1+1+1+1, o6) :: (L+1+1+1+1+1, o5) :: (L+1+1+1+1, o4) :: (L+1+1+1, o3) :: (L+1+1, o2) :: (L+1, ox) :: (57, t5) :: (64, t6) :: more))
   (hI : IntsAre vs ss) (hn : IntsAre vn ks) (hS : Sup ks) (h7 : ks.length ≤ 7) (hss : ss.length ≤ 128) (hlot : ∀ k : Int, 0 ≤ k → k ≤ ks.sum → (lot ks k = none ↔ k ∉ ss)) (hgt : @LT.lt Nat _ (L+1+1+1+1+1+1+1+1) Dn) (hgt2 : @LT.lt Nat _ Dn Ds) (dx : ox.data = .cell (some (.ref Dn))) (d2 : o2.data = .cell (some (.ref Ds))) (l64 : @LT.lt Nat _ 64 L)
   (cont : ∀ m' h tk, m' "script" = some (.ref l) → m' "whole" = some (.int ks.sum tw) → Fr g L h m' →
      News g L h ((Dn, W.listOf vn.toArray c) :: (L+1+1+1+1+1+1+1+1, o8) :: (L+1+1+1+1+1+1+1, o7) :: (L+1+1+1+1+1+1, o6) :: (L+1+1+1+1+1, o5) :: (L+1+1+1+1, o4) :: (L+1+1+1, o3) :: (L+1+1, o2) :: (L+1, ox) :: (57, t5) :: (64, t6) :: more) →
      wpAny (model prog w) (Ad 400 1000) (execs rest (envOfC qual sc L f cdv)) Q (fun _ _ => False) { s with heap := h, toks := tk }) :
   wpAny (model prog w) (Ad 400 1000) (execs (s7 :: rest) (envOfC qual sc L f cdv)) Q (fun _ _ => False) s := by
  have e := hK.symm.trans (by k_is : (hd.heap_39 w.params).lookup 95 = some _)
  cases e
  clear hK
  have X := G.X
  have T := G.T
  have F0 := frB [("script", .ref l), ("whole", .int ks.sum tw)] F (by simp (decide := true) [m1, m3])
  clear F m1 m3
  obtain ⟨sh, sg, sd, st, so⟩ := s
  have hb := hS.small h7
  k_unmd
  k_steps
  show Stop _
  unfold Stop
  rename Fr _ _ _ _ => F9
  refine LCt.ListComp_T (F₀ := F9) (by with_unfolding_all rfl) (by decide) (by rfl) (by decide) (by rfl) ?_
  k_steps
  show Stop _
  unfold Stop
  rename Fr _ _ _ _ => F9
  rename News _ _ _ _ => N9
  rename IsRange _ _ _ _ _ _ _ _ => R9
  refine LCt.CompSrcT.range rfl F9 N9 R9 (range_small (by omega) (by omega)) rangeSize_sub (by rw [PySem.sizeLine_eq]; omega) ?_
  intro g'
  refine kci_range (fun l _ => l) (fun k t I9 oI9 C9 oC9 D9 m2 ys l9 h9 tk9 E9 hlo hhi hI9 hC9 hx9 F8 N8 off9 ne9 hM => ?_) ?_ (fun l k => Nat.le_succ _)
  · clear cont F9 N9 R9
    k_steps
    show Stop _
    unfold Stop
    rename Fr _ _ _ _ => F9
    rename News _ _ _ _ => N9
    refine use 490 1900 F9 N9 (law_lot_spec G F9.keep (News.isList (n := c) N9 (by k_mem)) hn hS.rise (by omega)) rfl (by simp only [depth_deeper]; decide) (by simp only [units_deeper]; decide) ?_
    intro r h7 tk7 hr F7 N7 hk7
    have hlk := hlot k hlo (by omega)
    clear hM
    cases hlt : lot ks k with
    | none =>
      rw [hlt] at hr
      subst hr
      have hnk := hlk.mp hlt
      clear F9 N9
      k_unmd
      (try dsimp only)
      have hany : (ss.any fun x => x == k) = false := by simp only [List.any_eq_false, beq_iff_eq]; exact fun x hx e => hnk (e ▸ hx)
      k_steps
      · exfalso
        rename (_ == List.any _ _) = true => c9
        rw [hany] at c9; cases c9
      · rename Fr _ _ _ _ => F6
        rename News _ _ _ _ => N6
        exact LCg.CompEnd.intro F6 N6 _ (fun p hp => hp) off9 trivial ⟨rfl, rfl⟩
    | some fs =>
      rw [hlt] at hr
      obtain ⟨D, us, rfl, eD, ⟨cD, gD⟩, hIu⟩ := hr
      have hnk : k ∈ ss := Classical.byContradiction fun hn => by rw [hlk.mpr hn] at hlt; cases hlt
      clear F9 N9
      k_unmd
      (try dsimp only)
      have hany : (ss.any fun x => x == k) = true := by simpa using hnk
      k_steps
      · exfalso
        rename (_ == List.any _ _) = true => c9
        rw [hany] at c9; cases c9
      · rename Fr _ _ _ _ => F6
        rename News _ _ _ _ => N6
        exact LCg.CompEnd.intro F6 N6 _ (fun p hp => hp) off9 trivial ⟨rfl, rfl⟩
  · unfold KPfDone
    rw [foldl_none]
    intro ys hI9 _
    cases hI9
    unfold LCg.FinE
    intro D9 h9 tk9 F8 N8 o9
    clear F9 N9 R9
    k_unmd
    (try dsimp only)
    k_steps
    show Stop _
    unfold Stop
    rename Fr _ _ _ _ => F5
    rename News _ _ _ _ => N5
    exact cont _ _ _ (by with_unfolding_all rfl) (by with_unfolding_all rfl) F5 (newsDrop 3 N5)
end

end
-- part L8
section
local macro_rules | `(tactic| walk_at "gf pad") => `(tactic| fail "pad")
theorem fresh_L8 : True := by w_top off; exact trivial
-- needs: B1 M1 M2 M3 M4 M5 M6 T1
section
variable {w : World} {p : Program} {loose : List Str} {mean : ExcName → Option Value} {mg mb : Str → Option Value} {g : Heap} {Q QF : Flow → Shared → Prop} {s : Shared}
local macro_rules | `(tactic| walk_at "call ref") => `(tactic| refine Stop.mk ?_)
local macro_rules | `(tactic| walk_at "pyIter ref") => `(tactic| refine Stop.mk ?_)
local macro_rules | `(tactic| walk_at "eval ListComp") => `(tactic| refine Stop.mk ?_)
local macro_rules | `(tactic| walk_at "CompSrcT") => `(tactic| refine StopP.mk ?_)
local macro_rules | `(tactic| walk_at "CompSrc") => `(tactic| refine StopP.mk ?_)
local macro_rules | `(tactic| walk_at "KCiEl") => `(tactic| refine StopP.mk ?_)
local macro_rules | `(tactic| walk_at "KCiNo") => `(tactic| refine StopP.mk ?_)
local macro_rules | `(tactic| walk_at "KCfEl") => `(tactic| refine StopP.mk ?_)
local macro_rules | `(tactic| walk_at "CompEnd") => `(tactic| refine StopP.mk ?_)
local macro_rules | `(tactic| walk_at "execs cons") => `(tactic| ((with_reducible show wpAny _ _ (execs (Stmt.Assign [Expr.Name (Str.ofString "times") _] _ _ :: _) _) _ _ _); refine Stop.mk ?_))
theorem lawG {nm q : Str} {pr : Arguments} {s0 s1 s2 s3 s4 s5 s6 s7 s8 : Stmt} {rest : List Stmt} {sc : Scope} {oc dV kV doc pm cd ct cdv : Value} {an od : Option Addr} {osl : Array (Option Value)} {cl : List (Str × Addr)} {qual : Str} {f : Addr}
   (hK : (hd.heap_39 w.params).lookup 95 = some ⟨oc, od, .func (fnX nm q pr (s0 :: s1 :: s2 :: s3 :: s4 :: s5 :: s6 :: s7 :: s8 :: rest) sc cl dV kV doc pm an cd ct), osl⟩)
   (G : Gd w p loose mean mg mb g) {L l Dn : Addr} {m : Str → Option Value} {vn vz : List Value} {ks ns : List Int} {ox o2 o3 o4 o5 o6 o7 o8 t5 t6 : Obj} {c : Nat} {tw : Tok} {more : List (Addr × Obj)}
   (F : Fr g L s.heap m) (m1 : m "script" = some (.ref l)) (m3 : m "whole" = some (.int ks.sum tw))
   (N : News g L s.heap ((Dn, W.listOf vn.toArray c) :: (L+1+1+1+1+1+1+1+1, o8) :: (L+1+1+1+1+1+1+1, o7) :: (L+1+1+1+1+1+1, o6) :: (L+1+1+1+1+1, o5) :: (L+1+1+1+1, o4) :: (L+1+1+1, o3) :: (L+1+1, o2) :: (L+1, ox) :: (57, t5) :: (64, t6) :: more))
   (hl : g.IsList l vz.toArray) (hz : IntsAre vz ns) (hlen : ns.length ≤ 63) (hgt : @LT.lt Nat _ (L+1+1+1+1+1+1+1+1) Dn) (d4 : o4.data = .cell none) (l64 : @LT.lt Nat _ 64 L)
   (hof : OwnOff more [Dn, L+1+1+1+1+1+1+1+1, L+1+1+1+1+1+1+1, L+1+1+1+1+1+1, L+1+1+1+1+1, L+1+1+1+1, L+1+1+1, L+1+1, L+1, 57, 64])
   (cont : ∀ m' o4' tc h tk, o4'.data = .cell (some (.int (ks.sum + 1 + (ns.sum.natAbs % 5 : Nat)) tc)) → m' "script" = some (.ref l) → Fr g L h m' →
      News g L h ((Dn, W.listOf vn.toArray c) :: (L+1+1+1+1+1+1+1+1, o8) :: (L+1+1+1+1+1+1+1, o7) :: (L+1+1+1+1+1+1, o6) :: (L+1+1+1+1+1, o5) :: (L+1+1+1+1, o4') :: (L+1+1+1, o3) :: (L+1+1, o2) :: (L+1, ox) :: (57, t5) :: (64, t6) :: more) →
      wpAny (model prog w) (Ad 400 1000) (execs rest (envOfC qual sc L f cdv)) Q (fun _ _ => False) { s with heap := h, toks := tk }) :
   wpAny (model prog w) (Ad 400 1000) (execs (s8 :: rest) (envOfC qual sc L f cdv)) Q (fun _ _ => False) s := by
  have e := hK.symm.trans (by k_is : (hd.heap_39 w.params).lookup 95 = some _)
  cases e
  clear hK
  have X := G.X
  have T := G.T
  have F0 := frB [("script", .ref l), ("whole", .int ks.sum tw)] F (by simp (decide := true) [m1, m3])
  clear F m1 m3
  obtain ⟨sh, sg, sd, st, so⟩ := s
  k_unmd
  k_steps
  show Stop _
  unfold Stop
  rename Fr _ _ _ _ => F5
  rename News _ _ _ _ => N5
  rename Obj.data _ = Data.cell (some (Value.int _ _)) => d5
  rw [show (5 : Int) = ((5 : Nat) : Int) from rfl, abs_mod] at d5
  exact cont _ _ _ _ _ d5 (by with_unfolding_all rfl) F5 N5
end

end
-- part C1
section
theorem fresh_C1 : True := by w_top off; exact trivial
-- needs: B1
/-! a list comprehension whose own name is a cell (a comprehension within it closes over it) -/
section
open PyProof.Rows PyProof.Rows.LCg
theorem newEnv_around {M : Model} {A : Around} {E : Value → Shared → Prop} {s : Shared} {env : Env} {scope : Scope} {globals : Addr} {cl : List (Str × Addr)} {x : Str} {qual : Str} {Q : Env → Shared → Prop}
    (hc1 : ∀ n, cellsFrom n scope.names cl = (x, n) :: cl) (hc2 : ∀ h, pushCells h scope.names = h.push { cls := .type "cell", data := .cell none })
    (h : Q { scope, locals := s.heap.objs.size, globals, cells := (x, s.heap.objs.size + 1) :: cl, qual, func := none, code := env.code, frame := env.frame, builtins := env.builtins }
      { s with heap := (s.heap.push { cls := .type "dict", data := .dict #[] }).push { cls := .type "cell", data := .cell none } }) :
    wpAny M A (newFunctionEnv scope globals cl [] qual none .none (some env)) Q E s := by
  simp only [newFunctionEnv, Option.isSome_some, if_true]
  refine wpAny_bind (wpAny_alloc ?_)
  refine wpAny_bind (wpAny_layCells _ (fun name kind cells => by cases hkc : kind == NameKind.cell <;> simp [hkc]) _ _ _ _ ?_)
  rw [hc1, hc2, show ({ s with heap := s.heap.push { cls := .type "dict", data := .dict #[] } } : Shared).heap.objs.size = s.heap.objs.size + 1 from Heap.size_push ..]
  exact wpAny_bind (wpAny_pure (wpAny_pure h))

variable {prog : Program} {w : World} {A : Around} {E : Value → Shared → Prop} {s : Shared} {h₀ : Heap} {L : Addr} {m : Str → Option Value} {env : Env}
theorem Assign_comp_cell {ct iter : Expr} {x y : Str} {px px2 py : Pos} {scope : Scope} {cl : List (Str × Addr)} {pos spos : Pos} {Q : Flow → Shared → Prop} (pz : Int → Bool) (hLe : env.locals = L)
    (hsw : swapsWith (.ListComp (.Name x px2) [⟨.Name x px, iter, [ct], 0⟩] scope pos) (some (.Name y py)) spos.line env = pure true)
    (hclos : closureFor scope env = pure cl) (hc1 : ∀ n, cellsFrom n scope.names cl = (x, n) :: cl) (hc2 : ∀ h, pushCells h scope.names = h.push { cls := .type "cell", data := .cell none }) (hkind : scope.kind = .function)
    (hnames : ∀ z ∈ scope.names, z.2 = .local → scope.names.lookup z.1 = some .local) (hx : ∀ C c, (compEnvC scope c C env).kindOf x = some .cell) (hxd : (x == ("__debug__" : Str)) = false)
    (hy : env.kindOf y = some .local) (hp : (env.scope.kind == .class || (env.scope.kind == .module && env.locals != env.globals)) = false)
    (h : wpAny (model prog w) A (eval iter env) (fun xv s₁ => Box (∃ r a b t u v, ∃ n : Nat, ∃ news : List (Addr × Obj), xv = .ref r ∧ A.handled = none ∧ Fr h₀ L s₁.heap m ∧ News h₀ L s₁.heap news ∧ IsRange s₁.heap r a b 1 t u v ∧ Builtin.Range.small a b 1 = true ∧
        Builtin.Range.rangeSize a b 1 = ((n : Nat) : Int) ∧ n ≤ sizeLine ∧
        (∀ s₂ : Shared, (∃ h, s₂ = { s₁ with heap := h }) → ∀ k t I oI C oC K oK D oD h tk (E' : Value → Shared → Prop), a ≤ k → k < a + (n : Int) → oK.data = .cell (some (.int k t)) → Fr h₀ L h m → News h₀ L h ((K, oK) :: (I, oI) :: (C, oC) :: (D, oD) :: news) →
          wpAny (model prog w) A (isTrue ct (compEnvC scope ((x, K) :: cl) C env) (eval ct (compEnvC scope ((x, K) :: cl) C env)))
            (fun ok s' => ok = pz k ∧ ∃ h' tk', s' = { s₂ with heap := h', toks := tk' } ∧ Fr h₀ L h' m ∧ News h₀ L h' ((K, oK) :: (I, oI) :: (C, oC) :: (D, oD) :: news)) E' { s₂ with heap := h, toks := tk }) ∧
        (∀ s₂ : Shared, (∃ h, s₂ = { s₁ with heap := h }) → ∀ D ys c h tk, IntsAre ys ((rangeKs a n).filter pz) → Fr h₀ L h (fun z => if z = y then some (.ref D) else m z) → News h₀ L h ((D, W.listOf ys.toArray c) :: news) → (∀ q ∈ news, @Ne Nat q.1 D) → Q .next { s₂ with heap := h, toks := tk }))) E s)
    (hs : ∀ x, foldedSetIterable iter env x = pure x) :
    wpAny (model prog w) A (exec (.Assign [.Name y py] (.ListComp (.Name x px2) [⟨.Name x px, iter, [ct], 0⟩] scope pos) spos) env) Q E s := by
  subst hLe
  rw [exec_Assign_Name_used _ _ _ _ hsw]
  refine wpAny_bind (wpAny_standAt (wpAny_bind ?_))
  show wpAny _ A (do let _ ← comprehension (.ListComp (.Name x px2) [⟨.Name x px, iter, [ct], 0⟩] scope pos) scope env _ (newList []) false (eval iter env) (some (assign (.Name y py) env))) _ _ s
  refine wpAny_bind (wpAny_mono (wpAny_comprehension_free (use := some (assign (.Name y py) env)) (Q := fun _ s' => Q .next s') rfl hs hclos hkind hnames
    (wpAny_mono h (fun xv s₁ h₁ => ?_) fun _ _ e => e)) (fun _ s' hq => wpAny_pure (wpAny_pure hq)) fun _ _ e => e)
  obtain ⟨r, a, b, t, u, v, n, news, rfl, hh, F, N, hr, hsm, hn, hsz, turn, fin⟩ := h₁
  refine wpAny_pyIter_range hr hsm ?_
  have W := range_walks (prog := prog) (w := w) (I := s₁.heap.objs.size) hh a n
  refine wpAny_newObj_type (newEnv_around hc1 hc2 ?_)
  generalize hI : s₁.heap.objs.size = I at *
  have z1 : (s₁.heap.push { cls := .type "range_iterator", data := .fields #[rawInt a, rawInt (Builtin.Range.rangeSize a b 1), rawInt 1] }).objs.size = I + 1 := by rw [Heap.size_push, hI]
  have gI : (s₁.heap.push { cls := .type "range_iterator", data := .fields #[rawInt a, rawInt (Builtin.Range.rangeSize a b 1), rawInt 1] }).get? I = some { cls := .type "range_iterator", data := .fields #[rawInt a, rawInt (Builtin.Range.rangeSize a b 1), rawInt 1] } := by rw [← hI]; exact Heap.get?_push_size _ rfl
  have old1 : ∀ b' o, s₁.heap.get? b' = some o → (s₁.heap.push { cls := .type "range_iterator", data := .fields #[rawInt a, rawInt (Builtin.Range.rangeSize a b 1), rawInt 1] }).get? b' = some o := fun b' o e => Heap.get?_push_of_some _ e
  dsimp only
  generalize s₁.heap.push { cls := .type "range_iterator", data := .fields #[rawInt a, rawInt (Builtin.Range.rangeSize a b 1), rawInt 1] } = H1 at *
  rw [z1]
  have z2 : (H1.push { cls := .type "list", dict := none, data := .seq ([] : List Value).toArray }).objs.size = I + 2 := by rw [Heap.size_push, z1]
  have gD : (H1.push { cls := .type "list", dict := none, data := .seq ([] : List Value).toArray }).get? (I + 1) = some (lst []) := by rw [← z1]; exact Heap.get?_push_size _ rfl
  have old2 : ∀ b' o, H1.get? b' = some o → (H1.push { cls := .type "list", dict := none, data := .seq ([] : List Value).toArray }).get? b' = some o := fun b' o e => Heap.get?_push_of_some _ e
  generalize H1.push { cls := .type "list", dict := none, data := .seq ([] : List Value).toArray } = H2 at *
  rw [z2]
  have z3 : (H2.push { cls := .type "dict", data := .dict #[] }).objs.size = I + 3 := by rw [Heap.size_push, z2]
  have gC : (H2.push { cls := .type "dict", data := .dict #[] }).get? (I + 2) = some { cls := .type "dict", data := .dict #[] } := by rw [← z2]; exact Heap.get?_push_size _ rfl
  have nC : (H2.push { cls := .type "dict", data := .dict #[] }).Ns (I + 2) (fun _ => none) := by rw [← z2]; exact Heap.Ns.new H2 (.type "dict")
  have old3 : ∀ b' o, H2.get? b' = some o → (H2.push { cls := .type "dict", data := .dict #[] }).get? b' = some o := fun b' o e => Heap.get?_push_of_some _ e
  generalize H2.push { cls := .type "dict", data := .dict #[] } = H3 at *
  have gK : (H3.push { cls := .type "cell", data := .cell none }).get? (I + 3) = some { cls := .type "cell", data := .cell none } := by rw [← z3]; exact Heap.get?_push_size _ rfl
  have old4 : ∀ b' o, H3.get? b' = some o → (H3.push { cls := .type "cell", data := .cell none }).get? b' = some o := fun b' o e => Heap.get?_push_of_some _ e
  generalize H3.push { cls := .type "cell", data := .cell none } = H4 at *
  have gI4 := old4 _ _ (old3 _ _ (old2 _ _ gI))
  have gD4 := old4 _ _ (old3 _ _ gD)
  have gC4 := old4 _ _ gC
  have nC4 : H4.Ns (I + 2) (fun _ => none) := nC.at' fun o e => old4 _ o e
  have old : ∀ b' o, s₁.heap.get? b' = some o → H4.get? b' = some o := fun b' o e => old4 _ _ (old3 _ _ (old2 _ _ (old1 _ _ e)))
  clear old1 old2 old3 old4 gI gD gC nC z1 z2 z3
  have lt0 : ∀ b' o, s₁.heap.get? b' = some o → @LT.lt Nat _ b' I := fun b' o e => hI ▸ Heap.lt_size e
  have hLI : @LT.lt Nat _ env.locals I := hI ▸ F.ns.lt
  have fresh : ∀ b' : Nat, I ≤ b' → h₀.get? b' = none := fun b' hb => by
    cases e : h₀.get? b' with
    | none => rfl
    | some o => exact absurd (lt0 _ _ (F.keep _ _ e)) (Nat.not_lt.mpr hb)
  have nlt : ∀ q ∈ news, @LT.lt Nat _ q.1 I := fun q hq => lt0 _ _ (N q hq).1
  rw [hn] at gI4
  have st0 : IsRangeIter H4 I (a + ((0 : Nat) : Int) * 1) ((n : Int) - ((0 : Nat) : Int)) 1 := by show _ = _; simpa using gI4
  obtain ⟨oC, eC, hoC⟩ := ns_obj nC4
  have neL : ∀ j : Nat, @Ne Nat (I + j) env.locals := fun j => by refine neN ?_; omega
  have news0 : News h₀ env.locals H4 ((I + 3, { cls := .type "cell", data := .cell none }) :: (I + 2, oC) :: (I + 1, lst []) :: news) := fun q hq => by
    rcases List.mem_cons.mp hq with rfl | hq
    · exact ⟨gK, neL 3, fresh _ (by omega)⟩
    rcases List.mem_cons.mp hq with rfl | hq
    · exact ⟨eC, neL 2, fresh _ (by omega)⟩
    rcases List.mem_cons.mp hq with rfl | hq
    · exact ⟨gD4, neL 1, fresh _ (by omega)⟩
    · exact ⟨old _ _ (N q hq).1, (N q hq).2⟩
  have loop : ∀ s₃ : Shared, s₃ = { s₁ with heap := H4 } →
      codeAny (model prog w) A (.compLoop (.ListComp (.Name x px2) [⟨.Name x px, iter, [ct], 0⟩] scope pos) 0 (.ref I) (.ref (I + 1)) (compEnvC scope ((x, I + 3) :: cl) (I + 2) env))
        (compPost (model prog w) A E (some (assign (.Name y py) env)) (fun _ s' => Q .next s') (.ref (I + 1)) (I + 2)) s₃ := by
    rintro s₃ rfl
    refine codeAny_compLoop_tests
      (fun k s' => ∃ h' tk i ys oK ck, s' = { s₁ with heap := h', toks := tk } ∧ i ≤ n ∧ k = n + 1 - i ∧ ys.length ≤ i ∧ IntsAre ys (((rangeKs a n).take i).filter pz) ∧ IsRangeIter h' I (a + (i : Nat) * 1) ((n : Int) - (i : Nat)) 1 ∧ Fr h₀ env.locals h' m ∧
        oK.data = .cell ck ∧ News h₀ env.locals h' ((I + 3, oK) :: (I + 2, oC) :: (I + 1, lst ys) :: news)) ?_ (n + 1)
      ⟨H4, _, 0, [], _, _, rfl, Nat.zero_le _, rfl, Nat.le_refl _, by simpa using IntsAre.nil, st0, F.keeps old, rfl, news0⟩
    rintro k s' ⟨h', tk, i, ys, oK, ck, rfl, hi, rfl, hyl, hyi, hst, F', dK, N'⟩
    have off : ∀ q ∈ (I + 3, oK) :: (I + 2, oC) :: (I + 1, lst ys) :: news, @Ne Nat q.1 I := fun q hq => by
      rcases List.mem_cons.mp hq with rfl | hq
      · refine neN ?_; dsimp only; omega
      rcases List.mem_cons.mp hq with rfl | hq
      · refine neN ?_; dsimp only; omega
      rcases List.mem_cons.mp hq with rfl | hq
      · refine neN ?_; dsimp only; omega
      · exact Nat.ne_of_lt (nlt q hq)
    have hLI' : env.locals ≠ I := Nat.ne_of_lt hLI
    by_cases hlt : i < n
    · refine W.item i _ _ _ hlt hst fun v h₂ tk₂ hPv hst₂ hk₂ => ?_
      obtain ⟨t, rfl⟩ := hPv
      have F₂ := fr_but F' hk₂ hLI' (fresh _ (Nat.le_refl _))
      have N₂ := news_but N' hk₂ off
      have nK := N₂ _ (.head _)
      refine wpAny_assign_Name (wpAny_storeName_cell (by simp [compEnvC, relabel, hkind]) (hx _ _) (by simp [compEnvC]) ⟨oK, nK.1, dK⟩ (fun h₃ hcell hs₃ => ?_))
      refine wpAny_tests_one ?_
      obtain ⟨oK', eK, dK'⟩ := hcell
      have hK₀ : h₀.get? (I + 3) = none := fresh _ (by omega)
      have F₃ : Fr h₀ env.locals h₃ m := F₂.change hs₃ (neL 3) hK₀
      have hst₃ : IsRangeIter h₃ I (a + (i + 1 : Nat) * 1) ((n : Int) - (i + 1 : Nat)) 1 := hs₃.extBut _ _ (by refine neN ?_; omega) hst₂
      obtain ⟨oI, heI⟩ : ∃ o, h₃.get? I = some o := ⟨_, hst₃⟩
      have N₃ : News h₀ env.locals h₃ ((I + 3, oK') :: (I, oI) :: (I + 2, oC) :: (I + 1, lst ys) :: news) := fun q hq => by
        rcases List.mem_cons.mp hq with rfl | hq
        · exact ⟨eK, neL 3, hK₀⟩
        rcases List.mem_cons.mp hq with rfl | hq
        · exact ⟨heI, Ne.symm hLI', fresh _ (Nat.le_refl _)⟩
        · have z := N₂ q (.tail _ hq)
          refine ⟨hs₃.extBut _ _ ?_ z.1, z.2⟩
          rcases List.mem_cons.mp hq with rfl | hq
          · refine neN ?_; dsimp only; omega
          rcases List.mem_cons.mp hq with rfl | hq
          · refine neN ?_; dsimp only; omega
          · have := nlt q hq
            refine neN ?_; omega
      have hki : (rangeKs a n)[i]? = some (a + (i : Int)) := by simp [rangeKs, hlt]
      have htk : (rangeKs a n).take (i + 1) = (rangeKs a n).take i ++ [a + (i : Int)] := by rw [List.take_add_one, hki]; rfl
      refine wpAny_mono (turn { s₁ with heap := h₃ } ⟨_, rfl⟩ (a + i) t I oI (I + 2) oC (I + 3) oK' (I + 1) (lst ys) h₃ tk₂ _ (by omega) (by omega) dK' F₃ N₃) (fun ok s₄ h₄ => ?_) fun _ _ e => e
      obtain ⟨rfl, h₄, tk₄, rfl, F₄, N₄⟩ := h₄
      have zI := (N₄ (I, oI) (.tail _ (.head _))).1
      have zK := (N₄ (I + 3, oK') (.head _)).1
      have zD := (N₄ (I + 1, lst ys) (.tail _ (.tail _ (.tail _ (.head _))))).1
      have hst₄ : IsRangeIter h₄ I (a + (i + 1 : Nat) * 1) ((n : Int) - (i + 1 : Nat)) 1 := by
        have e : h₃.get? I = some _ := hst₃
        show h₄.get? I = some _
        rw [zI, ← heI]; exact e
      have N₄' : News h₀ env.locals h₄ ((I + 3, oK') :: (I + 2, oC) :: (I + 1, lst ys) :: news) := fun q hq => by
        rcases List.mem_cons.mp hq with rfl | hq
        · exact N₄ _ (.head _)
        · exact N₄ _ (.tail _ (.tail _ hq))
      cases hpz : pz (a + (i : Int)) with
      | false =>
        simp only [Bool.false_eq_true, if_false]
        exact ⟨n + 1 - (i + 1), by omega, h₄, tk₄, i + 1, ys, oK', _, rfl, hlt, rfl, Nat.le_succ_of_le hyl, by rw [htk, List.filter_append]; simpa [hpz] using hyi, hst₄, F₄, dK', N₄'⟩
      | true =>
        simp only [if_true]
        refine wpAny_Name (wpAny_loadName_cell (by simp [compEnvC, relabel, hkind]) (hx _ _) (by simp [compEnvC]) ⟨oK', zK, dK'⟩ ?_) hxd
        refine append_at (hsz := by show ys.toArray.size ≤ sizeLine; rw [List.size_toArray]; exact Nat.le_trans (Nat.le_trans hyl hi) hsz) zD fun h₅ hs₅ hD₅ => ?_
        have hD₀ : h₀.get? (I + 1) = none := fresh _ (by omega)
        refine ⟨n + 1 - (i + 1), by omega, h₅, tk₄, i + 1, ys ++ [.int (a + i) t], oK', _, rfl, hlt, rfl, by rw [List.length_append, List.length_singleton]; exact Nat.succ_le_succ hyl, ?_, hs₅.extBut _ _ (by refine neN ?_; omega) hst₄, F₄.change hs₅ (neL 1) hD₀, dK', fun q hq => ?_⟩
        · rw [htk, List.filter_append]
          have : List.filter pz [a + (i : Int)] = [a + (i : Int)] := by simp [hpz]
          rw [this]
          exact hyi.append (.cons _ _ .nil)
        · rcases List.mem_cons.mp hq with rfl | hq
          · exact ⟨hs₅.extBut _ _ (by refine neN ?_; dsimp only; omega) zK, neL 3, hK₀⟩
          rcases List.mem_cons.mp hq with rfl | hq
          · have z := N₄' _ (.tail _ (.head _))
            exact ⟨hs₅.extBut _ _ (by refine neN ?_; dsimp only; omega) z.1, z.2⟩
          rcases List.mem_cons.mp hq with rfl | hq
          · exact ⟨hD₅.trans (congrArg some (lst_snoc ys _)), neL 1, hD₀⟩
          · have z := N₄' _ (.tail _ (.tail _ (.tail _ hq)))
            have := nlt q hq
            exact ⟨hs₅.extBut _ _ (by refine neN ?_; omega) z.1, z.2⟩
    · obtain rfl : i = n := Nat.le_antisymm hi (Nat.not_lt.mp hlt)
      refine W.done _ _ _ hst fun h₂ tk₂ hk₂ => ?_
      have F₂ := fr_but F' hk₂ hLI' (fresh _ (Nat.le_refl _))
      have N₂ := news_but N' hk₂ off
      rw [List.take_of_length_le (by rw [rangeKs_length]; exact Nat.le_refl _)] at hyi
      show wpAny _ A (assign (.Name y py) env (.ref (I + 1))) _ _ _
      refine wpAny_assign_Name (wpAny_storeName_local hy F₂.ns (fun h₃ hn₃ hs₃ => ?_) hp)
      have hL₀ : h₀.get? env.locals = none := Heap.get?_none_of_le F₂.above
      have F₃ : Fr h₀ env.locals h₃ (fun z => if z = y then some (.ref (I + 1)) else m z) := ⟨hn₃, fun b o e => hs₃.extBut b o (fun q => by rw [q, hL₀] at e; cases e) (F₂.keep b o e), F₂.above⟩
      have hC₀ : h₀.get? (I + 2) = none := fresh _ (by omega)
      have nsC : h₂.Ns (I + 2) _ := hoC.ns (N₂ _ (.tail _ (.head _))).1
      refine ⟨_, nsC.sameBut hs₃ (neL 2), fun h₄ hs₄ => fin { s₁ with heap := h₃ } ⟨_, rfl⟩ (I + 1) ys ys.length h₄ _ hyi (F₃.change hs₄ (neL 2) hC₀) (fun q hq => ?_) fun q hq => ?_⟩
      · have z := N₂ q (.tail _ (.tail _ hq))
        refine ⟨hs₄.extBut _ _ ?_ (hs₃.extBut _ _ z.2.1 z.1), z.2⟩
        rcases List.mem_cons.mp hq with rfl | hq
        · refine neN ?_; dsimp only; omega
        · have := nlt q hq
          refine neN ?_; omega
      · have := nlt q hq
        refine neN ?_; omega
  exact codeAny_compStart_list (loop _ rfl) (W.self 0 _ _ _ st0 (loop _ rfl))
end

end
-- part L9
section
theorem fresh_L9 : True := by w_top off; exact trivial
-- needs: B1 M1 M2 M3 M4 M5 M6 T1 C1
section
variable {w : World} {p : Program} {loose : List Str} {mean : ExcName → Option Value} {mg mb : Str → Option Value} {g : Heap} {Q QF : Flow → Shared → Prop} {s : Shared}
local macro_rules | `(tactic| walk_at "call ref") => `(tactic| refine Stop.mk ?_)
local macro_rules | `(tactic| walk_at "pyIter ref") => `(tactic| refine Stop.mk ?_)
local macro_rules | `(tactic| walk_at "eval ListComp") => `(tactic| refine Stop.mk ?_)
local macro_rules | `(tactic| walk_at "CompSrcT") => `(tactic| refine StopP.mk ?_)
local macro_rules | `(tactic| walk_at "CompSrc") => `(tactic| refine StopP.mk ?_)
local macro_rules | `(tactic| walk_at "KCiEl") => `(tactic| refine StopP.mk ?_)
local macro_rules | `(tactic| walk_at "KCiNo") => `(tactic| refine StopP.mk ?_)
local macro_rules | `(tactic| walk_at "KCfEl") => `(tactic| refine StopP.mk ?_)
local macro_rules | `(tactic| walk_at "CompEnd") => `(tactic| refine StopP.mk ?_)
local macro_rules | `(tactic| walk_at "exec Assign cons ListComp") => `(tactic| refine Stop.mk ?_)
/-- the common divisors of k and count from two on -/
def times1 (cnt k : Int) : List Int := (rangeKs 2 (k + 1 - 2).toNat).foldl (fun l j => if k.fmod j = 0 ∧ cnt.fmod j = 0 then l ++ [j] else l) []
theorem lawH {nm q : Str} {pr : Arguments} {s0 s1 s2 s3 s4 s5 s6 s7 s8 s9 : Stmt} {rest : List Stmt} {sc : Scope} {oc dV kV doc pm cd ct cdv : Value} {an od : Option Addr} {osl : Array (Option Value)} {cl : List (Str × Addr)} {qual : Str} {f : Addr}
   (hK : (hd.heap_39 w.params).lookup 95 = some ⟨oc, od, .func (fnX nm q pr (s0 :: s1 :: s2 :: s3 :: s4 :: s5 :: s6 :: s7 :: s8 :: s9 :: rest) sc cl dV kV doc pm an cd ct), osl⟩)
   (G : Gd w p loose mean mg mb g) {L l Dn : Addr} {m : Str → Option Value} {vn : List Value} {ks : List Int} {ox o2 o3 o4 o5 o6 o7 o8 t5 t6 : Obj} {c : Nat} {tc : Tok} {cnt : Int} {more : List (Addr × Obj)}
   (F : Fr g L s.heap m) (m1 : m "script" = some (.ref l))
   (N : News g L s.heap ((Dn, W.listOf vn.toArray c) :: (L+1+1+1+1+1+1+1+1, o8) :: (L+1+1+1+1+1+1+1, o7) :: (L+1+1+1+1+1+1, o6) :: (L+1+1+1+1+1, o5) :: (L+1+1+1+1, o4) :: (L+1+1+1, o3) :: (L+1+1, o2) :: (L+1, ox) :: (57, t5) :: (64, t6) :: more))
   (hc1 : 1 ≤ cnt) (hc2 : cnt ≤ 650) (d4 : o4.data = .cell (some (.int cnt tc))) (l64 : @LT.lt Nat _ 64 L)
   (cont : ∀ D ys c9 m' h tk, IntsAre ys ((rangeKs 1 (cnt + 1 - 1).toNat).filter fun k => decide (times1 cnt k = [])) → @Ne Nat D (L+1+1+1+1+1) → m' "script" = some (.ref l) → m' "times" = some (.ref D) → Fr g L h m' →
      News g L h ((D, W.listOf ys.toArray c9) :: (Dn, W.listOf vn.toArray c) :: (L+1+1+1+1+1+1+1+1, o8) :: (L+1+1+1+1+1+1+1, o7) :: (L+1+1+1+1+1+1, o6) :: (L+1+1+1+1+1, o5) :: (L+1+1+1+1, o4) :: (L+1+1+1, o3) :: (L+1+1, o2) :: (L+1, ox) :: (57, t5) :: (64, t6) :: more) →
      wpAny (model prog w) (Ad 400 1000) (execs rest (envOfC qual sc L f cdv)) Q (fun _ _ => False) { s with heap := h, toks := tk }) :
   wpAny (model prog w) (Ad 400 1000) (execs (s9 :: rest) (envOfC qual sc L f cdv)) Q (fun _ _ => False) s := by
  have e := hK.symm.trans (by k_is : (hd.heap_39 w.params).lookup 95 = some _)
  cases e
  clear hK
  have X := G.X
  have T := G.T
  have F0 := frB [("script", .ref l)] F (by simp (decide := true) [m1])
  clear F m1
  obtain ⟨sh, sg, sd, st, so⟩ := s
  k_unmd
  k_steps
  show Stop _
  unfold Stop
  rename Fr _ _ _ _ => F9
  refine Assign_comp_cell (h₀ := g) (m := kstB m [("script", .ref l)]) (fun k => decide (times1 cnt k = [])) (by rfl) (by with_unfolding_all rfl) (by with_unfolding_all rfl) (fun n => by rfl) (fun h => by rfl) (by rfl) (by decide) (fun C c => by rfl) (by decide) (by rfl) (by rfl) ?_ (by intro _; rfl)
  k_steps
  rename Fr _ _ _ _ => F9
  rename News _ _ _ _ => N9
  rename IsRange _ _ _ _ _ _ _ _ => R9
  refine ⟨_, _, _, _, _, _, _, _, rfl, (by first | exact True.intro | rfl), F9, N9, R9, range_small (by omega) (by omega), rangeSize_sub, (by rw [PySem.sizeLine_eq]; omega), ?_, ?_⟩
  · rintro _ ⟨g', rfl⟩ k t I oI C oC K oK D oD h tk E' hlo hhi dK F8 N8
    clear F9 N9 R9
    k_unmd
    (try dsimp only)
    k_steps
    show Stop _
    unfold Stop
    rename Fr _ _ _ _ => F9
    refine LCt.ListComp_T (F₀ := F9) (by with_unfolding_all rfl) (by decide) (by rfl) (by decide) (by rfl) ?_
    k_steps
    show Stop _
    unfold Stop
    rename Fr _ _ _ _ => F9
    rename News _ _ _ _ => N9
    rename IsRange _ _ _ _ _ _ _ _ => R9
    refine LCt.CompSrcT.range rfl F9 N9 R9 (range_small (by omega) (by omega)) rangeSize_sub (by rw [PySem.sizeLine_eq]; omega) ?_
    intro g2
    refine kci_range (fun l j => if k.fmod j = 0 ∧ cnt.fmod j = 0 then l ++ [j] else l) (fun j tj I9 oI9 C9 oC9 D9 m2 ys l9 h9 tk9 E9 hlo2 hhi2 hI9 hC9 hx9 F8 N8 off9 ne9 hM => ?_) ?_ (fun l k => ?_)
    · clear F9 N9 R9
      k_steps
      · rename cnt.fmod j = 0 => c8
        rename k.fmod j = 0 => c9
        rename Fr _ _ _ _ => F6
        rename News _ _ _ _ => N6
        exact LCg.CompEnd.intro F6 N6 _ (fun p hp => hp) off9 trivial ⟨rfl, _, _, rfl, if_pos ⟨c9, c8⟩⟩
      · rename cnt.fmod j ≠ 0 => c8
        rename Fr _ _ _ _ => F6
        rename News _ _ _ _ => N6
        exact LCg.CompEnd.intro F6 N6 _ (fun p hp => hp) off9 trivial ⟨rfl, if_neg fun h => c8 h.2⟩
      · rename k.fmod j ≠ 0 => c9
        rename Fr _ _ _ _ => F6
        rename News _ _ _ _ => N6
        exact LCg.CompEnd.intro F6 N6 _ (fun p hp => hp) off9 trivial ⟨rfl, if_neg fun h => c9 h.1⟩
    · unfold KPfDone
      intro ys hI9 hyl
      unfold LCg.FinE
      intro D9 h9 tk9 F8 N8 o9
      clear F9 N9 R9
      have hg : (rangeKs 2 (k + 1 - 2).toNat).foldl (fun l j => if k.fmod j = 0 ∧ cnt.fmod j = 0 then l ++ [j] else l) [] = times1 cnt k := rfl
      rw [hg] at hI9
      have htl : (times1 cnt k).length ≤ 700 := by rw [← hI9.length]; omega
      generalize times1 cnt k = tm at *
      clear hg
      k_unmd
      (try dsimp only)
      k_steps
      · rename Fr _ _ _ _ => F6
        exact F6
      · rename News _ _ _ _ => N6
        exact newsDrop 2 N6
    · dsimp only
      split <;> simp
  · rintro _ ⟨g', rfl⟩ D ys c9 h9 tk9 hI9 F8 N8 o9
    exact cont D ys c9 _ h9 tk9 hI9 (Ne.symm (o9 (L+1+1+1+1+1, o5) (by simp))) (by with_unfolding_all rfl) (by with_unfolding_all rfl) F8 N8
end

end
-- part L10
section
local macro_rules | `(tactic| walk_at "gf pad") => `(tactic| fail "pad")
theorem fresh_L10 : True := by w_top off; exact trivial
-- needs: B1 M1 M2 M3 M4 M5 M6 T1
section
variable {w : World} {p : Program} {loose : List Str} {mean : ExcName → Option Value} {mg mb : Str → Option Value} {g : Heap} {Q QF : Flow → Shared → Prop} {s : Shared}
local macro_rules | `(tactic| walk_at "call ref") => `(tactic| refine Stop.mk ?_)
local macro_rules | `(tactic| walk_at "pyIter ref") => `(tactic| refine Stop.mk ?_)
local macro_rules | `(tactic| walk_at "eval ListComp") => `(tactic| refine Stop.mk ?_)
local macro_rules | `(tactic| walk_at "CompSrcT") => `(tactic| refine StopP.mk ?_)
local macro_rules | `(tactic| walk_at "CompSrc") => `(tactic| refine StopP.mk ?_)
local macro_rules | `(tactic| walk_at "KCiEl") => `(tactic| refine StopP.mk ?_)
local macro_rules | `(tactic| walk_at "KCiNo") => `(tactic| refine StopP.mk ?_)
local macro_rules | `(tactic| walk_at "KCfEl") => `(tactic| refine StopP.mk ?_)
local macro_rules | `(tactic| walk_at "CompEnd") => `(tactic| refine StopP.mk ?_)
local macro_rules | `(tactic| walk_at "execs cons") => `(tactic| ((with_reducible show wpAny _ _ (execs (Stmt.Assign [Expr.Name (Str.ofString "back") _] _ _ :: _) _) _ _ _); refine Stop.mk ?_))
theorem lawI {nm q : Str} {pr : Arguments} {s0 s1 s2 s3 s4 s5 s6 s7 s8 s9 s10 : Stmt} {rest : List Stmt} {sc : Scope} {oc dV kV doc pm cd ct cdv : Value} {an od : Option Addr} {osl : Array (Option Value)} {cl : List (Str × Addr)} {qual : Str} {f : Addr}
   (hK : (hd.heap_39 w.params).lookup 95 = some ⟨oc, od, .func (fnX nm q pr (s0 :: s1 :: s2 :: s3 :: s4 :: s5 :: s6 :: s7 :: s8 :: s9 :: s10 :: rest) sc cl dV kV doc pm an cd ct), osl⟩)
   (G : Gd w p loose mean mg mb g) {L l Dn Dt : Addr} {m : Str → Option Value} {vn vz ys : List Value} {tl ns : List Int} {ox o2 o3 o4 o5 o6 o7 o8 t5 t6 : Obj} {c c9 : Nat} {more : List (Addr × Obj)}
   (F : Fr g L s.heap m) (m1 : m "script" = some (.ref l)) (m3 : m "times" = some (.ref Dt))
   (N : News g L s.heap ((Dt, W.listOf ys.toArray c9) :: (Dn, W.listOf vn.toArray c) :: (L+1+1+1+1+1+1+1+1, o8) :: (L+1+1+1+1+1+1+1, o7) :: (L+1+1+1+1+1+1, o6) :: (L+1+1+1+1+1, o5) :: (L+1+1+1+1, o4) :: (L+1+1+1, o3) :: (L+1+1, o2) :: (L+1, ox) :: (57, t5) :: (64, t6) :: more))
   (hl : g.IsList l vz.toArray) (hz : IntsAre vz ns) (hlen : ns.length ≤ 63) (ht : IntsAre ys tl) (ht1 : 0 < tl.length) (ht2 : tl.length ≤ 700) (hne : @Ne Nat Dt (L+1+1+1+1+1)) (hgt : @LT.lt Nat _ (L+1+1+1+1+1+1+1+1) Dn) (d5 : o5.data = .cell none) (l64 : @LT.lt Nat _ 64 L)
   (hof : OwnOff more [Dn, L+1+1+1+1+1+1+1+1, L+1+1+1+1+1+1+1, L+1+1+1+1+1+1, L+1+1+1+1+1, L+1+1+1+1, L+1+1+1, L+1+1, L+1, 57, 64])
   (cont : ∀ m' o5' tb h tk, o5'.data = .cell (some (.int (tl.getD (ns.sum.natAbs % tl.length) 0) tb)) → m' "script" = some (.ref l) → Fr g L h m' →
      News g L h ((Dn, W.listOf vn.toArray c) :: (L+1+1+1+1+1+1+1+1, o8) :: (L+1+1+1+1+1+1+1, o7) :: (L+1+1+1+1+1+1, o6) :: (L+1+1+1+1+1, o5') :: (L+1+1+1+1, o4) :: (L+1+1+1, o3) :: (L+1+1, o2) :: (L+1, ox) :: (57, t5) :: (64, t6) :: more) →
      wpAny (model prog w) (Ad 400 1000) (execs rest (envOfC qual sc L f cdv)) Q (fun _ _ => False) { s with heap := h, toks := tk }) :
   wpAny (model prog w) (Ad 400 1000) (execs (s10 :: rest) (envOfC qual sc L f cdv)) Q (fun _ _ => False) s := by
  have e := hK.symm.trans (by k_is : (hd.heap_39 w.params).lookup 95 = some _)
  cases e
  clear hK
  have X := G.X
  have T := G.T
  have F0 := frB [("script", .ref l), ("times", .ref Dt)] F (by simp (decide := true) [m1, m3])
  clear F m1 m3
  obtain ⟨sh, sg, sd, st, so⟩ := s
  have habs := abs_mod ns.sum tl.length
  have hmod : ns.sum.natAbs % tl.length < tl.length := Nat.mod_lt _ ht1
  k_unmd
  k_steps
  show Stop _
  unfold Stop
  rename Fr _ _ _ _ => F5
  rename News _ _ _ _ => N5
  rename Obj.data _ = Data.cell (some (Value.int _ _)) => d5
  rw [habs, Int.toNat_natCast] at d5
  exact cont _ _ _ _ _ d5 (by with_unfolding_all rfl) F5 (newsDrop 1 N5)
end

end
-- part L11
section
theorem fresh_L11 : True := by w_top off; exact trivial
-- needs: B1 M1 M2 M3 M4 M5 M6 T1 F9
section
variable {w : World} {p : Program} {loose : List Str} {mean : ExcName → Option Value} {mg mb : Str → Option Value} {g : Heap} {Q QF : Flow → Shared → Prop} {s : Shared}
local macro_rules | `(tactic| walk_at "call ref") => `(tactic| refine Stop.mk ?_)
local macro_rules | `(tactic| walk_at "pyIter ref") => `(tactic| refine Stop.mk ?_)
local macro_rules | `(tactic| walk_at "eval ListComp") => `(tactic| refine Stop.mk ?_)
local macro_rules | `(tactic| walk_at "CompSrcT") => `(tactic| refine StopP.mk ?_)
local macro_rules | `(tactic| walk_at "CompSrc") => `(tactic| refine StopP.mk ?_)
local macro_rules | `(tactic| walk_at "KCiEl") => `(tactic| refine StopP.mk ?_)
local macro_rules | `(tactic| walk_at "KCiNo") => `(tactic| refine StopP.mk ?_)
local macro_rules | `(tactic| walk_at "KCfEl") => `(tactic| refine StopP.mk ?_)
local macro_rules | `(tactic| walk_at "CompEnd") => `(tactic| refine StopP.mk ?_)
local macro_rules | `(tactic| walk_at "execs cons") => `(tactic| ((with_reducible show wpAny _ _ (execs (Stmt.Assign [Expr.Name (Str.ofString "shown") _] _ _ :: _) _) _ _ _); refine Stop.mk ?_))
theorem lawJ {nm q : Str} {pr : Arguments} {s0 s1 s2 s3 s4 s5 s6 s7 s8 s9 s10 s11 s12 : Stmt} {rest : List Stmt} {sc : Scope} {oc dV kV doc pm cd ct cdv : Value} {an od : Option Addr} {osl : Array (Option Value)} {cl : List (Str × Addr)} {qual : Str} {f : Addr}
   (hK : (hd.heap_39 w.params).lookup 95 = some ⟨oc, od, .func (fnX nm q pr (s0 :: s1 :: s2 :: s3 :: s4 :: s5 :: s6 :: s7 :: s8 :: s9 :: s10 :: s11 :: s12 :: rest) sc cl dV kV doc pm an cd ct), osl⟩)
   (G : Gd w p loose mean mg mb g) {L l Dn : Addr} {m : Str → Option Value} {vn : List Value} {ox o2 o3 o4 o5 o6 o7 o8 t5 t6 : Obj} {c cn bn b0 : Nat} {tc tb : Tok} {more : List (Addr × Obj)}
   (F : Fr g L s.heap m) (m1 : m "script" = some (.ref l))
   (N : News g L s.heap ((Dn, W.listOf vn.toArray c) :: (L+1+1+1+1+1+1+1+1, o8) :: (L+1+1+1+1+1+1+1, o7) :: (L+1+1+1+1+1+1, o6) :: (L+1+1+1+1+1, o5) :: (L+1+1+1+1, o4) :: (L+1+1+1, o3) :: (L+1+1, o2) :: (L+1, ox) :: (57, t5) :: (64, t6) :: more))
   (hgt : @LT.lt Nat _ (L+1+1+1+1+1+1+1+1) Dn) (hc1 : 1 ≤ cn) (hc2 : cn ≤ 650) (hb2 : bn ≤ 650) (d4 : o4.data = .cell (some (.int (cn : Nat) tc))) (d5 : o5.data = .cell (some (.int (bn : Nat) tb))) (d6 : o6.data = .cell none) (l64 : @LT.lt Nat _ 64 L)
   (h5 : Fill t5 79 q1 more) (h6 : Fill t6 94 q2 more) (hof : OwnOff more [Dn, L+1+1+1+1+1+1+1+1, L+1+1+1+1+1+1+1, L+1+1+1+1+1+1, L+1+1+1+1+1, L+1+1+1+1, L+1+1+1, L+1+1, L+1, 57, 64])
   (hback : (rangeKs 1 ((cn : Int) + 1 - 1).toNat).foldl (fun l k => if k.toNat * bn % cn = 1 % cn then l ++ [k] else l) [] = [(b0 : Int)])
   (cont : ∀ Db tt cb m' o6' h tk, @Ne Nat Db (L+1+1+1+1+1+1+1) → @Ne Nat Db (L+1+1+1+1+1+1+1+1) → o6'.data = .cell (some (.ref Db)) → m' "script" = some (.ref l) → Fr g L h m' →
      News g L h ((Db, W.listOf [Value.int (b0 : Nat) tt].toArray cb) :: (Dn, W.listOf vn.toArray c) :: (L+1+1+1+1+1+1+1+1, o8) :: (L+1+1+1+1+1+1+1, o7) :: (L+1+1+1+1+1+1, o6') :: (L+1+1+1+1+1, o5) :: (L+1+1+1+1, o4) :: (L+1+1+1, o3) :: (L+1+1, o2) :: (L+1, ox) :: (57, t5) :: (64, t6) :: more) →
      wpAny (model prog w) (Ad 400 1000) (execs rest (envOfC qual sc L f cdv)) Q (fun _ _ => False) { s with heap := h, toks := tk }) :
   wpAny (model prog w) (Ad 400 1000) (execs (s11 :: s12 :: rest) (envOfC qual sc L f cdv)) Q (fun _ _ => False) s := by
  have e := hK.symm.trans (by k_is : (hd.heap_39 w.params).lookup 95 = some _)
  cases e
  clear hK
  have X := G.X
  have T := G.T
  have F0 := frB [("script", .ref l)] F (by simp (decide := true) [m1])
  clear F m1
  obtain ⟨sh, sg, sd, st, so⟩ := s
  k_unmd
  k_steps
  show Stop _
  unfold Stop
  rename Fr _ _ _ _ => F9
  refine LCt.ListComp_T (F₀ := F9) (by with_unfolding_all rfl) (by decide) (by rfl) (by decide) (by rfl) ?_
  k_steps
  show Stop _
  unfold Stop
  rename Fr _ _ _ _ => F9
  rename News _ _ _ _ => N9
  rename IsRange _ _ _ _ _ _ _ _ => R9
  refine LCt.CompSrcT.range rfl F9 N9 R9 (range_small (by omega) (by omega)) rangeSize_sub (by rw [PySem.sizeLine_eq]; omega) ?_
  intro g'
  refine kci_range (fun l k => if k.toNat * bn % cn = 1 % cn then l ++ [k] else l) (fun k t I9 oI9 C9 oC9 D9 m2 ys l9 h9 tk9 E9 hlo hhi hI9 hC9 hx9 F8 N8 off9 ne9 hM => ?_) ?_ (fun l k => ?_)
  · clear cont F9 N9 R9 hback
    obtain ⟨kn, rfl⟩ : ∃ kn : Nat, k = (kn : Int) := ⟨k.toNat, by omega⟩
    k_steps
    show Stop _
    unfold Stop
    rename Fr _ _ _ _ => F9
    rename News _ _ _ _ => N9
    have hkb : kn * bn ≤ 700 * 650 := Nat.mul_le_mul (by omega) hb2
    rw [← Int.natCast_mul]
    refine use 420 1200 F9 N9 (int_divmod_spec G F9.keep (h5.tb N9 (by simp) (fun q hq => by simp [hq])) (h6.tb N9 (by simp) (fun q hq => by simp [hq])) (by omega) hc1 (by omega)) rfl (by simp only [depth_deeper]; decide) (by simp only [units_deeper]; decide) ?_
    rintro _ h7 tk7 ⟨D, u1, u2, qq, rfl, eD, gD⟩ F7 N7' hk7
    have N7 := newsAdd2 F9 eD gD N7'
    clear F9 N9 N7'
    k_unmd
    (try dsimp only)
    k_steps
    · rename (_ : Int) = Int.fmod 1 _ => c9
      rw [one_fmod] at c9
      have c9' := Int.ofNat.inj c9
      rename Fr _ _ _ _ => F6
      rename News _ _ _ _ => N6
      exact LCg.CompEnd.intro F6 N6 _ (fun p hp => .tail _ hp) off9 trivial ⟨rfl, _, _, rfl, if_pos (by rw [Int.toNat_natCast]; exact c9')⟩
    · rename (_ : Int) ≠ Int.fmod 1 _ => c9
      rw [one_fmod] at c9
      rename Fr _ _ _ _ => F6
      rename News _ _ _ _ => N6
      exact LCg.CompEnd.intro F6 N6 _ (fun p hp => .tail _ hp) off9 trivial ⟨rfl, if_neg (by rw [Int.toNat_natCast]; exact fun h => c9 (congrArg Int.ofNat h))⟩
  · unfold KPfDone
    intro ys hI9 hyl
    unfold LCg.FinE
    intro D9 h9 tk9 F8 N8 o9
    clear F9 N9 R9
    rw [hback] at hI9
    obtain ⟨tt, rfl⟩ : ∃ tt, ys = [Value.int b0 tt] := by
      cases hI9 with
      | cons a tt hn => cases hn; exact ⟨tt, rfl⟩
    simp only [LCg.Off1] at o9
    k_unmd
    (try dsimp only)
    k_steps
    show Stop _
    unfold Stop
    rename Fr _ _ _ _ => F6
    rename News _ _ _ _ => N6
    rename Obj.data _ = Data.cell (some (Value.ref _)) => dd6
    exact cont _ tt _ _ _ _ _ (by k_ne) (by k_ne) dd6 (by with_unfolding_all rfl) F6 N6
  · dsimp only
    split <;> simp
end

end
-- part L12
section
local macro_rules | `(tactic| walk_at "gf pad") => `(tactic| fail "pad")
theorem fresh_L12 : True := by w_top off; exact trivial
-- needs: B1 M1 M2 M3 M4 M5 M6 T1 F9
section
variable {w : World} {p : Program} {loose : List Str} {mean : ExcName → Option Value} {mg mb : Str → Option Value} {g : Heap} {Q QF : Flow → Shared → Prop} {s : Shared}
local macro_rules | `(tactic| walk_at "call ref") => `(tactic| refine Stop.mk ?_)
local macro_rules | `(tactic| walk_at "pyIter ref") => `(tactic| refine Stop.mk ?_)
local macro_rules | `(tactic| walk_at "eval ListComp") => `(tactic| refine Stop.mk ?_)
local macro_rules | `(tactic| walk_at "CompSrcT") => `(tactic| refine StopP.mk ?_)
local macro_rules | `(tactic| walk_at "CompSrc") => `(tactic| refine StopP.mk ?_)
local macro_rules | `(tactic| walk_at "KCiEl") => `(tactic| refine StopP.mk ?_)
local macro_rules | `(tactic| walk_at "KCiNo") => `(tactic| refine StopP.mk ?_)
local macro_rules | `(tactic| walk_at "KCfEl") => `(tactic| refine StopP.mk ?_)
local macro_rules | `(tactic| walk_at "CompEnd") => `(tactic| refine StopP.mk ?_)
local macro_rules | `(tactic| walk_at "execs cons") => `(tactic| ((with_reducible show wpAny _ _ (execs (Stmt.If (Expr.Compare (Expr.ListComp _ _ _ _) _ _ _) _ _ _ :: _) _) _ _ _); refine Stop.mk ?_))
theorem lawL {nm q : Str} {pr : Arguments} {s0 s1 s2 s3 s4 s5 s6 s7 s8 s9 s10 s11 s12 s13 : Stmt} {rest : List Stmt} {sc : Scope} {oc dV kV doc pm cd ct cdv : Value} {an od : Option Addr} {osl : Array (Option Value)} {cl : List (Str × Addr)} {qual : Str} {f : Addr}
   (hK : (hd.heap_39 w.params).lookup 95 = some ⟨oc, od, .func (fnX nm q pr (s0 :: s1 :: s2 :: s3 :: s4 :: s5 :: s6 :: s7 :: s8 :: s9 :: s10 :: s11 :: s12 :: s13 :: rest) sc cl dV kV doc pm an cd ct), osl⟩)
   (G : Gd w p loose mean mg mb g) {L l Dn Db : Addr} {m : Str → Option Value} {vn : List Value} {ks : List Int} {ox o2 o3 o4 o5 o6 o7 o8 t5 t6 : Obj} {c cb cn bn b0 : Nat} {tc tb tt : Tok} {more : List (Addr × Obj)}
   (F : Fr g L s.heap m) (m1 : m "script" = some (.ref l))
   (N : News g L s.heap ((Db, W.listOf [Value.int (b0 : Nat) tt].toArray cb) :: (Dn, W.listOf vn.toArray c) :: (L+1+1+1+1+1+1+1+1, o8) :: (L+1+1+1+1+1+1+1, o7) :: (L+1+1+1+1+1+1, o6) :: (L+1+1+1+1+1, o5) :: (L+1+1+1+1, o4) :: (L+1+1+1, o3) :: (L+1+1, o2) :: (L+1, ox) :: (57, t5) :: (64, t6) :: more))
   (hn : IntsAre vn ks) (hk : ∀ x ∈ ks, 0 < x ∧ x ≤ 635) (h7 : ks.length ≤ 7) (hgt : @LT.lt Nat _ (L+1+1+1+1+1+1+1+1) Dn) (hb : @Ne Nat Db (L+1+1+1+1+1+1+1)) (hc1 : 1 ≤ cn) (hc2 : cn ≤ 650) (hb2 : bn ≤ 650) (dx : ox.data = .cell (some (.ref Dn))) (d4 : o4.data = .cell (some (.int (cn : Nat) tc))) (d5 : o5.data = .cell (some (.int (bn : Nat) tb))) (d7 : o7.data = .cell none) (l64 : @LT.lt Nat _ 64 L)
   (h5 : Fill t5 79 q1 more) (h6 : Fill t6 94 q2 more) (hof : OwnOff more [Dn, L+1+1+1+1+1+1+1+1, L+1+1+1+1+1+1+1, L+1+1+1+1+1+1, L+1+1+1+1+1, L+1+1+1+1, L+1+1+1, L+1+1, L+1, 57, 64])
   (cont : ∀ Dh ys ch m' o7' h tk, IntsAre ys (ks.map fun x => ((x.toNat * bn % cn : Nat) : Int)) → @Ne Nat Dh (L+1+1+1+1+1+1+1+1) → o7'.data = .cell (some (.ref Dh)) → m' "script" = some (.ref l) → Fr g L h m' →
      News g L h ((Dh, W.listOf ys.toArray ch) :: (Db, W.listOf [Value.int (b0 : Nat) tt].toArray cb) :: (Dn, W.listOf vn.toArray c) :: (L+1+1+1+1+1+1+1+1, o8) :: (L+1+1+1+1+1+1+1, o7') :: (L+1+1+1+1+1+1, o6) :: (L+1+1+1+1+1, o5) :: (L+1+1+1+1, o4) :: (L+1+1+1, o3) :: (L+1+1, o2) :: (L+1, ox) :: (57, t5) :: (64, t6) :: more) →
      wpAny (model prog w) (Ad 400 1000) (execs rest (envOfC qual sc L f cdv)) Q (fun _ _ => False) { s with heap := h, toks := tk }) :
   wpAny (model prog w) (Ad 400 1000) (execs (s13 :: rest) (envOfC qual sc L f cdv)) Q (fun _ _ => False) s := by
  have e := hK.symm.trans (by k_is : (hd.heap_39 w.params).lookup 95 = some _)
  cases e
  clear hK
  have X := G.X
  have T := G.T
  have F0 := frB [("script", .ref l)] F (by simp (decide := true) [m1])
  clear F m1
  obtain ⟨sh, sg, sd, st, so⟩ := s
  have hvl := hn.length
  k_unmd
  k_steps
  show Stop _
  unfold Stop
  rename Fr _ _ _ _ => F9
  refine LCg.ListComp_U (F₀ := F9) (by with_unfolding_all rfl) (by decide) (by rfl) (by decide) (by rfl) ?_
  k_steps
  show Stop _
  unfold Stop
  rename Fr _ _ _ _ => F9
  rename News _ _ _ _ => N9
  refine LCg.CompSrc.ledger (k := c) (its := vn.toArray) rfl F9 N9 (by k_mem) (by rw [PySem.sizeLine_eq, List.size_toArray]; omega) ?_
  intro g'
  refine kcf_list (fun x => ((x.toNat * bn % cn : Nat) : Int)) hn (fun k t I9 oI9 C9 oC9 D9 m2 ys h9 tk9 E9 hkm hC9 hx9 F8 N8 off9 ne9 hM => ?_) ?_
  · clear cont F9 N9
    have hk1 := hk k hkm
    obtain ⟨kn, rfl⟩ : ∃ kn : Nat, k = (kn : Int) := ⟨k.toNat, by omega⟩
    k_steps
    show Stop _
    unfold Stop
    rename Fr _ _ _ _ => F9
    rename News _ _ _ _ => N9
    have hkb : kn * bn ≤ 700 * 650 := Nat.mul_le_mul (by omega) hb2
    rw [← Int.natCast_mul]
    refine use 420 1200 F9 N9 (int_divmod_spec G F9.keep (h5.tb N9 (by simp) (fun q hq => by simp [hq])) (h6.tb N9 (by simp) (fun q hq => by simp [hq])) (by omega) hc1 (by omega)) rfl (by simp only [depth_deeper]; decide) (by simp only [units_deeper]; decide) ?_
    rintro _ h7 tk7 ⟨D, u1, u2, qq, rfl, eD, gD⟩ F7 N7' hk7
    have N7 := newsAdd2 F9 eD gD N7'
    clear F9 N9 N7'
    k_unmd
    (try dsimp only)
    k_steps
    rename Fr _ _ _ _ => F6
    rename News _ _ _ _ => N6
    exact LCg.CompEnd.intro F6 N6 _ (fun p hp => .tail _ hp) off9 (Or.inr ⟨_, by k_mem, rfl, _, rfl⟩) ⟨rfl, _, by rw [Int.toNat_natCast]⟩
  · unfold KPfDone
    intro ys hI9
    unfold LCg.FinE
    intro D9 h9 tk9 F8 N8 o9
    clear F9 N9
    simp only [LCg.Off1] at o9
    k_unmd
    (try dsimp only)
    k_steps
    show Stop _
    unfold Stop
    rename Fr _ _ _ _ => F6
    rename News _ _ _ _ => N6
    rename Obj.data _ = Data.cell (some (Value.ref _)) => dd6
    exact cont _ ys _ _ _ _ _ hI9 (by k_ne) dd6 (by with_unfolding_all rfl) F6 N6
end

end
-- part L13
section
theorem fresh_L13 : True := by w_top off; exact trivial
-- needs: B1 M1 M2 M3 M4 M5 M6 T1 F9
section
variable {w : World} {p : Program} {loose : List Str} {mean : ExcName → Option Value} {mg mb : Str → Option Value} {g : Heap} {Q QF : Flow → Shared → Prop} {s : Shared}
local macro_rules | `(tactic| walk_at "call ref") => `(tactic| refine Stop.mk ?_)
local macro_rules | `(tactic| walk_at "pyIter ref") => `(tactic| refine Stop.mk ?_)
local macro_rules | `(tactic| walk_at "eval ListComp") => `(tactic| refine Stop.mk ?_)
local macro_rules | `(tactic| walk_at "CompSrcT") => `(tactic| refine StopP.mk ?_)
local macro_rules | `(tactic| walk_at "CompSrc") => `(tactic| refine StopP.mk ?_)
local macro_rules | `(tactic| walk_at "KCiEl") => `(tactic| refine StopP.mk ?_)
local macro_rules | `(tactic| walk_at "KCiNo") => `(tactic| refine StopP.mk ?_)
local macro_rules | `(tactic| walk_at "KCfEl") => `(tactic| refine StopP.mk ?_)
local macro_rules | `(tactic| walk_at "CompEnd") => `(tactic| refine StopP.mk ?_)
local macro_rules | `(tactic| walk_at "execs cons") => `(tactic| ((with_reducible show wpAny _ _ (execs (Stmt.Assign [Expr.Name (Str.ofString "lot") _] _ _ :: _) _) _ _ _); refine Stop.mk ?_))
theorem lawM {nm q : Str} {pr : Arguments} {s0 s1 s2 s3 s4 s5 s6 s7 s8 s9 s10 s11 s12 s13 s14 : Stmt} {rest : List Stmt} {sc : Scope} {oc dV kV doc pm cd ct cdv : Value} {an od : Option Addr} {osl : Array (Option Value)} {cl : List (Str × Addr)} {qual : Str} {f : Addr}
   (hK : (hd.heap_39 w.params).lookup 95 = some ⟨oc, od, .func (fnX nm q pr (s0 :: s1 :: s2 :: s3 :: s4 :: s5 :: s6 :: s7 :: s8 :: s9 :: s10 :: s11 :: s12 :: s13 :: s14 :: rest) sc cl dV kV doc pm an cd ct), osl⟩)
   (G : Gd w p loose mean mg mb g) {L l Dn Db Dh : Addr} {m : Str → Option Value} {vn vh : List Value} {ks : List Int} {hs : List Nat} {ox o2 o3 o4 o5 o6 o7 o8 t5 t6 : Obj} {c cb ch cn b0 : Nat} {tc tt : Tok} {more : List (Addr × Obj)}
   (F : Fr g L s.heap m) (m1 : m "script" = some (.ref l))
   (N : News g L s.heap ((Dh, W.listOf vh.toArray ch) :: (Db, W.listOf [Value.int (b0 : Nat) tt].toArray cb) :: (Dn, W.listOf vn.toArray c) :: (L+1+1+1+1+1+1+1+1, o8) :: (L+1+1+1+1+1+1+1, o7) :: (L+1+1+1+1+1+1, o6) :: (L+1+1+1+1+1, o5) :: (L+1+1+1+1, o4) :: (L+1+1+1, o3) :: (L+1+1, o2) :: (L+1, ox) :: (57, t5) :: (64, t6) :: more))
   (hn : IntsAre vn ks) (hh : IntsAre vh (hs.map fun (x : Nat) => (x : Int))) (hk : ∀ x ∈ ks, 0 < x ∧ x ≤ 635) (hsl : ∀ x ∈ hs, x ≤ 650) (h7 : ks.length ≤ 7) (hsl7 : hs.length ≤ 7) (hc1 : 1 ≤ cn) (hc2 : cn ≤ 650) (hb2 : b0 ≤ 650) (dx : ox.data = .cell (some (.ref Dn))) (d4 : o4.data = .cell (some (.int (cn : Nat) tc))) (d6 : o6.data = .cell (some (.ref Db))) (d7 : o7.data = .cell (some (.ref Dh)))
   (h5 : Fill t5 79 q1 more) (h6 : Fill t6 94 q2 more)
   (heq : ((hs.map fun (x : Nat) => (x : Int)).map fun x => ((x.toNat * b0 % cn : Nat) : Int)) = ks.map fun x => x.fmod (cn : Int))
   (cont : ∀ m' h tk, m' "script" = some (.ref l) → Fr g L h m' →
      News g L h ((Dh, W.listOf vh.toArray ch) :: (Db, W.listOf [Value.int (b0 : Nat) tt].toArray cb) :: (Dn, W.listOf vn.toArray c) :: (L+1+1+1+1+1+1+1+1, o8) :: (L+1+1+1+1+1+1+1, o7) :: (L+1+1+1+1+1+1, o6) :: (L+1+1+1+1+1, o5) :: (L+1+1+1+1, o4) :: (L+1+1+1, o3) :: (L+1+1, o2) :: (L+1, ox) :: (57, t5) :: (64, t6) :: more) →
      wpAny (model prog w) (Ad 400 1000) (execs rest (envOfC qual sc L f cdv)) Q (fun _ _ => False) { s with heap := h, toks := tk }) :
   wpAny (model prog w) (Ad 400 1000) (execs (s14 :: rest) (envOfC qual sc L f cdv)) Q (fun _ _ => False) s := by
  have e := hK.symm.trans (by k_is : (hd.heap_39 w.params).lookup 95 = some _)
  cases e
  clear hK
  have X := G.X
  have T := G.T
  have F0 := frB [("script", .ref l)] F (by simp (decide := true) [m1])
  clear F m1
  obtain ⟨sh, sg, sd, st, so⟩ := s
  have hvl := hn.length
  have hvh := hh.length
  rw [List.length_map] at hvh
  k_unmd
  k_steps
  show Stop _
  unfold Stop
  rename Fr _ _ _ _ => F9
  refine LCg.ListComp_U (F₀ := F9) (by with_unfolding_all rfl) (by decide) (by rfl) (by decide) (by rfl) ?_
  k_steps
  show Stop _
  unfold Stop
  rename Fr _ _ _ _ => F9
  rename News _ _ _ _ => N9
  refine LCg.CompSrc.ledger (k := ch) (its := vh.toArray) rfl F9 N9 (by k_mem) (by rw [PySem.sizeLine_eq, List.size_toArray]; omega) ?_
  intro g'
  refine kcf_list (fun x => ((x.toNat * b0 % cn : Nat) : Int)) hh (fun k t I9 oI9 C9 oC9 D9 m2 ys h9 tk9 E9 hkm hC9 hx9 F8 N8 off9 ne9 hM => ?_) ?_
  · clear cont F9 N9 heq
    obtain ⟨kn, hkm', rfl⟩ := List.mem_map.mp hkm
    have hk1 := hsl kn hkm'
    k_steps
    show Stop _
    unfold Stop
    rename Fr _ _ _ _ => F9
    rename News _ _ _ _ => N9
    have hkb : kn * b0 ≤ 700 * 650 := Nat.mul_le_mul (by omega) hb2
    rw [show [(b0 : Int)].getD (Int.toNat 0) 0 = (b0 : Int) from rfl, ← Int.natCast_mul]
    refine use 420 1200 F9 N9 (int_divmod_spec G F9.keep (h5.tb N9 (by simp) (fun q hq => by simp [hq])) (h6.tb N9 (by simp) (fun q hq => by simp [hq])) (by omega) hc1 (by omega)) rfl (by simp only [depth_deeper]; decide) (by simp only [units_deeper]; decide) ?_
    rintro _ h7 tk7 ⟨D, u1, u2, qq, rfl, eD, gD⟩ F7 N7' hk7
    have N7 := newsAdd2 F9 eD gD N7'
    clear F9 N9 N7'
    k_unmd
    (try dsimp only)
    k_steps
    rename Fr _ _ _ _ => F6
    rename News _ _ _ _ => N6
    exact LCg.CompEnd.intro F6 N6 _ (fun p hp => .tail _ hp) off9 (Or.inr ⟨_, by k_mem, rfl, _, rfl⟩) ⟨rfl, _, by rw [Int.toNat_natCast]⟩
  · unfold KPfDone
    intro ys hI9
    unfold LCg.FinE
    intro D9 h9 tk9 F8 N8 o9
    clear F9 N9
    simp only [LCg.Off1] at o9
    rw [heq] at hI9
    k_unmd
    (try dsimp only)
    k_steps
    show Stop _
    unfold Stop
    rename Fr _ _ _ _ => F9
    refine LCg.ListComp_U (F₀ := F9) (by with_unfolding_all rfl) (by decide) (by rfl) (by decide) (by rfl) ?_
    k_steps
    show Stop _
    unfold Stop
    rename Fr _ _ _ _ => F9
    rename News _ _ _ _ => N9
    refine LCg.CompSrc.ledger (k := c) (its := vn.toArray) rfl F9 N9 (by k_mem) (by rw [PySem.sizeLine_eq, List.size_toArray]; omega) ?_
    intro g2
    refine kcf_list (fun x => x.fmod (cn : Int)) hn (fun k t I9 oI9 C9 oC9 D8 m2 ys h9 tk9 E9 hkm hC9 hx9 F8 N8 off9 ne9 hM => ?_) ?_
    · clear cont F9 N9 heq
      k_steps
      rename Fr _ _ _ _ => F6
      rename News _ _ _ _ => N6
      exact LCg.CompEnd.intro F6 N6 _ (fun p hp => hp) off9 (Or.inr ⟨_, by k_mem, rfl, _, rfl⟩) ⟨rfl, _, rfl⟩
    · unfold KPfDone
      intro ys2 hI8
      unfold LCg.FinE
      intro D8 h8 tk8 F8 N8 o8
      clear F9 N9
      have hl9 : (ks.map fun x => x.fmod (cn : Int)).length ≤ 7 := by rw [List.length_map]; exact h7
      generalize (ks.map fun x => x.fmod (cn : Int)) = rs at *
      k_unmd
      (try dsimp only)
      k_steps
      show Stop _
      unfold Stop
      rename Fr _ _ _ _ => F6
      rename News _ _ _ _ => N6
      exact cont _ _ _ (by with_unfolding_all rfl) F6 (newsDrop 2 N6)
end

end
-- part L14
section
local macro_rules | `(tactic| walk_at "gf pad") => `(tactic| fail "pad")
theorem fresh_L14 : True := by w_top off; exact trivial
-- needs: B1 M1 M2 M3 M4 M5 M6 T1 F4 F9
section
variable {w : World} {p : Program} {loose : List Str} {mean : ExcName → Option Value} {mg mb : Str → Option Value} {g : Heap} {Q QF : Flow → Shared → Prop} {s : Shared}
local macro_rules | `(tactic| walk_at "call ref") => `(tactic| refine Stop.mk ?_)
local macro_rules | `(tactic| walk_at "pyIter ref") => `(tactic| refine Stop.mk ?_)
local macro_rules | `(tactic| walk_at "eval ListComp") => `(tactic| refine Stop.mk ?_)
local macro_rules | `(tactic| walk_at "CompSrcT") => `(tactic| refine StopP.mk ?_)
local macro_rules | `(tactic| walk_at "CompSrc") => `(tactic| refine StopP.mk ?_)
local macro_rules | `(tactic| walk_at "KCiEl") => `(tactic| refine StopP.mk ?_)
local macro_rules | `(tactic| walk_at "KCiNo") => `(tactic| refine StopP.mk ?_)
local macro_rules | `(tactic| walk_at "KCfEl") => `(tactic| refine StopP.mk ?_)
local macro_rules | `(tactic| walk_at "CompEnd") => `(tactic| refine StopP.mk ?_)
local macro_rules | `(tactic| walk_at "execs cons") => `(tactic| ((with_reducible show wpAny _ _ (execs (Stmt.Assign [Expr.Name (Str.ofString "told") _] _ _ :: _) _) _ _ _); refine Stop.mk ?_))
theorem lawN {nm q : Str} {pr : Arguments} {s0 s1 s2 s3 s4 s5 s6 s7 s8 s9 s10 s11 s12 s13 s14 s15 : Stmt} {rest : List Stmt} {sc : Scope} {oc dV kV doc pm cd ct cdv : Value} {an od : Option Addr} {osl : Array (Option Value)} {cl : List (Str × Addr)} {qual : Str} {f : Addr}
   (hK : (hd.heap_39 w.params).lookup 95 = some ⟨oc, od, .func (fnX nm q pr (s0 :: s1 :: s2 :: s3 :: s4 :: s5 :: s6 :: s7 :: s8 :: s9 :: s10 :: s11 :: s12 :: s13 :: s14 :: s15 :: rest) sc cl dV kV doc pm an cd ct), osl⟩)
   (G : Gd w p loose mean mg mb g) {L l Dn Db Dh : Addr} {m : Str → Option Value} {vn vh vz : List Value} {ks ns ds : List Int} {ox o2 o3 o4 o5 o6 o7 o8 t5 t6 : Obj} {c cb ch b0 u : Nat} {tt : Tok} {more : List (Addr × Obj)}
   (F : Fr g L s.heap m) (m1 : m "script" = some (.ref l))
   (N : News g L s.heap ((Dh, W.listOf vh.toArray ch) :: (Db, W.listOf [Value.int (b0 : Nat) tt].toArray cb) :: (Dn, W.listOf vn.toArray c) :: (L+1+1+1+1+1+1+1+1, o8) :: (L+1+1+1+1+1+1+1, o7) :: (L+1+1+1+1+1+1, o6) :: (L+1+1+1+1+1, o5) :: (L+1+1+1+1, o4) :: (L+1+1+1, o3) :: (L+1+1, o2) :: (L+1, ox) :: (57, t5) :: (64, t6) :: more))
   (hl : g.IsList l vz.toArray) (hz : IntsAre vz ns) (hlen : ns.length ≤ 63)
   (hn : IntsAre vn ks) (h7 : ks.length ≤ 7) (hgt : @LT.lt Nat _ (L+1+1+1+1+1+1+1+1) Dn) (hb8 : @Ne Nat Db (L+1+1+1+1+1+1+1+1)) (hh8 : @Ne Nat Dh (L+1+1+1+1+1+1+1+1)) (dx : ox.data = .cell (some (.ref Dn))) (d8 : o8.data = .cell none) (l64 : @LT.lt Nat _ 64 L)
   (h5 : Fill t5 79 q1 more) (hof : OwnOff more [Dn, L+1+1+1+1+1+1+1+1, L+1+1+1+1+1+1+1, L+1+1+1+1+1+1, L+1+1+1+1+1, L+1+1+1+1, L+1+1+1, L+1+1, L+1, 57, 64])
   (hu : ns.sum.natAbs % 2 ^ ks.length = u) (hds : digs 1 ks.length u = ds)
   (cont : ∀ Dl fs o8' m' h tk, IntsAre fs ds → o8'.data = .cell (some (.ref Dl)) → m' "script" = some (.ref l) → Fr g L h m' →
      News g L h ((Dl, W.listOf fs.toArray 0) :: (Dh, W.listOf vh.toArray ch) :: (Db, W.listOf [Value.int (b0 : Nat) tt].toArray cb) :: (Dn, W.listOf vn.toArray c) :: (L+1+1+1+1+1+1+1+1, o8') :: (L+1+1+1+1+1+1+1, o7) :: (L+1+1+1+1+1+1, o6) :: (L+1+1+1+1+1, o5) :: (L+1+1+1+1, o4) :: (L+1+1+1, o3) :: (L+1+1, o2) :: (L+1, ox) :: (57, t5) :: (64, t6) :: more) →
      wpAny (model prog w) (Ad 400 1000) (execs rest (envOfC qual sc L f cdv)) Q (fun _ _ => False) { s with heap := h, toks := tk }) :
   wpAny (model prog w) (Ad 400 1000) (execs (s15 :: rest) (envOfC qual sc L f cdv)) Q (fun _ _ => False) s := by
  have e := hK.symm.trans (by k_is : (hd.heap_39 w.params).lookup 95 = some _)
  cases e
  clear hK
  have X := G.X
  have T := G.T
  have F0 := frB [("script", .ref l)] F (by simp (decide := true) [m1])
  clear F m1
  obtain ⟨sh, sg, sd, st, so⟩ := s
  have hvl := hn.length
  have hp7 : 2 ^ ks.length ≤ 128 := Nat.pow_le_pow_right (by decide) h7
  have hu2 : u < 128 := by rw [← hu]; exact Nat.lt_of_lt_of_le (Nat.mod_lt _ (Nat.two_pow_pos _)) hp7
  have hum : (if ns.sum < 0 then -ns.sum else ns.sum).fmod ((2 : Int) ^ ((ks.length : Int).toNat)) = (u : Int) := by
    have e : (2 : Int) ^ ((ks.length : Int).toNat) = ((2 ^ ks.length : Nat) : Int) := by simp
    rw [e, abs_mod, hu]
  k_unmd
  k_steps
  show Stop _
  unfold Stop
  rename Fr _ _ _ _ => F9
  rename News _ _ _ _ => N9
  rw [hum]
  refine use 440 1400 F9 N9 (int2digits_spec (n := 1) G F9.keep (h5.tb N9 (by simp) (fun q hq => by simp [hq])) (by omega) (by decide) (by decide)) rfl (by simp only [depth_deeper]; decide) (by simp only [units_deeper]; decide) ?_
  rintro _ h8 tk8 ⟨D, us, rfl, eD, ⟨cD, gD⟩, ID⟩ F8 N8' hk8
  have N8 := newsAdd2 F9 eD gD N8'
  have hD := freshNe N9 eD
  simp only [List.forall_mem_cons] at hD
  clear F9 N9 N8'
  have hdl : ((digsN 1 (dlen u 1) u).map fun (d : Nat) => (d : Int)).length ≤ 8 := by
    have := dlen_mul (n := 1) (x := u) (k := 7) (by omega)
    rw [List.length_map, digsN_length]; omega
  generalize hdd : ((digsN 1 (dlen u 1) u).map fun (d : Nat) => (d : Int)) = dd at *
  k_unmd
  (try dsimp only)
  k_steps
  show Stop _
  unfold Stop
  rename Fr _ _ _ _ => F6
  rename News _ _ _ _ => N6
  rename IntsAre _ (List.take _ _) => I6
  rename Obj.data _ = Data.cell (some (Value.ref _)) => d6'
  have hfin : List.take (ks.length : Int).toNat (dd ++ (List.replicate 7 [(0 : Int)]).flatten) = ds := by
    rw [Int.toNat_natCast, flat_rep, ← hdd, ← hds, show (0 : Int) = ((0 : Nat) : Int) from rfl]
    exact pad_digs (dlen_lt (Nat.le_refl 1)) (by omega)
  rw [hfin] at I6
  have N7 := newsApp (newsTake 1 N6) (newsDrop 5 N6)
  simp only [List.take_succ_cons, List.take_zero, List.drop_succ_cons, List.drop_zero, List.cons_append, List.nil_append] at N7
  exact cont _ _ _ _ _ _ I6 d6' (by with_unfolding_all rfl) F6 N7
end

end
-- part L15
section
theorem fresh_L15 : True := by w_top off; exact trivial
-- needs: B1 M1 M2 M3 M4 M5 M6 T1 F4 F9
section
variable {w : World} {p : Program} {loose : List Str} {mean : ExcName → Option Value} {mg mb : Str → Option Value} {g : Heap} {Q QF : Flow → Shared → Prop} {s : Shared}
local macro_rules | `(tactic| walk_at "call ref") => `(tactic| refine Stop.mk ?_)
local macro_rules | `(tactic| walk_at "pyIter ref") => `(tactic| refine Stop.mk ?_)
local macro_rules | `(tactic| walk_at "eval ListComp") => `(tactic| refine Stop.mk ?_)
local macro_rules | `(tactic| walk_at "CompSrcT") => `(tactic| refine StopP.mk ?_)
local macro_rules | `(tactic| walk_at "CompSrc") => `(tactic| refine StopP.mk ?_)
local macro_rules | `(tactic| walk_at "KCiEl") => `(tactic| refine StopP.mk ?_)
local macro_rules | `(tactic| walk_at "KCiNo") => `(tactic| refine StopP.mk ?_)
local macro_rules | `(tactic| walk_at "KCfEl") => `(tactic| refine StopP.mk ?_)
local macro_rules | `(tactic| walk_at "CompEnd") => `(tactic| refine StopP.mk ?_)
theorem lawO {nm q : Str} {pr : Arguments} {s0 s1 s2 s3 s4 s5 s6 s7 s8 s9 s10 s11 s12 s13 s14 s15 s16 s17 : Stmt} {sc : Scope} {oc dV kV doc pm cd ct cdv : Value} {an od : Option Addr} {osl : Array (Option Value)} {cl : List (Str × Addr)} {qual : Str} {f : Addr}
   (hK : (hd.heap_39 w.params).lookup 95 = some ⟨oc, od, .func (fnX nm q pr (s0 :: s1 :: s2 :: s3 :: s4 :: s5 :: s6 :: s7 :: s8 :: s9 :: s10 :: s11 :: s12 :: s13 :: s14 :: s15 :: s16 :: s17 :: []) sc cl dV kV doc pm an cd ct), osl⟩)
   (G : Gd w p loose mean mg mb g) {L l Dn Db Dh Dl : Addr} {m : Str → Option Value} {vn vh fs : List Value} {ks ds hs : List Int} {ox o2 o3 o4 o5 o6 o7 o8 t5 t6 : Obj} {c cb ch cn b0 tv : Nat} {tc tt : Tok} {more : List (Addr × Obj)}
   (F : Fr g L s.heap m) (m1 : m "script" = some (.ref l))
   (N : News g L s.heap ((Dl, W.listOf fs.toArray 0) :: (Dh, W.listOf vh.toArray ch) :: (Db, W.listOf [Value.int (b0 : Nat) tt].toArray cb) :: (Dn, W.listOf vn.toArray c) :: (L+1+1+1+1+1+1+1+1, o8) :: (L+1+1+1+1+1+1+1, o7) :: (L+1+1+1+1+1+1, o6) :: (L+1+1+1+1+1, o5) :: (L+1+1+1+1, o4) :: (L+1+1+1, o3) :: (L+1+1, o2) :: (L+1, ox) :: (57, t5) :: (64, t6) :: more))
   (hn : IntsAre vn ks) (hh : IntsAre vh hs) (hf : IntsAre fs ds) (hhl : hs.length = ks.length) (hdl : ds.length = ks.length) (h7 : ks.length ≤ 7) (hrise : ks.Pairwise (· ≤ ·)) (hc1 : 1 ≤ cn) (hc2 : cn ≤ 650) (hb2 : b0 ≤ 650)
   (dx : ox.data = .cell (some (.ref Dn))) (d4 : o4.data = .cell (some (.int (cn : Nat) tc))) (d6 : o6.data = .cell (some (.ref Db))) (d7 : o7.data = .cell (some (.ref Dh))) (d8 : o8.data = .cell (some (.ref Dl)))
   (h5 : Fill t5 79 q1 more) (h6 : Fill t6 94 q2 more)
   (htv : ((rangeKs 0 ks.length).foldl (fun l k => if ds.getD k.toNat 0 = 1 then l ++ [hs.getD k.toNat 0] else l) []).sum = (tv : Int)) (htv2 : tv ≤ 5000)
   (hlot : lot ks ((tv * b0 % cn : Nat) : Int) = some ds)
   (cont : ∀ m' h tk, Fr g L h m' → News g L h ((57, t5) :: (64, t6) :: more) → Q (.ret (.bool true)) { s with heap := h, toks := tk }) :
   wpAny (model prog w) (Ad 400 1000) (execs [s16, s17] (envOfC qual sc L f cdv)) Q (fun _ _ => False) s := by
  have e := hK.symm.trans (by k_is : (hd.heap_39 w.params).lookup 95 = some _)
  cases e
  clear hK
  have X := G.X
  have T := G.T
  have F0 := frB [("script", .ref l)] F (by simp (decide := true) [m1])
  clear F m1
  obtain ⟨sh, sg, sd, st, so⟩ := s
  have hvl := hn.length
  k_unmd
  k_steps
  show Stop _
  unfold Stop
  rename Fr _ _ _ _ => F9
  refine LCt.ListComp_T (F₀ := F9) (by with_unfolding_all rfl) (by decide) (by rfl) (by decide) (by rfl) ?_
  k_steps
  show Stop _
  unfold Stop
  rename Fr _ _ _ _ => F9
  rename News _ _ _ _ => N9
  rename IsRange _ _ _ _ _ _ _ _ => R9
  refine LCt.CompSrcT.range rfl F9 N9 R9 (range_small (by omega) (by omega)) rangeSize_up (by rw [PySem.sizeLine_eq]; omega) ?_
  intro g'
  refine kci_range (fun l k => if ds.getD k.toNat 0 = 1 then l ++ [hs.getD k.toNat 0] else l) (fun k t I9 oI9 C9 oC9 D9 m2 ys l9 h9 tk9 E9 hlo hhi hI9 hC9 hx9 F8 N8 off9 ne9 hM => ?_) ?_ (fun l k => ?_)
  · clear cont F9 N9 R9 htv hlot
    k_steps
    · rename List.getD ds _ _ = 1 => c9
      rename Fr _ _ _ _ => F6
      rename News _ _ _ _ => N6
      exact LCg.CompEnd.intro F6 N6 _ (fun p hp => hp) off9 trivial ⟨rfl, _, _, rfl, if_pos c9⟩
    · rename ¬ List.getD ds _ _ = 1 => c9
      rename Fr _ _ _ _ => F6
      rename News _ _ _ _ => N6
      exact LCg.CompEnd.intro F6 N6 _ (fun p hp => hp) off9 trivial ⟨rfl, if_neg c9⟩
  · unfold KPfDone
    intro ys hI9 hyl
    unfold LCg.FinE
    intro D9 h9 tk9 F8 N8 o9
    clear F9 N9 R9
    have hsl9 : (List.foldl (fun l k => if ds.getD k.toNat 0 = 1 then l ++ [hs.getD k.toNat 0] else l) [] (rangeKs 0 ks.length)).length ≤ 7 := by rw [← hI9.length]; omega
    generalize List.foldl (fun l k => if ds.getD k.toNat 0 = 1 then l ++ [hs.getD k.toNat 0] else l) [] (rangeKs 0 ks.length) = pk at *
    k_unmd
    (try dsimp only)
    k_steps
    show Stop _
    unfold Stop
    rename Fr _ _ _ _ => F9
    rename News _ _ _ _ => N9
    have hkb : tv * b0 ≤ 5000 * 650 := Nat.mul_le_mul htv2 hb2
    rw [htv, show [(b0 : Int)].getD (Int.toNat 0) 0 = (b0 : Int) from rfl, ← Int.natCast_mul]
    refine use 420 1200 F9 N9 (int_divmod_spec G F9.keep (h5.tb N9 (by simp) (fun q hq => by simp [hq])) (h6.tb N9 (by simp) (fun q hq => by simp [hq])) (by omega) hc1 (by omega)) rfl (by simp only [depth_deeper]; decide) (by simp only [units_deeper]; decide) ?_
    rintro _ h7 tk7 ⟨D, u1, u2, qq, rfl, eD, gD⟩ F7 N7' hk7
    have N7 := newsAdd2 F9 eD gD N7'
    clear F9 N9 N7'
    k_unmd
    (try dsimp only)
    k_steps
    show Stop _
    unfold Stop
    rename Fr _ _ _ _ => F9
    rename News _ _ _ _ => N9
    refine use 490 1900 F9 N9 (law_lot_spec G F9.keep (News.isList (n := c) N9 (by k_mem)) hn hrise (by omega)) rfl (by simp only [depth_deeper]; decide) (by simp only [units_deeper]; decide) ?_
    intro r h5' tk5 hr F5 N5' hk5
    rw [hlot] at hr
    obtain ⟨D2, us, rfl, eD2, ⟨cD2, gD2⟩, hIu⟩ := hr
    have N5 := newsAdd2 F9 eD2 gD2 N5'
    clear F9 N9 N5'
    k_unmd
    (try dsimp only)
    k_steps
    exact cont _ _ _ F5 (newsDrop 15 N5)
  · dsimp only
    split <;> simp
end

end
-- part M7
section
theorem fresh_M7 : True := by w_top off; exact trivial
-- needs: B1 M1 M2 M3 M4 M5 M6 C1 L9
/-! sums of lots rise with the lots' numbers -/
theorem tot_snoc (a : List Int) (x : Int) (i : Nat) : tot (a ++ [x]) i = tot a (i % 2 ^ a.length) + x * ((i / 2 ^ a.length % 2 : Nat) : Int) := by
  unfold tot
  rw [List.length_append, List.length_singleton, ← digs_split, Nat.mul_one]
  have e : digs 1 1 (i / 2 ^ a.length) = [((i / 2 ^ a.length % 2 : Nat) : Int)] := by
    unfold digs
    simp
  rw [e, dot_snoc _ _ _ _ (digs_length _ _ _)]
theorem tot_lt {ks : List Int} (hS : Sup ks) : ∀ i j : Nat, i < j → j < 2 ^ ks.length → tot ks i < tot ks j := by
  induction hS with
  | nil => intro i j h1 h2; simp at h2; omega
  | @snoc a x ha h1 h2 ih =>
    intro i j hij hj
    rw [List.length_append, List.length_singleton, Nat.pow_succ] at hj
    have hpos := fun z hz => (ha.pos z hz).1
    have hb : ∀ n, 0 ≤ tot a n ∧ tot a n ≤ a.sum := fun n => dot_bound hpos (digs_bits _ _)
    rw [tot_snoc, tot_snoc]
    have hp : 0 < 2 ^ a.length := Nat.two_pow_pos _
    have bi := hb (i % 2 ^ a.length)
    have bj := hb (j % 2 ^ a.length)
    have lj : j / 2 ^ a.length < 2 := by rw [Nat.div_lt_iff_lt_mul hp]; omega
    have li : i / 2 ^ a.length ≤ j / 2 ^ a.length := Nat.div_le_div_right (Nat.le_of_lt hij)
    have di := Nat.div_add_mod i (2 ^ a.length)
    have dj := Nat.div_add_mod j (2 ^ a.length)
    rcases Nat.lt_or_ge (i / 2 ^ a.length) (j / 2 ^ a.length) with hlt | hge
    · have e1 : i / 2 ^ a.length = 0 := Nat.lt_one_iff.mp (Nat.lt_of_lt_of_le hlt (Nat.le_of_lt_succ lj))
      have e2 : j / 2 ^ a.length = 1 := Nat.le_antisymm (Nat.le_of_lt_succ lj) (Nat.lt_of_le_of_lt (Nat.zero_le _) hlt)
      rw [e1, e2]
      simp only [Nat.zero_mod, Nat.mod_eq_of_lt (show 1 < 2 by decide), Int.natCast_zero, Int.mul_zero]
      have : x * ((1 : Nat) : Int) = x := by simp
      omega
    · have e : i / 2 ^ a.length = j / 2 ^ a.length := Nat.le_antisymm li hge
      have hm : i % 2 ^ a.length < j % 2 ^ a.length := by rw [e] at di; omega
      have := ih _ _ hm (Nat.mod_lt _ hp)
      rw [e]; omega
theorem tot_rise {ks : List Int} (hS : Sup ks) : ((List.range (2 ^ ks.length)).map (tot ks)).Pairwise (· < ·) := by
  rw [List.pairwise_iff_getElem]
  intro i j hi hj hij
  rw [List.getElem_map, List.getElem_map, List.getElem_range, List.getElem_range]
  exact tot_lt hS i j hij (by simpa using hj)

/-! a lot that is found is a lot -/
theorem digsN_val {n : Nat} : ∀ {l : List Nat}, (∀ d ∈ l, d < 2 ^ n) → digsN n l.length (val n l) = l
  | [], _ => rfl
  | d :: r, h => by
    have hd := h d (.head _)
    have hp := Nat.two_pow_pos n
    rw [List.length_cons, digsN_succ, val, Nat.add_mul_mod_self_left, Nat.mod_eq_of_lt hd, Nat.add_mul_div_left _ _ hp, Nat.div_eq_of_lt hd, Nat.zero_add, digsN_val fun x hx => h x (.tail _ hx)]
theorem dot_set : ∀ (a G : List Int) (i : Nat), G.length = a.length → i < G.length → G.getD i 0 = 0 → dot a (G.set i 1) = dot a G + a.getD i 0
  | [], [], _, _, h, _ => by simp at h
  | [], _ :: _, _, h, _, _ => by simp at h
  | _ :: _, [], _, h, _, _ => by simp at h
  | k :: a, d :: G, 0, _, _, h => by
    simp at h
    subst h
    simp [dot]; omega
  | k :: a, d :: G, i + 1, hl, hi, h => by
    have := dot_set a G i (by simpa using hl) (by simpa using hi) (by simpa using h)
    simp [dot] at this ⊢
    omega
theorem step_inv {a : List Int} {x : Int} {st : List Int × Int} (h : st.1.length = a.length ∧ Bits st.1 ∧ dot a st.1 + st.2 = x) : (lotStep a st).1.length = a.length ∧ Bits (lotStep a st).1 ∧ dot a (lotStep a st).1 + (lotStep a st).2 = x := by
  obtain ⟨h1, h2, h3⟩ := h
  unfold lotStep
  split
  · rename_i c
    have hi : br a st.2 - 1 < st.1.length := by have := br_le a st.2; omega
    refine ⟨by simpa using h1, fun d hd => ?_, ?_⟩
    · rcases List.mem_or_eq_of_mem_set hd with hd | rfl
      · exact h2 d hd
      · exact .inr rfl
    · rw [dot_set a st.1 _ h1 hi c.2.2]; dsimp only; omega
  · exact ⟨h1, h2, h3⟩
theorem run_inv {a : List Int} {x : Int} {st : List Int × Int} (h : st.1.length = a.length ∧ Bits st.1 ∧ dot a st.1 + st.2 = x) : ∀ k, (run a k st).1.length = a.length ∧ Bits (run a k st).1 ∧ dot a (run a k st).1 + (run a k st).2 = x
  | 0 => h
  | k + 1 => step_inv (run_inv h k)
theorem dot_zero : ∀ (a : List Int) (n : Nat), dot a (List.replicate n 0) = 0
  | [], 0 => rfl
  | [], _ + 1 => rfl
  | _ :: _, 0 => rfl
  | k :: a, n + 1 => by rw [List.replicate_succ, dot, dot_zero a n]; simp
theorem lot_some {ks fs : List Int} {k : Int} (h : lot ks k = some fs) : fs.length = ks.length ∧ Bits fs ∧ dot ks fs = k := by
  unfold lot at h
  rw [run_lotIt] at h
  have hi := run_inv (a := ks) (x := k) (st := (List.replicate ks.length 0, k)) ⟨by simp, fun d hd => .inl (List.eq_of_mem_replicate hd), by rw [dot_zero]; omega⟩ ks.length
  split at h
  · rename_i c
    cases h
    exact ⟨hi.1, hi.2.1, by have := hi.2.2; omega⟩
  · cases h
theorem bits_digs {fs : List Int} (hb : Bits fs) : ∃ i, i < 2 ^ fs.length ∧ digs 1 fs.length i = fs := by
  have hN : ∀ d ∈ fs.map Int.toNat, d < 2 ^ 1 := fun d hd => by
    obtain ⟨x, hx, rfl⟩ := List.mem_map.mp hd
    rcases hb x hx with rfl | rfl <;> decide
  refine ⟨val 1 (fs.map Int.toNat), ?_, ?_⟩
  · have := val_lt hN
    simpa using this
  · rw [digs_cast]
    have := digsN_val hN
    rw [List.length_map] at this
    rw [this, List.map_map]
    have e : fs.map ((fun (d : Nat) => (d : Int)) ∘ Int.toNat) = fs.map id := List.map_congr_left fun x hx => by
      rcases hb x hx with rfl | rfl <;> rfl
    rw [e, List.map_id]
theorem lot_none {ks : List Int} (hS : Sup ks) (k : Int) (_h0 : 0 ≤ k) (_h1 : k ≤ ks.sum) : lot ks k = none ↔ k ∉ (List.range (2 ^ ks.length)).map (tot ks) := by
  constructor
  · intro h hm
    obtain ⟨i, hi, rfl⟩ := List.mem_map.mp hm
    rw [lot_tot hS (List.mem_range.mp hi)] at h
    cases h
  · intro hm
    cases h : lot ks k with
    | none => rfl
    | some fs =>
      exfalso
      obtain ⟨h1, h2, h3⟩ := lot_some h
      obtain ⟨i, hi, he⟩ := bits_digs h2
      refine hm (List.mem_map.mpr ⟨i, List.mem_range.mpr (by rw [← h1]; exact hi), ?_⟩)
      unfold tot
      rw [← h1, he, h3]

/-! the times that share nothing with the count -/
theorem foldl_filter (p : Int → Prop) [DecidablePred p] : ∀ (js l : List Int), js.foldl (fun l j => if p j then l ++ [j] else l) l = l ++ js.filter (fun j => decide (p j))
  | [], l => by simp
  | j :: js, l => by
    rw [List.foldl_cons, foldl_filter p js, List.filter_cons]
    by_cases h : p j
    · simp [h]
    · simp [h]
theorem mem_rangeKs_iff {a x : Int} {n : Nat} : x ∈ rangeKs a n ↔ a ≤ x ∧ x < a + (n : Int) := by
  constructor
  · exact fun h => mem_rangeKs h
  · intro h
    refine List.mem_map.mpr ⟨(x - a).toNat, List.mem_range.mpr (by omega), by omega⟩
def timesL (cn : Nat) : List Int := (rangeKs 1 ((cn : Int) + 1 - 1).toNat).filter fun k => decide (times1 cn k = [])
theorem times_pos {cn : Nat} (h : 1 ≤ cn) : 0 < (timesL cn).length := by
  refine List.length_pos_of_mem (a := 1) (List.mem_filter.mpr ⟨mem_rangeKs_iff.mpr ⟨by omega, by omega⟩, ?_⟩)
  simp [times1, rangeKs]
theorem times_len (cn : Nat) : (timesL cn).length ≤ cn := by
  refine Nat.le_trans (List.length_filter_le _ _) ?_
  rw [rangeKs_length]; omega
theorem times_mem {cn : Nat} {x : Int} (h : x ∈ timesL cn) : ∃ bn : Nat, x = (bn : Int) ∧ bn ≤ cn ∧ Nat.Coprime bn cn := by
  obtain ⟨h1, h2⟩ := List.mem_filter.mp h
  have hx := mem_rangeKs_iff.mp h1
  obtain ⟨bn, rfl⟩ : ∃ bn : Nat, x = (bn : Int) := ⟨x.toNat, by omega⟩
  refine ⟨bn, rfl, by omega, ?_⟩
  have hnil := of_decide_eq_true h2
  unfold times1 at hnil
  rw [foldl_filter (fun j => (bn : Int).fmod j = 0 ∧ (cn : Int).fmod j = 0), List.nil_append, List.filter_eq_nil_iff] at hnil
  have hg1 : 0 < Nat.gcd bn cn := Nat.gcd_pos_of_pos_left _ (by omega)
  rcases Nat.lt_or_ge 1 (Nat.gcd bn cn) with hgt | hle
  · exfalso
    have hb := Nat.gcd_dvd_left bn cn
    have hc := Nat.gcd_dvd_right bn cn
    have hle := Nat.le_of_dvd (by omega) hb
    refine hnil ((Nat.gcd bn cn : Nat) : Int) (mem_rangeKs_iff.mpr ⟨by omega, by omega⟩) (decide_eq_true ⟨?_, ?_⟩)
    · rw [nat_fmod, Nat.mod_eq_zero_of_dvd hb]; rfl
    · rw [nat_fmod, Nat.mod_eq_zero_of_dvd hc]; rfl
  · exact Nat.le_antisymm hle hg1

/-! the count's other one -/
theorem bezout (m n : Nat) : ∃ u v : Int, u * (m : Int) + v * (n : Int) = (Nat.gcd m n : Int) := by
  induction m, n using Nat.gcd.induction with
  | H0 n => exact ⟨0, 1, by simp⟩
  | H1 m n hm ih =>
    obtain ⟨u, v, h⟩ := ih
    refine ⟨v - u * ((n / m : Nat) : Int), u, ?_⟩
    rw [Nat.gcd_rec m n, ← h]
    have e : (n : Int) = (m : Int) * ((n / m : Nat) : Int) + ((n % m : Nat) : Int) := by
      have := Nat.div_add_mod n m
      exact_mod_cast this.symm
    generalize ((n / m : Nat) : Int) = q at *
    generalize ((n % m : Nat) : Int) = r at *
    rw [e]
    grind
theorem inverse {bn cn : Nat} (h : 1 ≤ cn) (hb : Nat.Coprime bn cn) : ∃ b0 : Nat, 1 ≤ b0 ∧ b0 ≤ cn ∧ b0 * bn % cn = 1 % cn := by
  obtain ⟨u, v, huv⟩ := bezout bn cn
  have hg : Nat.gcd bn cn = 1 := hb
  rw [hg] at huv
  have hc : (cn : Int) ≠ 0 := by omega
  have hu0 := Int.emod_nonneg u hc
  have hu1 := Int.emod_lt_of_pos u (show (0 : Int) < cn by omega)
  have hmod : ((u % cn) * (bn : Int)) % cn = 1 % (cn : Int) := by
    rw [Int.mul_emod, Int.emod_emod, ← Int.mul_emod, show u * (bn : Int) = 1 + (cn : Int) * (-v) by have : v * (cn : Int) = (cn : Int) * v := Int.mul_comm _ _; rw [Int.mul_neg]; simp only [Int.natCast_one] at huv; omega, Int.add_mul_emod_self_left]
  obtain ⟨b, hbu⟩ : ∃ b : Nat, u % (cn : Int) = (b : Int) := ⟨(u % cn).toNat, by omega⟩
  rw [hbu] at hmod hu1
  have hmodN : b * bn % cn = 1 % cn := by exact_mod_cast hmod
  rcases Nat.eq_zero_or_pos b with rfl | hpos
  · refine ⟨cn, h, Nat.le_refl _, ?_⟩
    rw [Nat.mul_mod_right]
    rw [Nat.zero_mul, Nat.zero_mod] at hmodN
    exact hmodN
  · exact ⟨b, hpos, by omega, hmodN⟩
theorem filter_one (x : Int) (a : Int) : ∀ n : Nat, (rangeKs a n).filter (fun k => decide (k = x)) = if a ≤ x ∧ x < a + (n : Int) then [x] else []
  | 0 => by simp [rangeKs]
  | n + 1 => by
    have e : rangeKs a (n + 1) = rangeKs a n ++ [a + (n : Int)] := by simp [rangeKs, List.range_succ]
    rw [e, List.filter_append, filter_one x a n]
    by_cases hx : a + (n : Int) = x
    · subst hx
      rw [if_neg (by omega), if_pos (by omega)]
      simp
    · by_cases h2 : a ≤ x ∧ x < a + (n : Int)
      · rw [if_pos h2, if_pos (by omega)]; simp [hx]
      · rw [if_neg h2, if_neg (by omega)]; simp [hx]
theorem inv_unique {bn cn x y : Nat} (hx : x * bn % cn = 1 % cn) (hy : y * bn % cn = 1 % cn) : x % cn = y % cn := by
  have e1 : x * (y * bn) % cn = x % cn := by rw [Nat.mul_mod, hy, ← Nat.mul_mod, Nat.mul_one]
  have e2 : x * (y * bn) % cn = y % cn := by
    rw [show x * (y * bn) = y * (x * bn) by rw [Nat.mul_left_comm], Nat.mul_mod, hx, ← Nat.mul_mod, Nat.mul_one]
  rw [← e1, e2]
theorem back_one {bn cn : Nat} (h : 1 ≤ cn) (hb : Nat.Coprime bn cn) : ∃ b0 : Nat, b0 ≤ cn ∧ b0 * bn % cn = 1 % cn ∧
    (rangeKs 1 ((cn : Int) + 1 - 1).toNat).foldl (fun l k => if k.toNat * bn % cn = 1 % cn then l ++ [k] else l) [] = [(b0 : Int)] := by
  obtain ⟨b0, h1, h2, h3⟩ := inverse h hb
  refine ⟨b0, h2, h3, ?_⟩
  rw [foldl_filter (fun k => k.toNat * bn % cn = 1 % cn), List.nil_append]
  have e : (rangeKs 1 ((cn : Int) + 1 - 1).toNat).filter (fun k => decide (k.toNat * bn % cn = 1 % cn)) = (rangeKs 1 ((cn : Int) + 1 - 1).toNat).filter (fun k => decide (k = (b0 : Int))) := by
    refine List.filter_congr fun k hk => ?_
    have hkr := mem_rangeKs_iff.mp hk
    refine decide_eq_decide.mpr ⟨fun hc => ?_, fun hc => by rw [hc, Int.toNat_natCast]; exact h3⟩
    have hu := inv_unique hc h3
    have hk1 : 1 ≤ k.toNat := by omega
    have hk2 : k.toNat ≤ cn := by omega
    have : k.toNat = b0 := by
      rcases Nat.lt_or_ge k.toNat cn with hlt | hge
      · rcases Nat.lt_or_ge b0 cn with hlt2 | hge2
        · rwa [Nat.mod_eq_of_lt hlt, Nat.mod_eq_of_lt hlt2] at hu
        · have : b0 = cn := by omega
          subst this
          rw [Nat.mod_eq_of_lt hlt, Nat.mod_self] at hu; omega
      · have hkc : k.toNat = cn := by omega
        rcases Nat.lt_or_ge b0 cn with hlt2 | hge2
        · rw [hkc, Nat.mod_self, Nat.mod_eq_of_lt hlt2] at hu; omega
        · omega
    omega
  rw [e, filter_one, if_pos (by omega)]
def shownL (ks : List Int) (bn cn : Nat) : List Nat := ks.map fun x => x.toNat * bn % cn
theorem one_back {bn cn b0 x : Nat} (hb : b0 * bn % cn = 1 % cn) : (x * bn % cn) * b0 % cn = x % cn := by
  rw [Nat.mod_mul_mod, show x * bn * b0 = x * (b0 * bn) by rw [Nat.mul_assoc, Nat.mul_comm bn], Nat.mul_mod, hb, ← Nat.mul_mod, Nat.mul_one]
theorem shown_back {ks : List Int} {bn cn b0 : Nat} (hk : ∀ x ∈ ks, 0 < x ∧ x ≤ 635) (hb : b0 * bn % cn = 1 % cn) :
    (((shownL ks bn cn).map fun (x : Nat) => (x : Int)).map fun x => ((x.toNat * b0 % cn : Nat) : Int)) = ks.map fun x => x.fmod (cn : Int) := by
  unfold shownL
  rw [List.map_map, List.map_map]
  refine List.map_congr_left fun x hx => ?_
  have := hk x hx
  obtain ⟨n, rfl⟩ : ∃ n : Nat, x = (n : Int) := ⟨x.toNat, by omega⟩
  show (((((n : Int).toNat * bn % cn : Nat) : Int).toNat * b0 % cn : Nat) : Int) = (n : Int).fmod (cn : Int)
  rw [Int.toNat_natCast, Int.toNat_natCast, one_back hb, nat_fmod]
theorem dot_back {bn cn b0 : Nat} (hb : b0 * bn % cn = 1 % cn) : ∀ (ks ds : List Int), (∀ x ∈ ks, 0 < x) → ∃ q : Int, dot ((shownL ks bn cn).map fun (x : Nat) => (x : Int)) ds * (b0 : Int) = dot ks ds + (cn : Int) * q
  | [], _, _ => ⟨0, by simp [shownL, dot]⟩
  | _ :: _, [], _ => ⟨0, by simp [shownL, dot]⟩
  | k :: ks, d :: ds, h => by
    obtain ⟨q, hq⟩ := dot_back hb ks ds fun x hx => h x (.tail _ hx)
    have hk := h k (.head _)
    obtain ⟨n, rfl⟩ : ∃ n : Nat, k = (n : Int) := ⟨k.toNat, by omega⟩
    have h1 := one_back (x := n) hb
    have e1 := Nat.div_add_mod ((n * bn % cn) * b0) cn
    have e2 := Nat.div_add_mod n cn
    rw [h1] at e1
    have hz : (((n * bn % cn : Nat) : Int)) * (b0 : Int) = (n : Int) + (cn : Int) * ((((n * bn % cn) * b0 / cn : Nat) : Int) - ((n / cn : Nat) : Int)) := by
      have z1 : (cn : Int) * (((n * bn % cn) * b0 / cn : Nat) : Int) + ((n % cn : Nat) : Int) = ((n * bn % cn : Nat) : Int) * (b0 : Int) := by exact_mod_cast e1
      have z2 : (cn : Int) * ((n / cn : Nat) : Int) + ((n % cn : Nat) : Int) = (n : Int) := by exact_mod_cast e2
      rw [Int.mul_sub]; omega
    refine ⟨((((n * bn % cn) * b0 / cn : Nat) : Int) - ((n / cn : Nat) : Int)) * d + q, ?_⟩
    have es : (shownL ((n : Int) :: ks) bn cn).map (fun (x : Nat) => (x : Int)) = ((n * bn % cn : Nat) : Int) :: (shownL ks bn cn).map fun (x : Nat) => (x : Int) := by
      simp [shownL]
    rw [es, dot, dot]
    generalize ((((n * bn % cn) * b0 / cn : Nat) : Int) - ((n / cn : Nat) : Int)) = q1 at *
    generalize ((n * bn % cn : Nat) : Int) = f at *
    generalize dot ((shownL ks bn cn).map fun (x : Nat) => (x : Int)) ds = D at *
    generalize dot ks ds = D2 at *
    grind
theorem dot_small : ∀ (hs : List Nat) (ds : List Int) (M : Int), (∀ x ∈ hs, (x : Int) ≤ M) → 0 ≤ M → Bits ds → 0 ≤ dot (hs.map fun (x : Nat) => (x : Int)) ds ∧ dot (hs.map fun (x : Nat) => (x : Int)) ds ≤ M * (hs.length : Int)
  | [], _, M, _, _, _ => by simp [dot]
  | _ :: _, [], M, _, hM, _ => by
    simp only [List.map_cons, dot]
    exact ⟨Int.le_refl _, Int.mul_nonneg hM (by omega)⟩
  | x :: hs, d :: ds, M, h, hM, hb => by
    have ih := dot_small hs ds M (fun y hy => h y (.tail _ hy)) hM fun y hy => hb y (.tail _ hy)
    have hx := h x (.head _)
    rw [List.map_cons, dot, List.length_cons, Int.natCast_add, Int.mul_add]
    have : M * ((1 : Nat) : Int) = M := by simp
    rcases hb d (.head _) with rfl | rfl
    · rw [Int.mul_zero]; omega
    · rw [Int.mul_one]; omega
theorem told_back {ks : List Int} {bn cn b0 u : Nat} (hS : Sup ks) (h7 : ks.length ≤ 7) (hc : ks.sum < (cn : Int)) (hc2 : cn ≤ 650) (hb : b0 * bn % cn = 1 % cn) (hu : u < 2 ^ ks.length) :
    ∃ tv : Nat, ((rangeKs 0 ks.length).foldl (fun l k => if (digs 1 ks.length u).getD k.toNat 0 = 1 then l ++ [((shownL ks bn cn).map fun (x : Nat) => (x : Int)).getD k.toNat 0] else l) []).sum = (tv : Int) ∧ tv ≤ 5000 ∧
      lot ks ((tv * b0 % cn : Nat) : Int) = some (digs 1 ks.length u) := by
  have hpos := fun z hz => (hS.pos z hz).1
  have hlen : ((shownL ks bn cn).map fun (x : Nat) => (x : Int)).length = ks.length := by simp [shownL]
  have hp := picks_dot (ks := (shownL ks bn cn).map fun (x : Nat) => (x : Int)) (ds := digs 1 ks.length u) (by rw [hlen]; exact digs_length _ _ _) (digs_bits _ _)
  rw [hlen] at hp
  rw [hp]
  have hcn : 0 < cn := by have := hS.bound.1; omega
  have hsm := dot_small (shownL ks bn cn) (digs 1 ks.length u) 650 (fun x hx => by
    obtain ⟨y, _, rfl⟩ := List.mem_map.mp hx
    have := Nat.mod_lt (y.toNat * bn) hcn; omega) (by decide) (digs_bits _ _)
  have hsl : (shownL ks bn cn).length = ks.length := by simp [shownL]
  obtain ⟨q, hq⟩ := dot_back hb ks (digs 1 ks.length u) hpos
  have htb := dot_bound hpos (digs_bits ks.length u)
  generalize dot ((shownL ks bn cn).map fun (x : Nat) => (x : Int)) (digs 1 ks.length u) = D at *
  obtain ⟨tv, rfl⟩ : ∃ tv : Nat, D = (tv : Int) := ⟨D.toNat, by omega⟩
  refine ⟨tv, rfl, by omega, ?_⟩
  have e : ((tv * b0 % cn : Nat) : Int) = dot ks (digs 1 ks.length u) := by
    rw [Int.natCast_emod, Int.natCast_mul, hq, Int.add_mul_emod_self_left, Int.emod_eq_of_lt htb.1 (by omega)]
  rw [e]
  exact lot_tot hS hu

end
-- part L16
section
theorem fresh_L16 : True := by w_top off; exact trivial
-- needs: B1 M1 M2 M3 M4 M5 M6 M7 T1 F4 F9 L1 L2 L3 L4 L5 L6 L7 L8 L9 L10 L11 L12 L13 L14 L15
section
variable {w : World} {p : Program} {loose : List Str} {mean : ExcName → Option Value} {mg mb : Str → Option Value} {g : Heap} {Q QF : Flow → Shared → Prop} {s : Shared}
theorem law_all {nm q : Str} {pr : Arguments} {s0 s1 s2 s3 s4 s5 s6 s7 s8 s9 s10 s11 s12 s13 s14 s15 s16 s17 : Stmt} {sc : Scope} {oc dV kV doc pm cd ct cdv : Value} {an od : Option Addr} {osl : Array (Option Value)} {cl : List (Str × Addr)} {qual : Str} {f : Addr}
   (hK : (hd.heap_39 w.params).lookup 95 = some ⟨oc, od, .func (fnX nm q pr [s0, s1, s2, s3, s4, s5, s6, s7, s8, s9, s10, s11, s12, s13, s14, s15, s16, s17] sc cl dV kV doc pm an cd ct), osl⟩)
   (G : Gd w p loose mean mg mb g) {L l : Addr} {m : Str → Option Value} {vs : List Value} {ns : List Int} {o1 o2 o3 o4 o5 o6 o7 o8 : Obj}
   (F : Fr g L s.heap m) (hm : m "script" = some (.ref l)) (N : News g L s.heap [(L+1+1+1+1+1+1+1+1, o8), (L+1+1+1+1+1+1+1, o7), (L+1+1+1+1+1+1, o6), (L+1+1+1+1+1, o5), (L+1+1+1+1, o4), (L+1+1+1, o3), (L+1+1, o2), (L+1, o1), (64, tabObj #[]), (57, tabObj #[])])
   (d1 : o1.data = .cell none) (d2 : o2.data = .cell none) (d3 : o3.data = .cell none) (d4 : o4.data = .cell none) (d5 : o5.data = .cell none) (d6 : o6.data = .cell none) (d7 : o7.data = .cell none) (d8 : o8.data = .cell none)
   (l64 : @LT.lt Nat _ 64 L) (l57 : @LT.lt Nat _ 57 L) (hl : g.IsList l vs.toArray) (hi : IntsAre vs ns) (hlen : ns.length ≤ 63)
   (cont : ∀ m' a b h tk, Fr g L h m' → News g L h [(64, tabObj a), (57, tabObj b)] → Q (.ret (.bool true)) { s with heap := h, toks := tk }) :
   wpAny (model prog w) (Ad 400 1000) (execs [s0, s1, s2, s3, s4, s5, s6, s7, s8, s9, s10, s11, s12, s13, s14, s15, s16, s17] (envOfC qual sc L f cdv)) Q (fun _ _ => False) s := by
  have hS := numsOf_sup ns
  have h7 := numsOf_length ns
  have hsm := hS.small h7
  have hkp : ∀ x ∈ numsOf ns, 0 < x ∧ x ≤ 635 := fun x hx => by have := hS.pos x hx; omega
  refine lawA hK G F hm N d1 l64 l57 hl hi hlen ?_
  intro Dn vn c ox h1 tk1 m1 hn hgt dx e1 F1 N1
  generalize numsOf ns = ks at *
  refine lawB (s := { s with heap := h1, toks := tk1 }) hK G F1 e1 N1 hn hgt hS h7 dx d2 d3 l64 l57 ?_
  intro Ds Do tw m2 vt cs o2' o3' t5 t6 more h2 tk2 g1 g2 d2' hIs h5 h6 hof e2 e3 e4 F2 N2
  have hss : ((List.range (2 ^ ks.length)).map (tot ks)).length ≤ 128 := by
    rw [List.length_map, List.length_range]; exact Nat.pow_le_pow_right (by decide) h7
  have hsr := tot_rise hS
  have hln := lot_none hS
  generalize (List.range (2 ^ ks.length)).map (tot ks) = ss at *
  refine lawD (s := { s with heap := h2, toks := tk2 }) hK G F2 e2 e3 e4 N2 hIs hss hsr hgt g1 g2 d2' l64 hof ?_
  intro m3 vo co h3 tk3 hIo f1 f2 f3 F3 N3
  refine lawE (s := { s with heap := h3, toks := tk3 }) hK G F3 f1 f2 f3 N3 hIs hIo hss hsr hgt g1 g2 d2' l64 hof ?_
  intro m4 h4 tk4 f4 f5 F4 N4
  refine lawF (s := { s with heap := h4, toks := tk4 }) hK G F4 f4 f5 N4 hIs hn hS h7 hss hln hgt g1 dx d2' l64 ?_
  intro m5 h5' tk5 f6 f7 F5 N5
  have hofn := offTail (offTail hof)
  refine lawG (s := { s with heap := h5', toks := tk5 }) hK G F5 f6 f7 N5 hl hi hlen hgt d4 l64 hofn ?_
  intro m6 o4' tc h6' tk6 d4' f8 F6 N6
  obtain ⟨cn, hcn⟩ : ∃ cn : Nat, ks.sum + 1 + (ns.sum.natAbs % 5 : Nat) = (cn : Int) := ⟨(ks.sum + 1 + (ns.sum.natAbs % 5 : Nat)).toNat, by omega⟩
  have hm5 : ns.sum.natAbs % 5 < 5 := Nat.mod_lt _ (by decide)
  have hc1 : 1 ≤ cn := by omega
  have hc2 : cn ≤ 650 := by omega
  have hcs : ks.sum < (cn : Int) := by omega
  rw [hcn] at d4'
  refine lawH (s := { s with heap := h6', toks := tk6 }) (ks := ks) hK G F6 f8 N6 (by omega) (by omega) d4' l64 ?_
  intro Dt ys c9 m7 h7' tk7 hIt hne f9 f10 F7 N7
  have htp := times_pos hc1
  have htl := times_len cn
  have htm := @times_mem cn
  have hIt' : IntsAre ys (timesL cn) := hIt
  clear hIt
  generalize timesL cn = tl at *
  refine lawI (s := { s with heap := h7', toks := tk7 }) hK G F7 f9 f10 N7 hl hi hlen hIt' htp (by omega) hne hgt d5 l64 hofn ?_
  intro m8 o5' tb h8 tk8 d5' f11 F8 N8
  have hidx : ns.sum.natAbs % tl.length < tl.length := Nat.mod_lt _ htp
  obtain ⟨bn, hbn, hbn2, hbc⟩ := htm (x := tl.getD (ns.sum.natAbs % tl.length) 0) (by rw [List.getD_eq_getElem?_getD, List.getElem?_eq_getElem hidx]; exact List.getElem_mem hidx)
  rw [hbn] at d5'
  obtain ⟨b0, hb0, hbb, hback⟩ := back_one hc1 hbc
  refine lawJ (s := { s with heap := h8, toks := tk8 }) hK G F8 f11 N8 hgt hc1 hc2 (by omega) d4' d5' d6 l64 h5 h6 hofn hback ?_
  intro Db tt cb m9 o6' h9 tk9 ne1 ne2 d6' f12 F9 N9
  refine lawL (s := { s with heap := h9, toks := tk9 }) hK G F9 f12 N9 hn hkp h7 hgt ne1 hc1 hc2 (by omega) dx d4' d5' d7 l64 h5 h6 hofn ?_
  intro Dh vh ch m10 o7' h10 tk10 hIh ne3 d7' f13 F10 N10
  have hIh' : IntsAre vh ((shownL ks bn cn).map fun (x : Nat) => (x : Int)) := by
    have e : (shownL ks bn cn).map (fun (x : Nat) => (x : Int)) = ks.map fun x => ((x.toNat * bn % cn : Nat) : Int) := by simp [shownL, Function.comp_def]
    rw [e]; exact hIh
  have hsl : ∀ x ∈ shownL ks bn cn, x ≤ 650 := fun x hx => by
    obtain ⟨y, _, rfl⟩ := List.mem_map.mp hx
    have := Nat.mod_lt (y.toNat * bn) hc1; omega
  have hsll : (shownL ks bn cn).length = ks.length := by simp [shownL]
  refine lawM (s := { s with heap := h10, toks := tk10 }) hK G F10 f13 N10 hn hIh' hkp hsl h7 (by omega) hc1 hc2 (by omega) dx d4' d6' d7' h5 h6 (shown_back hkp hbb) ?_
  intro m11 h11 tk11 f14 F11 N11
  have hpu : ns.sum.natAbs % 2 ^ ks.length < 2 ^ ks.length := Nat.mod_lt _ (Nat.two_pow_pos _)
  obtain ⟨tv, htv, htv2, hlt⟩ := told_back (bn := bn) hS h7 hcs hc2 hbb hpu
  refine lawN (s := { s with heap := h11, toks := tk11 }) hK G F11 f14 N11 hl hi hlen hn h7 hgt ne2 ne3 dx d8 l64 h5 hofn rfl rfl ?_
  intro Dl fs o8' m12 h12 tk12 hIf d8' f15 F12 N12
  refine lawO (s := { s with heap := h12, toks := tk12 }) hK G F12 f15 N12 hn hIh' hIf (by rw [List.length_map, hsll]) (digs_length _ _ _) h7 hS.rise hc1 hc2 (by omega) dx d4' d6' d7' d8' h5 h6 htv htv2 hlt ?_
  intro m13 h13 tk13 F13 N13
  obtain ⟨c5, _, _, _, _, rfl, _⟩ := h5
  obtain ⟨c6, _, _, _, _, rfl, _⟩ := h6
  have NA : News g L h13 [(64, tabObj #[rawInt 94, rawInt 4, Value.ref c6]), (57, tabObj #[rawInt 79, rawInt 4, Value.ref c5])] := newsSub N13 fun q hq => by
    rcases List.mem_cons.mp hq with rfl | hq
    · exact .tail _ (.head _)
    · rw [List.mem_singleton.mp hq]; exact .head _
  exact cont m13 _ _ h13 tk13 F13 NA
end

end
-- part E1
section
theorem fresh_E1 : True := by w_top off; exact trivial
-- needs: L16
theorem e1 : PySem.Challenge.rw_gf0007_01.Holds := hd (by
  k_go0
  rename Fr _ _ _ _ => F9
  rename News _ _ _ _ => N9
  rename Frag.In _ _ => X9
  rename Top _ _ _ _ _ _ => T9
  rename IntsAre _ _ => I9
  rename _ ∧ _ => l9
  rename Heap.IsList (ghostOf _ _) _ _ => L9
  refine weaken 400 1000 ?_ ?h1 ?h2 ?h3
  case h1 => rfl
  case h2 => exact Nat.le_of_ble_eq_true rfl
  case h3 => exact Nat.le_of_ble_eq_true rfl
  refine wpAny_mono (E := fun _ _ => False) ?_ (fun _ _ h => h) (fun _ _ e => False.elim e)
  dsimp only
  refine' law_all (by k_is) ?G ?F ?hm ?N ?d1 ?d2 ?d3 ?d4 ?d5 ?d6 ?d7 ?d8 ?l64 ?l57 ?hl ?hi ?hlen ?cont
  case F => exact F9
  case N => exact N9
  case G => exact Gd.mk X9 T9 (by assumption) (by assumption)
  case hl => exact L9
  case hi => exact I9
  case hm => with_unfolding_all rfl
  case l64 => exact l9.1
  case l57 => exact l9.2
  case hlen => omega
  case cont =>
    intro m' a b h tk F' N'
    clear F9 N9
    dsimp only
    k_steps
  all_goals (with_unfolding_all assumption))

end
end Gf7

theorem PySem.Challenge.cw_gf0007_01_holds : PySem.Challenge.rw_gf0007_01.Holds :=
  Gf7.e1
