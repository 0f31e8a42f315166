import PyProof.Rows.All
import Wide.All
import OpenK.AllK
import Wide.FinOn
import Lean
import PySem.Challenge.RW_dz0121_01

set_option Elab.async false

section
open PySem PySem.W PyProof.Rows
set_option Elab.async false
namespace Mine
set_option maxRecDepth 100000 in
set_option maxHeartbeats 8000000 in
open_top hd for PySem.Challenge.rw_dz0121_01
end Mine
end

section
theorem Mine.offDzFrame : True := by
  w_top off
  trivial
open PySem PySem.W PyProof.Rows PySem.Calls
set_option Elab.async false
namespace Mine

theorem codeR {prog : Program} {w : World} {A : Around} {s : Shared} {K : Frag} {p : Program} {loose : List Str} {mean : ExcName → Option Value} {mg mb : Str → Option Value}
    {R : Result → Shared → Prop} {name qual : Str} {params : Arguments} {body : List Stmt} {scope : Scope} {dV kV doc pm cdv ct oc : Value} {an od : Option Addr} {osl : Array (Option Value)} {f : Addr} {args : Args} {binds : List (Str × Value)}
    (X : K.In s.heap) (T : Top p loose mean mg mb s.heap)
    (ho : K.lookup f = some ⟨oc, od, .func (fnOf name qual params body scope dV kV doc pm an cdv ct), osl⟩) (hcd : codeIn K cdv qual = true) (hroom : A.depth < recursionLimit)
    (hbind : BindsTo s (fnOf name qual params body scope dV kV doc pm an cdv ct) args binds) (hloc : ∀ y ∈ binds, scope.names.lookup y.1 = some .local)
    (h : ∀ h₁, Fr s.heap s.heap.objs.size h₁ (fun y => binds.reverse.lookup y) →
      wpAny (model prog w) (A.deeper (envOf qual scope s.heap.objs.size f cdv)) (execs body (envOf qual scope s.heap.objs.size f cdv))
        (fun fl s' => R (.ok (.ret (match fl with | .ret v => v | _ => .none))) s')
        (fun e s' => wpAny (model prog w) (A.deeper (envOf qual scope s.heap.objs.size f cdv)) (leaving (envOf qual scope s.heap.objs.size f cdv) e) (fun _ s'' => R (.error e) s'') (fun e' s'' => R (.error e') s'') s')
        { s with heap := h₁, toks := s.toks + binds.length })
    (hco : scope.isCoroutine = false := by rfl) (hgen : scope.isGenerator = false := by rfl) (hk : scope.kind = .function := by rfl)
    (hcell : ∀ x ∈ scope.names, x.2 ≠ .cell := by decide) : codeAny (model prog w) A (.call (.ref f) args) R s :=
  codeAny_call_def (fd := fnOf name qual params body scope dV kV doc pm an cdv ct) (body := body) (binds := binds) hroom (X _ _ ho) rfl T.nolimit (codeRec_of X hcd) rfl hbind hcell hloc
    (fun h₁ hns hk₁ => h h₁ ⟨hns, hk₁, Nat.le_refl _⟩) hco hgen hk

/-- as codeR, for a def whose names are caught by a comprehension -/
theorem codeRC {prog : Program} {w : World} {A : Around} {s : Shared} {K : Frag} {p : Program} {loose : List Str} {mean : ExcName → Option Value} {mg mb : Str → Option Value}
    {R : Result → Shared → Prop} {name qual : Str} {params : Arguments} {body : List Stmt} {scope : Scope} {dV kV doc pm cdv ct oc : Value} {an od : Option Addr} {osl : Array (Option Value)} {f : Addr} {args : Args} {binds : List (Str × Value)}
    (X : K.In s.heap) (T : Top p loose mean mg mb s.heap)
    (ho : K.lookup f = some ⟨oc, od, .func (fnOf name qual params body scope dV kV doc pm an cdv ct), osl⟩) (hcd : codeIn K cdv qual = true) (hroom : A.depth < recursionLimit)
    (hbind : BindsTo s (fnOf name qual params body scope dV kV doc pm an cdv ct) args binds) (hkind : (binds.all fun y => scope.names.lookup y.1 == some .local || scope.names.lookup y.1 == some .cell) = true)
    (hnd : ((cellsFrom 0 scope.names []).map (·.1)).Nodup)
    (h : ∀ h₁ tk cells, Fr s.heap s.heap.objs.size h₁ (bindL (envOfC qual scope s.heap.objs.size f cdv).kindOf binds fun _ => none) → News s.heap s.heap.objs.size h₁ cells →
      CellsAre (bindC (envOfC qual scope s.heap.objs.size f cdv).kindOf binds fun _ => none) (cellsFrom (s.heap.objs.size + 1) scope.names []) cells →
      wpAny (model prog w) (A.deeper (envOfC qual scope s.heap.objs.size f cdv)) (execs body (envOfC qual scope s.heap.objs.size f cdv))
        (fun fl s' => R (.ok (.ret (match fl with | .ret v => v | _ => .none))) s')
        (fun e s' => wpAny (model prog w) (A.deeper (envOfC qual scope s.heap.objs.size f cdv)) (leaving (envOfC qual scope s.heap.objs.size f cdv) e) (fun _ s'' => R (.error e) s'') (fun e' s'' => R (.error e') s'') s')
        { s with heap := h₁, toks := tk })
    (hco : scope.isCoroutine = false := by rfl) (hgen : scope.isGenerator = false := by rfl) (hk : scope.kind = .function := by rfl) : codeAny (model prog w) A (.call (.ref f) args) R s := by
  refine codeAny_call_function (fd := fnOf name qual params body scope dV kV doc pm an cdv ct) hroom (X _ _ ho) rfl hco hgen rfl (codeRec_of X hcd) (hbind _ _ _ _ ?_)
  refine wpAny_newFunctionEnv_cells hk (kindsX hkind _) fun env' he s' x => ?_
  subst he
  refine ⟨T.nolimit.keeps x.toInCall.keep, codeAny_func ?_⟩
  obtain ⟨h₁, tk, rfl, _⟩ := x.done
  have hk₁ := x.toInCall.keep
  obtain ⟨cells, NC, Y⟩ := Cl.news (h₀ := s.heap) (Nat.le_refl _) fun n c hm => ⟨x.cell n c (lookup_of_mem_nodup (cellsFrom_names scope.names 0 (s.heap.objs.size + 1) [] [] rfl ▸ hnd) hm), x.above n c hm⟩
  exact h h₁ tk cells ⟨x.toInCall.ns, hk₁, Nat.le_refl _⟩ NC Y

/-- the callee sees a base in which the caller's frame and `part` are hidden -/
theorem codeF {prog : Program} {w : World} {A : Around} {s : Shared} {h₀ : Heap} {L a : Addr} {m : Str → Option Value} {cn : Str} {cs : Scope} {ccd : Value} {part : List (Addr × Obj)} {K : Frag} {p : Program} {loose : List Str} {mean : ExcName → Option Value} {mg mb : Str → Option Value}
    {R : Result → Shared → Prop} {name qual : Str} {params : Arguments} {body : List Stmt} {scope : Scope} {dV kV doc pm cdv ct oc : Value} {an od : Option Addr} {osl : Array (Option Value)} {f : Addr} {args : Args} {binds : List (Str × Value)}
    (F : Fr h₀ L s.heap m) (X₀ : K.In h₀) (N : News h₀ L s.heap part) (T : Top p loose mean mg mb h₀)
    (ho : K.lookup f = some ⟨oc, od, .func (fnOf name qual params body scope dV kV doc pm an cdv ct), osl⟩) (hcd : codeIn K cdv qual = true) (hroom : A.depth < recursionLimit)
    (hbind : BindsTo s (fnOf name qual params body scope dV kV doc pm an cdv ct) args binds) (hloc : ∀ y ∈ binds, scope.names.lookup y.1 = some .local)
    (h : ∀ g oL h₁, K.In g → Top p loose mean mg mb g → TI.Caller h₀ L m oL → TI.Frs [envOf cn cs L a ccd] [(L, oL)] → (∀ p ∈ part, p.1 ≠ L) →
      Fr g s.heap.objs.size h₁ (fun y => binds.reverse.lookup y) → News g s.heap.objs.size h₁ (part ++ [(L, oL)]) →
      (∀ b o, s.heap.get? b = some o → b ≠ L → (∀ q ∈ part, b ≠ q.1) → g.get? b = some o) →
      wpAny (model prog w) (A.deeper (envOf qual scope s.heap.objs.size f cdv)) (execs body (envOf qual scope s.heap.objs.size f cdv))
        (fun fl s' => TI.LeaveI s' (R (.ok (.ret (match fl with | .ret v => v | _ => .none))) s'))
        (fun e s' => wpAny (model prog w) (A.deeper (envOf qual scope s.heap.objs.size f cdv)) (leaving (envOf qual scope s.heap.objs.size f cdv) e) (fun _ s'' => TI.LeaveX (R (.error e) s'')) (fun e' s'' => TI.LeaveX (R (.error e') s'')) s')
        { s with heap := h₁, toks := s.toks + binds.length })
    (hck : cs.kind = .function) (hco : scope.isCoroutine = false := by rfl) (hgen : scope.isGenerator = false := by rfl) (hk : scope.kind = .function := by rfl)
    (hcell : ∀ x ∈ scope.names, x.2 ≠ .cell := by decide) : codeAny (model prog w) A (.call (.ref f) args) R s := by
  have X := X₀.keeps F.keep
  obtain ⟨oL, es, ep, hL, hLd, hLk, hLf⟩ := F.ns
  have hLt := Heap.lt_size hL
  have hkind : (envOf cn cs L a ccd).scope.kind ≠ .module := by
    show cs.kind ≠ .module
    rw [hck]; decide
  refine codeAny_call_def (fd := fnOf name qual params body scope dV kV doc pm an cdv ct) (body := body) (binds := binds) hroom (X _ _ ho) rfl (T.nolimit.keeps F.keep) (codeRec_of X hcd) rfl hbind hcell hloc (fun h₁ hns hk₁ => ?_) hco hgen hk
  have nm : ∀ b o, h₀.get? b = some o → b ∉ L :: part.map (·.1) := fun b o e q => by
    rcases List.mem_cons.mp q with q | q
    · exact absurd (Nat.lt_of_lt_of_le (Heap.lt_size e) F.above) (q ▸ Nat.lt_irrefl _)
    · obtain ⟨p, hp, rfl⟩ := List.mem_map.mp q
      rw [(N p hp).2.2] at e; cases e
  have st : ∀ b o, h₀.get? b = some o → (hideAll s.heap (L :: part.map (·.1))).get? b = some o := fun b o e => hideAll_get _ (F.keep b o e) (nm b o e)
  refine wpAny_mono (h (hideAll s.heap (L :: part.map (·.1))) oL h₁ (X₀.keeps st) (T.keeps st) ⟨fun h' sl e => ⟨_, es, ep, e, hLd, hLk, hLf⟩, ⟨es, ep, hLd⟩, F.above⟩ ⟨hkind, rfl, ⟨es, ep, hLd⟩, trivial⟩ (fun p hp => (N p hp).2.1)
    ⟨hns, fun b o e => hk₁ b o (of_hideAll _ e), Nat.le_of_eq (hideAll_size _ _)⟩ (fun p hp => ?_) (fun b o e n1 n2 => hideAll_get _ e ?_)) (fun _ _ x => x) fun _ _ x => wpAny_mono x (fun _ _ y => y) fun _ _ y => y
  · rcases List.mem_append.mp hp with hp | hp
    · obtain ⟨h1, h2, h3⟩ := N p hp
      exact ⟨hk₁ _ _ h1, Nat.ne_of_lt (Heap.lt_size h1), hideAll_none _ (List.mem_cons_of_mem _ (List.mem_map_of_mem hp))⟩
    · rcases List.mem_cons.mp hp with rfl | hp
      · exact ⟨hk₁ _ _ hL, Nat.ne_of_lt hLt, hideAll_none _ List.mem_cons_self⟩
      · exact nomatch hp
  · intro q
    rcases List.mem_cons.mp q with q | q
    · exact n1 q
    · obtain ⟨p, hp, e⟩ := List.mem_map.mp q
      exact n2 p hp e.symm

/-- the way back from such a callee -/
theorem leaveF {h₀ g : Heap} {L L' : Addr} {m m' : Str → Option Value} {oL : Obj} {P : Prop} {s s' : Shared} {part new : List (Addr × Obj)} {sl : Array (Option Value)}
    (F : Fr h₀ L s.heap m) (N : News h₀ L s.heap part) (C : TI.Caller h₀ L m oL) (hg : ∀ b o, s.heap.get? b = some o → b ≠ L → (∀ q ∈ part, b ≠ q.1) → g.get? b = some o)
    (F' : Fr g L' s'.heap m') (N' : News g L' s'.heap (new ++ [(L, { oL with slots := sl })])) (hne : TLg.AllNe L new)
    (k : Fr h₀ L s'.heap m → News h₀ L s'.heap new → (∀ b o, s.heap.get? b = some o → b ≠ L → (∀ q ∈ part, b ≠ q.1) → s'.heap.get? b = some o) → P) : TI.LeaveI s' P := by
  have hL : s'.heap.get? L = some { oL with slots := sl } := (N' _ (List.mem_append_right _ List.mem_cons_self)).1
  have up : ∀ b o, h₀.get? b = some o → g.get? b = some o := fun b o e => hg b o (F.keep b o e) (fun q => absurd (Nat.lt_of_lt_of_le (Heap.lt_size e) F.above) (q ▸ Nat.lt_irrefl _)) (fun q hq z => by rw [z, (N q hq).2.2] at e; cases e)
  refine k ⟨C.ns _ sl hL, fun b o e => F'.keep b o (up b o e), C.above⟩ (fun p hp => ?_) fun b o e n1 n2 => F'.keep b o (hg b o e n1 n2)
  obtain ⟨x1, _, x3⟩ := N' p (List.mem_append_left _ hp)
  refine ⟨x1, hne.mem p hp, ?_⟩
  cases q : h₀.get? p.1 with
  | none => rfl
  | some o => rw [up _ _ q] at x3; cases x3

theorem freshF {s : Shared} {g : Heap} {L x : Addr} {part : List (Addr × Obj)} (hg : ∀ b o, s.heap.get? b = some o → b ≠ L → (∀ q ∈ part, b ≠ q.1) → g.get? b = some o)
    (hx : g.get? x = none) (h1 : x ≠ L) (h2 : ∀ q ∈ part, x ≠ q.1) : s.heap.get? x = none := by
  cases hq : s.heap.get? x with
  | none => rfl
  | some o => rw [hg x o hq h1 h2] at hx; cases hx
theorem all2 {x a b : Addr} {o1 o2 : Obj} (h1 : x ≠ a) (h2 : x ≠ b) : ∀ q ∈ [(a, o1), (b, o2)], x ≠ q.1 := by
  intro r hr
  simp only [List.mem_cons, List.not_mem_nil, or_false] at hr
  rcases hr with rfl | rfl
  · exact h1
  · exact h2
theorem frUp {h₀ h h' : Heap} {L : Addr} {m : Str → Option Value} (F : Fr h₀ L h m) (k : ∀ q o, h.get? q = some o → h'.get? q = some o) : Fr h₀ L h' m := ⟨F.ns.keeps k, fun b o e => k b o (F.keep b o e), F.above⟩
theorem newsUp {h₀ h h' : Heap} {L : Addr} {news : List (Addr × Obj)} (N : News h₀ L h news) (k : ∀ q o, h.get? q = some o → h'.get? q = some o) : News h₀ L h' news := fun p hp => ⟨k _ _ (N p hp).1, (N p hp).2⟩
theorem frSet {h₀ h h' : Heap} {L : Addr} {m m' : Str → Option Value} (F : Fr h₀ L h m) (hn : h'.Ns L m') (k : ∀ q o, q ≠ L → h.get? q = some o → h'.get? q = some o) : Fr h₀ L h' m' :=
  ⟨hn, fun b o e => k b o (Nat.ne_of_lt (Nat.lt_of_lt_of_le (Heap.lt_size e) F.above)) (F.keep b o e), F.above⟩
theorem newsSet {h₀ h h' : Heap} {L D : Addr} {news : List (Addr × Obj)} {m : Str → Option Value} {o : Obj} (F : Fr h₀ L h m) (N : News h₀ L h news) (k : ∀ q o, q ≠ L → h.get? q = some o → h'.get? q = some o) (hD : h.get? D = none) (hg : h'.get? D = some o) : News h₀ L h' ((D, o) :: news) := by
  intro p hp
  rcases List.mem_cons.mp hp with rfl | hp
  · refine ⟨hg, fun q => ?_, ?_⟩
    · obtain ⟨oL, _, _, hL, _⟩ := F.ns
      have q' : D = L := q
      rw [← q', hD] at hL; cases hL
    · cases hq : h₀.get? D with
      | none => rfl
      | some o' => rw [F.keep _ _ hq] at hD; cases hD
  · exact ⟨k _ _ (N p hp).2.1 (N p hp).1, (N p hp).2⟩
theorem newsNe {h₀ h : Heap} {L D : Addr} {news : List (Addr × Obj)} (N : News h₀ L h news) (hD : h.get? D = none) : ∀ p ∈ news, p.1 ≠ D := fun p hp q => by
  have := (N p hp).1
  rw [q, hD] at this; cases this
theorem none_down {h h' : Heap} {x : Addr} (k : ∀ q o, h.get? q = some o → h'.get? q = some o) (e : h'.get? x = none) : h.get? x = none := by
  cases hq : h.get? x with
  | none => rfl
  | some o => rw [k _ _ hq] at e; cases e
theorem kstB_of_ne {rest : Str → Option Value} {z : Str} : ∀ {ps : List (Str × Value)}, (∀ p ∈ ps, z ≠ p.1) → kstB rest ps z = rest z
  | [], _ => rfl
  | p :: r, h => by
    show (if z = p.1 then some p.2 else kstB rest r z) = rest z
    rw [if_neg (h p (.head _))]
    exact kstB_of_ne fun q hq => h q (.tail _ hq)
theorem fr1 {h₀ h : Heap} {L : Addr} {x1 : Str} {v1 : Value} (F : Fr h₀ L h (fun y => [(x1, v1)].reverse.lookup y)) : Fr h₀ L h (fun y => if y = x1 then some v1 else none) := by
  have e : (fun y => [(x1, v1)].reverse.lookup y) = (fun y => if y = x1 then some v1 else none) := by
    funext y
    by_cases h : y = x1
    · have hb : (y == x1) = true := by simpa using h
      simp only [List.reverse_cons, List.reverse_nil, List.nil_append, List.lookup, hb, if_pos h]
    · have hb : (y == x1) = false := by simpa using h
      simp only [List.reverse_cons, List.reverse_nil, List.nil_append, List.lookup, hb, if_neg h]
  rw [← e]; exact F
theorem fr2 {h₀ h : Heap} {L : Addr} {x1 x2 : Str} {v1 v2 : Value} (F : Fr h₀ L h (fun y => [(x1, v1), (x2, v2)].reverse.lookup y)) : Fr h₀ L h (fun y => if y = x2 then some v2 else if y = x1 then some v1 else none) := by
  have e : (fun y => [(x1, v1), (x2, v2)].reverse.lookup y) = (fun y => if y = x2 then some v2 else if y = x1 then some v1 else none) := by
    funext y
    by_cases h : y = x2
    · have hb : (y == x2) = true := by simpa using h
      simp only [List.reverse_cons, List.reverse_nil, List.nil_append, List.cons_append, List.lookup, hb, if_pos h]
    · have hb : (y == x2) = false := by simpa using h
      by_cases h' : y = x1
      · have hb' : (y == x1) = true := by simpa using h'
        simp only [List.reverse_cons, List.reverse_nil, List.nil_append, List.cons_append, List.lookup, hb, hb', if_neg h, if_pos h']
      · have hb' : (y == x1) = false := by simpa using h'
        simp only [List.reverse_cons, List.reverse_nil, List.nil_append, List.cons_append, List.lookup, hb, hb', if_neg h, if_neg h']
  rw [← e]; exact F
theorem fr3 {h₀ h : Heap} {L : Addr} {x1 x2 x3 : Str} {v1 v2 v3 : Value} (F : Fr h₀ L h (fun y => [(x1, v1), (x2, v2), (x3, v3)].reverse.lookup y)) : Fr h₀ L h (fun y => if y = x3 then some v3 else if y = x2 then some v2 else if y = x1 then some v1 else none) := by
  have e : (fun y => [(x1, v1), (x2, v2), (x3, v3)].reverse.lookup y) = (fun y => if y = x3 then some v3 else if y = x2 then some v2 else if y = x1 then some v1 else none) := by
    funext y
    by_cases h3 : y = x3
    · have hb : (y == x3) = true := by simpa using h3
      simp only [List.reverse_cons, List.reverse_nil, List.nil_append, List.cons_append, List.lookup, hb, if_pos h3]
    · have hb3 : (y == x3) = false := by simpa using h3
      by_cases h : y = x2
      · have hb : (y == x2) = true := by simpa using h
        simp only [List.reverse_cons, List.reverse_nil, List.nil_append, List.cons_append, List.lookup, hb3, hb, if_neg h3, if_pos h]
      · have hb : (y == x2) = false := by simpa using h
        by_cases h' : y = x1
        · have hb' : (y == x1) = true := by simpa using h'
          simp only [List.reverse_cons, List.reverse_nil, List.nil_append, List.cons_append, List.lookup, hb3, hb, hb', if_neg h3, if_neg h, if_pos h']
        · have hb' : (y == x1) = false := by simpa using h'
          simp only [List.reverse_cons, List.reverse_nil, List.nil_append, List.cons_append, List.lookup, hb3, hb, hb', if_neg h3, if_neg h, if_neg h']
  rw [← e]; exact F
end Mine
end

section
theorem Mine.offDzRules : True := by
  w_top off
  trivial
open PySem PySem.W PyProof.Rows PySem.Calls
set_option Elab.async false
namespace Mine

theorem ints_erase {us : List Value} {ys : List Int} (hi : IntsAre us ys) {x : Int} (hx : x ∈ ys) :
    ∃ j t, us[j]? = some (.int x t) ∧ (∀ m, m < j → ∃ y u, us[m]? = some (.int y u) ∧ y ≠ x) ∧ IntsAre (us.eraseIdx j) (ys.erase x) := by
  induction hi with
  | nil => cases hx
  | cons k t r ih =>
    rename_i vs ns
    by_cases hk : k = x
    · subst hk
      refine ⟨0, t, rfl, fun m hm => absurd hm (Nat.not_lt_zero _), ?_⟩
      simpa using r
    · have hx' : x ∈ ns := by
        rcases List.mem_cons.mp hx with e | e
        · exact absurd e.symm hk
        · exact e
      obtain ⟨j, t', h1, h2, h3⟩ := ih hx'
      refine ⟨j + 1, t', by simpa using h1, fun m hm => ?_, ?_⟩
      · cases m with
        | zero => exact ⟨k, t, rfl, hk⟩
        | succ m => obtain ⟨y, u, a, b⟩ := h2 m (by omega); exact ⟨y, u, by simpa using a, b⟩
      · have hb : (k == x) = false := by simpa using hk
        rw [List.eraseIdx_cons_succ, List.erase_cons, hb]
        exact .cons k t h3

theorem ints_mem {us : List Value} {ys : List Int} (hi : IntsAre us ys) : ∀ v ∈ us, ∃ y t, v = .int y t ∧ y ∈ ys := by
  induction hi with
  | nil => intro v hv; cases hv
  | cons k t r ih =>
    intro v hv
    rcases List.mem_cons.mp hv with rfl | hv
    · exact ⟨k, t, rfl, List.mem_cons_self⟩
    · obtain ⟨y, u, a, b⟩ := ih v hv
      exact ⟨y, u, a, List.mem_cons_of_mem _ b⟩

def eqI (x : Int) (v : Value) : Bool := match v with | .int y _ => y == x | _ => false

theorem eqI_gives {us : List Value} {ys : List Int} (hi : IntsAre us ys) (x : Int) (t : Tok) : ∀ y, y ∈ us.toArray → MeetsSeq.EqGives y (.int x t) (eqI x y) := by
  intro y hy
  obtain ⟨z, u, rfl, _⟩ := ints_mem hi y (by simpa using hy)
  exact MeetsSeq.EqGives.int z x u t

section
variable {prog : Program} {w : World} {A : Around} {E : Value → Shared → Prop} {s : Shared} {h₀ : Heap} {L D : Addr} {m : Str → Option Value} {news news' : List (Addr × Obj)} {n : Nat} {us : List Value} {ys : List Int} {x : Int} {t : Tok} {Q : Value → Shared → Prop}

theorem remove_hit (nw : List Value → List (Addr × Obj)) (F : Fr h₀ L s.heap m) (N : News h₀ L s.heap news) (U : ∀ us', Upd D (listOf us.toArray n) (listOf us'.toArray (n + 1)) news (nw us')) (hi : IntsAre us ys) (hx : x ∈ ys) (hz : us.length ≤ sizeLine)
    (h : ∀ us' h', IntsAre us' (ys.erase x) → Fr h₀ L h' m → News h₀ L h' (nw us') → Q .none { s with heap := h' }) :
    wpAny (model prog w) A (call (.builtin "list.remove") [.ref D, .int x t]) Q E s := by
  obtain ⟨j, t', h1, h2, h3⟩ := ints_erase hi hx
  obtain ⟨pre, post, e, e', a, b⟩ := (U (us.eraseIdx j)).split
  subst e
  have D' := N (D, listOf us.toArray n) (by simp)
  have hl := D'.1
  have hj : j < us.length := (List.getElem?_eq_some_iff.mp h1).1
  have hj' : j < us.toArray.size := by simpa using hj
  have e1 : us[j] = .int x t' := (List.getElem?_eq_some_iff.mp h1).2
  refine call_meets PySem.F.slot_list_remove ⟨_, hl, rfl⟩ PySem.F.entry_list_remove (PySem.F.args_list_remove_2 _ _) (MeetsSeq.list_remove D us.toArray n (.int x t) (eqI x) (eqI_gives hi x t) j hj' ?_ ?_ (by simpa using hz)) ⟨hl, ?_⟩
  · simp [e1, eqI]
  · intro mm hm' hlt
    obtain ⟨y, u, a, b⟩ := h2 mm hlt
    have e2 := (List.getElem?_eq_some_iff.mp a).2
    simp [e2, eqI, b]
  · have he : (us.toArray.eraseIdxIfInBounds j) = (us.eraseIdx j).toArray := by
      unfold Array.eraseIdxIfInBounds
      rw [dif_pos hj']
      apply Array.toList_inj.mp
      rw [Array.toList_eraseIdx]
    have hs : (us.eraseIdx j).toArray.size ≠ us.toArray.size := by
      simp only [List.size_toArray, List.length_eraseIdx, hj, if_true]; omega
    have N' := kl_turn (fun xs => xs.eraseIdxIfInBounds j) N a b he hs
    rw [← e'] at N'
    exact h (us.eraseIdx j) _ h3 (F.change (Heap.SameBut.update ..) D'.2.1 D'.2.2) N'
theorem remove_miss (N : News h₀ L s.heap news) (hm : (D, listOf us.toArray n) ∈ news) (hi : IntsAre us ys) (hx : x ∉ ys) (hh : A.handled = none)
    (h : ∀ h' tk e, Heap.NewExc s.heap h' e "ValueError" → E (.ref e) { s with heap := h', toks := tk }) :
    wpAny (model prog w) A (call (.builtin "list.remove") [.ref D, .int x t]) Q E s := by
  have hl := (N _ hm).1
  refine call_meets PySem.F.slot_list_remove ⟨_, hl, rfl⟩ PySem.F.entry_list_remove (PySem.F.args_list_remove_2 _ _) (MeetsSeq.list_remove_none D us.toArray n (.int x t) (eqI x) (eqI_gives hi x t) ?_) ⟨hl, hh, h⟩
  intro mm hmm
  obtain ⟨y, u, a, b⟩ := ints_mem hi us[mm] (List.getElem_mem _)
  have : us.toArray[mm] = us[mm] := by simp
  rw [this, a]
  have : y ≠ x := fun e => hx (e ▸ b)
  simp [eqI, this]
end
end Mine
end

section
theorem Mine.offDzU : True := by
  w_top off
  trivial
open PySem PySem.W PyProof.Rows PySem.Calls
set_option Elab.async false
namespace Mine

def uStep (x : Int) (p : List Int × List Int) : List Int × List Int := if x ∈ p.1 then (p.1.erase x, p.2) else (p.1, p.2 ++ [x])
def uldF (xs ys zs : List Int) : List Int × List Int := xs.foldr uStep (ys, zs)

structure USt where
  vs : List Value
  us : List Value
  ws : List Value
  xs : List Int
  ys : List Int
  zs : List Int
  n1 : Nat
  n2 : Nat
  n3 : Nat
  sl : Array (Option Value)

set_option maxRecDepth 100000 in
set_option maxHeartbeats 8000000 in
theorem uld_call {w : World} {h₀ : Heap} {L al : Addr} {m : Str → Option Value} {cn : Str} {cs : Scope} {ccd : Value} {s s₀ : Shared} {mg mb : Str → Option Value} {E : Value → Shared → Prop}
  {a b : Addr} {xs ys : List Int} {vs us : List Value} {n1 n2 : Nat} {Q : Value → Shared → Prop}
  (F : Fr h₀ L s.heap m) (X₀ : (hd.heap_39 w.params).In h₀) (T : Top hd.view_39 (looseW hd.view_39 []) (ExcName.means s₀.heap) mg mb h₀) (hck : cs.kind = .function)
  (N : News h₀ L s.heap [(a, listOf vs.toArray n1), (b, listOf us.toArray n2)]) (hab : a ≠ b) (hx : IntsAre vs xs) (hy : IntsAre us ys) (hlx : xs.length ≤ 1000) (hly : ys.length ≤ 1000)
  (hQ : ∀ h' tk d c us' ws n1' n2' n3', Fr h₀ L h' m → News h₀ L h' [(d, { cls := .type "tuple", data := .seq #[.ref c, .ref b] }), (c, listOf ws.toArray n3'), (a, listOf #[] n1'), (b, listOf us'.toArray n2')] →
    IntsAre us' (uldF xs ys []).1 → IntsAre ws (uldF xs ys []).2 → a < c → b < c → L < c → c < d → s.heap.get? c = none → s.heap.get? d = none →
    (∀ q o, s.heap.get? q = some o → q ≠ L → q ≠ a → q ≠ b → h'.get? q = some o) → Q (.ref d) { s with heap := h', toks := tk }) :
  wpAny (model PySem.Challenge.rw_dz0121_01.row.prog w) (callerA.deeper (envOf cn cs L al ccd)) (call (.ref 28) [.ref a, .ref b]) Q E s := by
  revert X₀; k_fill; intro X₀
  refine wpAny_call ?_
  refine codeF (cn := cn) (cs := cs) (ccd := ccd) (a := al) F X₀ N T (by k_is) (by k_is) (by k_room) (by exact BindsTo.of_eq rfl) (locs rfl) ?_ hck
  intro g oL' h' X' T' tiC' tiF' tiE' F' N' hg'
  dsimp only at F'
  replace F' := fr2 (x1 := "expected") (v1 := .ref a) (x2 := "actual") (v2 := .ref b) F'
  replace tiE' := TLgL.allNe_of tiE'
  simp only [TLg.AllNe, and_true] at tiE'
  simp only [List.nil_append, List.cons_append] at N'
  have hsz : s.heap.objs.size = s.heap.objs.size := rfl
  generalize hL' : s.heap.objs.size = L' at *
  clear T X₀ hsz
  refine wpAny_noRaise ?_
  repeat' (first | (fail_if_success (with_reducible show wpAny _ _ (exec (Stmt.While _ _ _ _) _) _ _ _)); first | walk1)
  rename_i c' _ lc _ FF NN
  refine ksw_while (σ := USt) (fun z => [(c', listOf z.ws.toArray z.n3), (a, listOf z.vs.toArray z.n1), (b, listOf z.us.toArray z.n2), (L, { oL' with slots := z.sl })])
    (fun z => [("missing", .ref c'), ("actual", .ref b), ("expected", .ref a)])
    (fun z => IntsAre z.vs z.xs ∧ IntsAre z.us z.ys ∧ IntsAre z.ws z.zs) ["item"] (fun z => uldF z.xs z.ys z.zs = uldF xs ys [] ∧ z.xs.length ≤ 1000 ∧ z.ys.length ≤ 1000 ∧ z.zs.length + z.xs.length ≤ 1000) (fun z => z.xs.length)
    { vs := vs, us := us, ws := [], xs := xs, ys := ys, zs := [], n1 := n1, n2 := n2, n3 := 0, sl := oL'.slots } FF NN ⟨hx, hy, .nil⟩ ?hk ⟨rfl, hlx, hly, by simpa using hlx⟩ ?turn PassesOwn.never
  case hk =>
    intro p hp
    simp only [List.mem_cons, List.not_mem_nil, or_false] at hp
    rcases hp with rfl | rfl | rfl <;> rfl
  intro z u h tk' hf hp F1 N1
  obtain ⟨f1, f2, f3⟩ := hf
  obtain ⟨p1, p2, p3, p4⟩ := hp
  have lv := f1.length
  have lu := f2.length
  have lw := f3.length
  replace hab := neN hab
  repeat' (first | (fail_if_success (with_reducible show wpAny _ _ (call (Value.builtin "list.pop") _) _ _ _)); first | walk1)
  · rename_i hne
    show wpAny _ _ (call (Value.builtin "list.pop") [Value.ref a]) _ _ _
    refine kpa_pop F1 N1 (by k_upd) f1 (by omega) (by rw [sizeLine_eq]; omega) ?_
    intro h2 t2 F2 N2 hI2
    clear F1 N1
    repeat' (first | (fail_if_success (with_reducible show wpAny _ _ (call (Value.builtin "list.remove") _) _ _ _)); first | walk1 | (dsimp only; walk1))
    rename_i _ F3 N3
    have hxl : z.xs = z.xs.dropLast ++ [z.xs.getLastD 0] := by
      have hne' : z.xs ≠ [] := by intro e; rw [e] at hne; exact absurd hne (Nat.lt_irrefl _)
      rw [List.getLastD_eq_getLast?, List.getLast?_eq_some_getLast hne']
      exact (List.dropLast_concat_getLast hne').symm
    generalize hxx : z.xs.getLastD 0 = x at *
    have hstep : uldF z.xs.dropLast (uStep x (z.ys, z.zs)).1 (uStep x (z.ys, z.zs)).2 = uldF xs ys [] := by
      rw [← p1, hxl]
      simp [uldF]
    have hlen : z.xs.dropLast.length + 1 = z.xs.length := by rw [List.length_dropLast]; omega
    by_cases hmem : x ∈ z.ys
    · refine remove_hit (fun us' => [(c', listOf z.ws.toArray z.n3), (a, listOf z.vs.dropLast.toArray (z.n1 + 1)), (b, listOf us'.toArray (z.n2 + 1)), (L, { oL' with slots := z.sl })]) F3 N3 (by intro us'; k_upd) f2 hmem (by rw [sizeLine_eq]; omega) ?_
      intro us' h4 hi4 F4 N4
      repeat' (first | walk1 | (dsimp only; walk1))
      refine ksw_end { vs := z.vs.dropLast, us := us', ws := z.ws, xs := z.xs.dropLast, ys := z.ys.erase x, zs := z.zs, n1 := z.n1 + 1, n2 := z.n2 + 1, n3 := z.n3, sl := z.sl } F4 N4 (fun p hp => hp) ⟨hI2, hi4, f3⟩ ?_ ?_ ⟨?_, ?_, ?_, ?_⟩ ?_
      · intro p hp
        simp only [List.mem_cons, List.not_mem_nil, or_false] at hp
        rcases hp with rfl | rfl | rfl <;> rfl
      · intro y hy hst
        have h1 : y ≠ "item" := by
          intro e; subst e; exact absurd hst (by decide)
        simp only [if_neg h1]
        rw [kstB_of_ne (fun p hp => hy p hp)]
        simp only [hst, Bool.false_eq_true, if_false]
      · simpa [uStep, hmem] using hstep
      · show z.xs.dropLast.length ≤ 1000; omega
      · show (z.ys.erase x).length ≤ 1000
        have := List.length_erase_of_mem hmem
        omega
      · show z.zs.length + z.xs.dropLast.length ≤ 1000; omega
      · show z.xs.dropLast.length < z.xs.length; omega
    · refine remove_miss N3 (by k_mem) f2 hmem (by rfl) ?_
      intro h4 tk4 e4 hx4
      repeat' (first | walk1 | (dsimp only; walk1))
      rename_i slx _ _ _ _ _ F4 N4
      refine ksw_end { vs := z.vs.dropLast, us := z.us, ws := z.ws ++ [.int x t2], xs := z.xs.dropLast, ys := z.ys, zs := z.zs ++ [x], n1 := z.n1 + 1, n2 := z.n2, n3 := z.n3 + 1, sl := slx } F4 N4 ?_ ⟨hI2, f2, f3.append (.cons _ _ .nil)⟩ ?_ ?_ ⟨?_, ?_, ?_, ?_⟩ ?_
      · intro p hp
        simpa using hp
      · intro p hp
        simp only [List.mem_cons, List.not_mem_nil, or_false] at hp
        rcases hp with rfl | rfl | rfl <;> rfl
      · intro y hy hst
        have h1 : y ≠ "item" := by
          intro e; subst e; exact absurd hst (by decide)
        simp only [if_neg h1]
        rw [kstB_of_ne (fun p hp => hy p hp)]
        simp only [hst, Bool.false_eq_true, if_false]
      · simpa [uStep, hmem] using hstep
      · show z.xs.dropLast.length ≤ 1000; omega
      · exact p3
      · show (z.zs ++ [x]).length + z.xs.dropLast.length ≤ 1000
        rw [List.length_append, List.length_singleton]; omega
      · show z.xs.dropLast.length < z.xs.length; omega
  · rename_i hne d' h2 F2 N2 ld
    have e0 : z.xs = [] := List.eq_nil_of_length_eq_zero (by omega)
    have e1 : z.vs = [] := List.eq_nil_of_length_eq_zero (by omega)
    rw [e0] at p1
    rw [e1] at N2
    have p1' : (z.ys, z.zs) = uldF xs ys [] := p1
    refine leaveF (new := [(d', { cls := .type "tuple", data := .seq #[.ref c', .ref b] }), (c', listOf z.ws.toArray z.n3), (a, listOf [].toArray z.n1), (b, listOf z.us.toArray z.n2)]) F N tiC' hg' F2 N2 (by tlg_ne) ?_
    intro F3 N3 hk3
    have fc : s.heap.get? c' = none := freshF hg' (N2 _ (.tail _ (.head _))).2.2 (neN (by omega)) (all2 (neN (by omega)) (neN (by omega)))
    have fd : s.heap.get? d' = none := freshF hg' (N2 _ (.head _)).2.2 (neN (by omega)) (all2 (neN (by omega)) (neN (by omega)))
    exact hQ h2 tk d' c' z.us z.ws z.n1 z.n2 z.n3 F3 N3 (by rw [← p1']; exact f2) (by rw [← p1']; exact f3) lc.1 lc.2.1 lc.2.2 ld.1 fc fd fun q o hq q1 q2 q3 => hk3 q o hq q1 (all2 q2 q3)
end Mine
end

section
theorem Mine.offDzOn : True := by
  w_top off
  trivial
open PySem PySem.W PyProof.Rows PySem.Calls
set_option Elab.async false
namespace Mine

/-- a ladder's list in the heap -/
abbrev lad (b st ct o : Int) (t1 t2 t3 t4 : Tok) (n : Nat) : Obj := listOf #[.int b t1, .int st t2, .int ct t3, .int o t4] n
abbrev onB (b st ct x : Int) : Bool := decide (b ≤ x) && (decide (Int.fmod (x - b) st = 0) && decide (Int.fdiv (x - b) st < ct))

set_option maxRecDepth 100000 in
set_option maxHeartbeats 8000000 in
theorem on_call {w : World} {A : Around} {s s₀ : Shared} {mg mb : Str → Option Value} {E : Value → Shared → Prop} {Q : Value → Shared → Prop}
  {c : Addr} {b st ct o x : Int} {t1 t2 t3 t4 tx : Tok} {n : Nat}
  (X : (hd.heap_39 w.params).In s.heap) (T : Top hd.view_39 (looseW hd.view_39 []) (ExcName.means s₀.heap) mg mb s.heap) (hA : A.depth ≤ 700) (hh : A.handled = none)
  (hl : s.heap.get? c = some (lad b st ct o t1 t2 t3 t4 n)) (hst : 0 < st) (hst2 : st ≤ 1000)
  (hQ : ∀ h' tk, (∀ q o, s.heap.get? q = some o → h'.get? q = some o) → Q (.bool (onB b st ct x)) { s with heap := h', toks := tk }) :
  wpAny (model PySem.Challenge.rw_dz0121_01.row.prog w) A (call (.ref 57) [.ref c, .int x tx]) Q E s := by
  revert X; k_fill; intro X
  refine wpAny_call ?_
  refine codeR X T (by k_is) (by k_is) (by show A.depth < 1000; omega) (by exact BindsTo.of_eq rfl) (locs rfl) ?_
  intro h1 F1
  dsimp only at F1
  replace F1 := fr2 (x1 := "ladder") (v1 := .ref c) (x2 := "x") (v2 := .int x tx) F1
  have hL : s.heap.IsList c #[.int b t1, .int st t2, .int ct t3, .int o t4] := ⟨_, hl, rfl, _, rfl⟩
  have N1 : News s.heap s.heap.objs.size h1 [] := News.nil
  generalize hL' : s.heap.objs.size = L' at *
  refine wpAny_noRaise ?_
  repeat' (first | (fail_if_success (with_reducible show wpAny _ _ (assign (Expr.Tuple _ _ _) _ _) _ _ _)); first | walk1)
  refine kun_list F1 N1 (hL.at fun o e => F1.keep _ o e) hh rfl rfl ?_
  intro h2 F2 N2
  clear F1 N1
  k_steps
  · rename_i F3 N3 c1 c2
    have e : decide (Int.fdiv (x - b) st < ct) = onB b st ct x := by simp [onB, c1, c2]
    show Q (.bool (decide (Int.fdiv (x - b) st < ct))) _
    rw [e]
    exact hQ _ _ F3.keep
  · rename_i F3 N3 c1 c2
    have e : (Int.fmod (x - b) st == 0) = onB b st ct x := by simp [onB, c2]
    show Q (.bool (Int.fmod (x - b) st == 0)) _
    rw [e]
    exact hQ _ _ F3.keep
  · rename_i F3 N3 c1
    have e : decide (b ≤ x) = onB b st ct x := by simp [onB, c1]
    show Q (.bool (decide (b ≤ x))) _
    rw [e]
    exact hQ _ _ F3.keep
end Mine
end

section
theorem Mine.offDzComp : True := by
  w_top off
  trivial
open PySem PySem.W PyProof.Rows PySem.Calls
set_option Elab.async false
namespace Mine
set_option maxRecDepth 100000

abbrev comp2 (elt i1 i2 : Expr) (x1 x2 : Str) (p1 p2 : Pos) (scope : Scope) (pos : Pos) : Expr := .ListComp elt [⟨.Name x1 p1, i1, [], 0⟩, ⟨.Name x2 p2, i2, [], 0⟩] scope pos

section
variable {prog : Program} {w : World} {A : Around} {R : Result → Shared → Prop} {s : Shared} {elt i1 i2 : Expr} {x1 x2 : Str} {p1 p2 : Pos} {scope : Scope} {pos : Pos} {it acc : Value} {env : Env}

theorem compTurn_0 : compTurn (comp2 elt i1 i2 x1 x2 p1 p2 scope pos) 0 it acc env = (standAt i1.pos >>= fun _ => pyNext it >>= fun r => match r with
      | none => pure (.done .next)
      | some v => letOwnedTupleGo (.Name x1 p1) it v >>= fun _ => assign (.Name x1 p1) env v >>= fun _ =>
        eval i2 env >>= fun x => standAt i2.pos >>= fun _ => foldedSetIterable i2 env x >>= fun x => holding [x] (pyIter x) >>= fun it' => runOwn (.compStart (comp2 elt i1 i2 x1 x2 p1 p2 scope pos) 1 it' acc env) env >>= fun _ =>
          again (.compLoop (comp2 elt i1 i2 x1 x2 p1 p2 scope pos) 0 it acc env)) := by rfl
theorem compTurn_1 : compTurn (comp2 elt i1 i2 x1 x2 p1 p2 scope pos) 1 it acc env = (standAt i2.pos >>= fun _ => pyNext it >>= fun r => match r with
      | none => pure (.done .next)
      | some v => letOwnedTupleGo (.Name x2 p2) it v >>= fun _ => assign (.Name x2 p2) env v >>= fun _ =>
        (eval elt env >>= fun x => call (.builtin "list.append") [acc, x] >>= fun _ => pure ()) >>= fun _ =>
          again (.compLoop (comp2 elt i1 i2 x1 x2 p1 p2 scope pos) 1 it acc env)) := by rfl

theorem codeAny_compLoop_1 (I : Nat → Shared → Prop)
    (turn : ∀ n s, I n s → wpAny (model prog w) A (pyNext it) (fun r s₁ => match r with
      | none => R (.ok .next) s₁
      | some v => wpAny (model prog w) A (assign (.Name x2 p2) env v) (fun _ s₂ => wpAny (model prog w) A (eval elt env) (fun x s₃ =>
          wpAny (model prog w) A (call (.builtin "list.append") [acc, x]) (fun _ s₄ => ∃ m, m < n ∧ I m s₄) (fun _ _ => False) s₃)
          (fun _ _ => False) s₂) (fun _ _ => False) s₁) (fun _ _ => False) s)
    (n : Nat) (h : I n s) :
    codeAny (model prog w) A (.compLoop (comp2 elt i1 i2 x1 x2 p1 p2 scope pos) 1 it acc env) R s := by
  refine codeAny_loop rfl I (fun n s hI => ?_) n h
  show wpAny _ _ ((compTurn (comp2 elt i1 i2 x1 x2 p1 p2 scope pos) 1 it acc env).onRaise (fun x => do noteFrame x env; theTreesLotGoes x)) _ _ s
  refine wpAny_noted ?_
  rw [compTurn_1]
  refine wpAny_bind (wpAny_standAt (wpAny_bind (wpAny_mono (turn n s hI) (fun r s₁ h₁ => ?_) fun _ _ h' => h'.elim)))
  cases r with
  | none => exact wpAny_pure h₁
  | some v =>
    refine wpAny_bind (wpAny_pure ?_)
    exact wpAny_bind (wpAny_mono h₁ (fun _ s₂ h₂ => wpAny_bind (wpAny_bind (wpAny_mono h₂ (fun x s₃ h₃ => wpAny_bind (wpAny_mono h₃
      (fun _ s₄ h₄ => wpAny_pure (wpAny_pure ⟨rfl, h₄⟩)) fun _ _ h' => h'.elim)) fun _ _ h' => h'.elim))) fun _ _ h' => h'.elim)

theorem codeAny_compLoop_0 (I : Nat → Shared → Prop) (hs : ∀ x, foldedSetIterable i2 env x = pure x)
    (turn : ∀ n s, I n s → wpAny (model prog w) A (pyNext it) (fun r s₁ => match r with
      | none => R (.ok .next) s₁
      | some v => wpAny (model prog w) A (assign (.Name x1 p1) env v) (fun _ s₂ => wpAny (model prog w) A (eval i2 env) (fun x s₃ =>
          wpAny (model prog w) A (pyIter x) (fun it' s₄ => codeAny (model prog w) A (.compStart (comp2 elt i1 i2 x1 x2 p1 p2 scope pos) 1 it' acc env) (fun r s₅ => match r with | .ok _ => ∃ m, m < n ∧ I m s₅ | .error _ => False) s₄) (fun _ _ => False) s₃)
          (fun _ _ => False) s₂) (fun _ _ => False) s₁) (fun _ _ => False) s)
    (n : Nat) (h : I n s) :
    codeAny (model prog w) A (.compLoop (comp2 elt i1 i2 x1 x2 p1 p2 scope pos) 0 it acc env) R s := by
  refine codeAny_loop rfl I (fun n s hI => ?_) n h
  show wpAny _ _ ((compTurn (comp2 elt i1 i2 x1 x2 p1 p2 scope pos) 0 it acc env).onRaise (fun x => do noteFrame x env; theTreesLotGoes x)) _ _ s
  refine wpAny_noted ?_
  rw [compTurn_0]
  refine wpAny_bind (wpAny_standAt (wpAny_bind (wpAny_mono (turn n s hI) (fun r s₁ h₁ => ?_) fun _ _ h' => h'.elim)))
  cases r with
  | none => exact wpAny_pure h₁
  | some v =>
    refine wpAny_bind (wpAny_pure ?_)
    refine wpAny_bind (wpAny_mono h₁ (fun _ s₂ h₂ => wpAny_bind (wpAny_mono h₂ (fun x s₃ h₃ => wpAny_bind (wpAny_standAt (wpAny_bind (wpAny_of_eq (hs x) (wpAny_bind (wpAny_holding (wpAny_mono h₃ (fun it' s₄ h₄ => ?_) fun _ _ h' => h'.elim))))))) fun _ _ h' => h'.elim)) fun _ _ h' => h'.elim)
    refine wpAny_bind (wpAny_runOwn (codeAny_mono (by rw [Around.mark_none]; exact h₄) fun r s₅ h₅ => ?_))
    cases r with
    | ok f => exact wpAny_pure ⟨rfl, h₅⟩
    | error e => exact h₅.elim

theorem codeAny_compStart_1
    (h0 : codeAny (model prog w) A (.compLoop (comp2 elt i1 i2 x1 x2 p1 p2 scope pos) 1 it acc env) R s)
    (h : wpAny (model prog w) A (pyIter it) (fun it' s' => codeAny (model prog w) A (.compLoop (comp2 elt i1 i2 x1 x2 p1 p2 scope pos) 1 it' acc env) R s') (fun _ _ => False) s) :
    codeAny (model prog w) A (.compStart (comp2 elt i1 i2 x1 x2 p1 p2 scope pos) 1 it acc env) R s := by
  refine codeAny_of_tree ?_
  show wpAny _ _ ((compStart (comp2 elt i1 i2 x1 x2 p1 p2 scope pos) 1 it acc env).onRaise (fun x => do noteFrame x env; standAt theWindowsPlace)) _ _ s
  refine wpAny_notedAt ?_
  unfold compStart
  show wpAny _ _ (ask >>= _) _ _ s
  refine wpAny_bind (wpAny_askSetting (wpAny_ite ?_))
  split
  · first
      | exact wpAny_bind (wpAny_pure (wpAny_pure (And.intro rfl h0)))
      | exact wpAny_pure (And.intro rfl h0)
  · first
      | exact wpAny_bind (wpAny_rule (wpAny_bind (wpAny_standAt (wpAny_bind (wpAny_mono h (fun it' s' h' => wpAny_pure (And.intro rfl h')) fun _ _ x => x.elim)))))
      | (refine wpAny_bind (wpAny_rule ?_); show wpAny _ _ (standAt i2.pos >>= _) _ _ s; exact wpAny_bind (wpAny_standAt (wpAny_bind (wpAny_mono h (fun it' s' h' => wpAny_pure (And.intro rfl h')) fun _ _ x => x.elim))))

def flatOf (f : Int → Int) (n1 n2 : Nat) : List Int := (List.range n1).flatMap fun (k : Nat) => List.replicate n2 (f (k : Int))
theorem flatOf_succ (f : Int → Int) (n1 n2 : Nat) : flatOf f (n1 + 1) n2 = flatOf f n1 n2 ++ List.replicate n2 (f n1) := by
  simp [flatOf, List.range_succ]
theorem flatOf_length (f : Int → Int) (n1 n2 : Nat) : (flatOf f n1 n2).length = n1 * n2 := by
  induction n1 with
  | zero => simp [flatOf]
  | succ n ih => rw [flatOf_succ, List.length_append, ih, List.length_replicate, Nat.succ_mul]

abbrev riter (x left : Int) : Obj := { cls := .type "range_iterator", dict := none, data := .fields #[rawInt x, rawInt left, rawInt 1], slots := #[] }

theorem small01 {n : Nat} (h : n ≤ 1000000) : Builtin.Range.small 0 n 1 = true := by
  have e : Builtin.Range.rangeSize 0 n 1 = n := by
    unfold Builtin.Range.rangeSize
    simp
    omega
  unfold Builtin.Range.small
  rw [e]
  unfold Builtin.Range.rangeFitsLong
  simp
  omega

theorem comp_in {C D I1 I2 : Addr} {cl : List (Str × Addr)} {n1 n2 : Nat} (f : Int → Int) {R' : Result → Shared → Prop} {base : Heap} {i : Nat} {pre : List Int} {s₀ : Shared}
    (hh : A.handled = none) (hkind : scope.kind = .function) (hx2 : scope.names.lookup x2 = some .local) (hx12 : x1 ≠ x2) (hi : i < n1) (hpre : pre.length + n2 ≤ 1000000)
    (hDI1 : D ≠ I1) (hDI2 : D ≠ I2) (hI12 : I1 ≠ I2)
    (helt : ∀ h tk m k t Q' E', h.Ns C m → m x1 = some (.int k t) → (∀ b o, base.get? b = some o → h.get? b = some o) → 0 ≤ k → k < n1 → (∀ tk' t', Q' (.int (f k) t') { s₀ with heap := h, toks := tk' }) → wpAny (model prog w) A (eval elt (compEnvC scope cl C env)) Q' E' { s₀ with heap := h, toks := tk })
    (hR : ∀ h tk m vs n, Fr base C h m → News base C h [(D, listOf vs.toArray n), (I1, riter (i + 1) (n1 - (i + 1)))] → IntsAre vs (pre ++ List.replicate n2 (f i)) → R' (.ok .next) { s₀ with heap := h, toks := tk })
    {h : Heap} {tk : Nat} {m : Str → Option Value} {vs : List Value} {n : Nat} {t : Tok} (F : Fr base C h m) (hm : m x1 = some (.int i t)) (N : News base C h [(D, listOf vs.toArray n), (I1, riter (i + 1) (n1 - (i + 1))), (I2, riter 0 n2)]) (hv : IntsAre vs pre) :
    codeAny (model prog w) A (.compLoop (comp2 elt i1 i2 x1 x2 p1 p2 scope pos) 1 (.ref I2) (.ref D) (compEnvC scope cl C env)) R' { s₀ with heap := h, toks := tk } := by
  refine codeAny_compLoop_1 (fun k s' => ∃ j h tk m vs n, k + j = n2 ∧ s' = { s₀ with heap := h, toks := tk } ∧ Fr base C h m ∧ m x1 = some (.int i t) ∧
    News base C h [(D, listOf vs.toArray n), (I1, riter (i + 1) (n1 - (i + 1))), (I2, riter j ((n2 : Int) - (j : Nat)))] ∧ IntsAre vs (pre ++ List.replicate j (f i))) ?_ n2 ⟨0, h, tk, m, vs, n, rfl, rfl, F, hm, by simpa using N, by simpa using hv⟩
  rintro k s' ⟨j, h, tk, m, vs, n, hk, rfl, F, hm, N, hv⟩
  have nD := N (D, listOf vs.toArray n) (by simp)
  have n1' := N (I1, riter (i + 1) (n1 - (i + 1))) (by simp)
  have n2' := N (I2, riter j ((n2 : Int) - (j : Nat))) (by simp)
  by_cases hj : j < n2
  · refine wpAny_pyNext_range_item (s := { s₀ with heap := h, toks := tk }) n2'.1 (by omega) fun h' hit' hs' => ?_
    have F1 := F.change hs' n2'.2.1 n2'.2.2
    have N1 : News base C h' [(D, listOf vs.toArray n), (I1, riter (i + 1) (n1 - (i + 1))), (I2, riter (j + 1) ((n2 : Int) - (j : Nat) - 1))] := by
      refine News.setAt (own := [(D, listOf vs.toArray n), (I1, riter (i + 1) (n1 - (i + 1)))]) (rest := []) N ?_ (by simp) hs' hit'
      intro p hp
      simp only [List.mem_cons, List.not_mem_nil, or_false] at hp
      rcases hp with rfl | rfl
      · exact hDI2
      · exact hI12
    refine wpAny_assign_Name (wpAny_storeName_local (lookup_relabel_local hx2) F1.ns (fun h2 hn2 hs2 => ?_) (by simp [compEnvC, relabel, hkind]))
    have F2 := F1.set hn2 hs2
    have N2 := N1.set hs2
    refine helt h2 _ _ i t _ _ F2.ns (by simpa [hx12] using hm) F2.keep (by omega) (by omega) fun tk' t' => ?_
    have nD2 := N2 (D, listOf vs.toArray n) (by simp)
    have hlen := hv.length
    refine append_at (s := { s₀ with heap := h2, toks := tk' }) nD2.1 (fun h3 hs3 ho3 => ?_) (by
      rw [sizeLine_eq, List.size_toArray, hlen, List.length_append, List.length_replicate]; omega)
    refine ⟨k - 1, by omega, j + 1, h3, tk', _, vs ++ [.int (f i) t'], n + 1, by omega, rfl, F2.change hs3 nD2.2.1 nD2.2.2, by simpa [hx12] using hm, ?_, ?_⟩
    · have N3 := News.setAt (own := []) N2 (by simp) (by
        intro p hp
        simp only [List.mem_cons, List.not_mem_nil, or_false] at hp
        rcases hp with rfl | rfl
        · exact hDI1.symm
        · exact hDI2.symm) hs3 ho3
      have e : (n2 : Int) - ((j + 1 : Nat) : Int) = (n2 : Int) - (j : Nat) - 1 := by push_cast; omega
      rw [e]
      simpa using N3
    · rw [List.replicate_succ', ← List.append_assoc]
      exact hv.append (.cons _ _ .nil)
  · have ej : j = n2 := by omega
    subst ej
    refine wpAny_pyNext_range_end (s := { s₀ with heap := h, toks := tk }) hh n2'.1 (by omega) fun h' he' => ?_
    have kp : ∀ b o, b ≠ I2 → h.get? b = some o → h'.get? b = some o := fun b o hb e => he' b o hb e
    refine hR h' tk m vs n ⟨F.ns.extBut he' (Ne.symm n2'.2.1), fun b o e => kp b o (fun q => by rw [q, n2'.2.2] at e; cases e) (F.keep b o e), F.above⟩ ?_ hv
    intro p hp
    simp only [List.mem_cons, List.not_mem_nil, or_false] at hp
    rcases hp with rfl | rfl
    · exact ⟨kp _ _ hDI2 nD.1, nD.2⟩
    · exact ⟨kp _ _ hI12 n1'.1, n1'.2⟩

theorem listComp2 {E : Value → Shared → Prop} {Q : Value → Shared → Prop} {cl : List (Str × Addr)} {n1 n2 : Nat} (f : Int → Int) (hh : A.handled = none)
    (hclos : closureFor scope env = pure cl) (hcell : ∀ y ∈ scope.names, y.2 ≠ .cell) (hkind : scope.kind = .function)
    (hnames : ∀ y ∈ scope.names, y.2 = .local → scope.names.lookup y.1 = some .local) (hx1 : scope.names.lookup x1 = some .local) (hx2 : scope.names.lookup x2 = some .local) (hx12 : x1 ≠ x2)
    (hs1 : ∀ x, foldedSetIterable i1 env x = pure x) (hs2 : ∀ C x, foldedSetIterable i2 (compEnvC scope cl C env) x = pure x) (hn1 : n1 ≤ 1000) (hn2 : n2 ≤ 1000)
    (hit1 : ∀ (Q' : Value → Shared → Prop) E', (∀ r h' tk t u v, (∀ b o, s.heap.get? b = some o → h'.get? b = some o) → IsRange h' r 0 n1 1 t u v → Q' (.ref r) { s with heap := h', toks := tk }) → wpAny (model prog w) A (eval i1 env) Q' E' s)
    (hit2 : ∀ C h tk m (Q' : Value → Shared → Prop) E', h.Ns C m → (∀ b o, s.heap.get? b = some o → h.get? b = some o) → (∀ r h' tk' t u v, (∀ b o, h.get? b = some o → h'.get? b = some o) → IsRange h' r 0 n2 1 t u v → Q' (.ref r) { s with heap := h', toks := tk' }) →
      wpAny (model prog w) A (eval i2 (compEnvC scope cl C env)) Q' E' { s with heap := h, toks := tk })
    (helt : ∀ C h tk m k t (Q' : Value → Shared → Prop) E', h.Ns C m → m x1 = some (.int k t) → (∀ b o, s.heap.get? b = some o → h.get? b = some o) → 0 ≤ k → k < n1 → (∀ tk' t', Q' (.int (f k) t') { s with heap := h, toks := tk' }) →
      wpAny (model prog w) A (eval elt (compEnvC scope cl C env)) Q' E' { s with heap := h, toks := tk })
    (hQ : ∀ D h' tk vs n, (∀ b o, s.heap.get? b = some o → h'.get? b = some o) → s.heap.get? D = none → h'.get? D = some (listOf vs.toArray n) → IntsAre vs (flatOf f n1 n2) → Q (.ref D) { s with heap := h', toks := tk }) :
    wpAny (model prog w) A (eval (comp2 elt i1 i2 x1 x2 p1 p2 scope pos) env) Q E s := by
  rw [eval_ListComp]
  refine wpAny_comprehension_free (use := none) rfl hs1 hclos hkind hnames (hit1 _ _ fun r h1 tk1 t u v k1 r1 => ?_)
  refine wpAny_pyIter_range (s := { s with heap := h1, toks := tk1 }) r1 (small01 (by omega)) ?_
  have esz : Builtin.Range.rangeSize 0 n1 1 = n1 := by
    unfold Builtin.Range.rangeSize
    simp
    omega
  rw [esz]
  dsimp only
  generalize hI1 : h1.objs.size = I1
  generalize hh2 : h1.push { cls := .type "range_iterator", data := .fields #[rawInt 0, rawInt n1, rawInt 1] } = h2
  refine wpAny_newObj_type ?_
  dsimp only
  generalize hD : h2.objs.size = D
  generalize hh3 : h2.push { cls := .type "list", dict := none, data := .seq ([] : List Value).toArray } = h3
  refine wpAny_newFunctionEnv hcell (by intro y hy; simp at hy) (fun h4 hns4 hsb4 => ?_) hkind
  dsimp only at hns4 hsb4 ⊢
  generalize hC : h3.objs.size = C at hns4 hsb4 ⊢
  have eI1D : D = I1 + 1 := by rw [← hD, ← hI1, ← hh2, Heap.size_push]
  have eDC : C = D + 1 := by rw [← hC, ← hD, ← hh3, Heap.size_push]
  have nn : ∀ x, I1 ≤ x → h1.get? x = none := fun x hx => Heap.get?_none_of_le (by rw [hI1]; exact hx)
  have k2 : ∀ b o, h1.get? b = some o → h2.get? b = some o := fun b o e => hh2 ▸ Heap.get?_push_of_some _ e
  have k3 : ∀ b o, h2.get? b = some o → h3.get? b = some o := fun b o e => hh3 ▸ Heap.get?_push_of_some _ e
  have k4 : ∀ b o, b ≠ C → h3.get? b = some o → h4.get? b = some o := fun b o hb e => hsb4.extBut b o hb (Heap.get?_push_of_some _ e)
  have gI : h2.get? I1 = some (riter 0 n1) := by rw [← hh2, ← hI1]; exact Heap.get?_push_size _ rfl
  have gD : h3.get? D = some (listOf #[] 0) := by rw [← hh3, ← hD]; exact Heap.get?_push_size _ rfl
  have F4 : Fr h1 C h4 (fun x => ([] : List (Str × Value)).reverse.lookup x) := ⟨hns4, fun b o e => k4 b o (fun q => by
      have := Heap.lt_size e
      rw [hI1] at this
      exact absurd this (by rw [q, eDC, eI1D]; exact Nat.not_lt.mpr (by omega))) (k3 b o (k2 b o e)), by rw [hI1, eDC, eI1D]; omega⟩
  have N4 : News h1 C h4 [(D, listOf ([] : List Value).toArray 0), (I1, riter ((0 : Nat) : Int) ((n1 : Int) - (0 : Nat)))] := by
    intro p hp
    simp only [List.mem_cons, List.not_mem_nil, or_false] at hp
    rcases hp with rfl | rfl
    · exact ⟨k4 _ _ (by rw [eDC]; exact Nat.ne_of_lt (Nat.lt_succ_self _)) gD, by rw [eDC]; exact Nat.ne_of_lt (Nat.lt_succ_self _), nn _ (by rw [eI1D]; exact Nat.le_succ _)⟩
    · refine ⟨?_, by rw [eDC, eI1D]; exact Nat.ne_of_lt (by omega), nn _ (Nat.le_refl _)⟩
      have := k4 _ _ (by rw [eDC, eI1D]; exact Nat.ne_of_lt (by omega)) (k3 _ _ gI)
      simpa using this
  have hDI1 : D ≠ I1 := by rw [eI1D]; exact Nat.ne_of_gt (Nat.lt_succ_self _)
  have hDC : D ≠ C := by rw [eDC]; exact Nat.ne_of_lt (Nat.lt_succ_self _)
  have hIC : I1 ≠ C := by rw [eDC, eI1D]; exact Nat.ne_of_lt (by omega)
  have fin : ∀ h tk m vs n, Fr h1 C h m → News h1 C h [(D, listOf vs.toArray n)] → IntsAre vs (flatOf f n1 n2) → compPost (model prog w) A E none Q (.ref D) C (.ok .next) { s with heap := h, toks := tk } := by
    intro h tk m vs n F N hv
    refine ⟨m, F.ns, fun h' hs' => ?_⟩
    have nD := N _ (.head _)
    exact hQ D h' tk vs n (fun b o e => hs'.extBut b o (fun q => by
        have e2 := F.above
        have e1 := Heap.lt_size (k1 b o e)
        exact absurd (Nat.lt_of_lt_of_le e1 e2) (q ▸ Nat.lt_irrefl _)) (F.keep b o (k1 b o e))) (by
        cases hq : s.heap.get? D with
        | none => rfl
        | some o => have := k1 _ _ hq; rw [nn _ (by rw [eI1D]; exact Nat.le_succ _)] at this; cases this) (hs'.extBut D _ hDC nD.1) hv
  have loop : ∀ s₃ : Shared, s₃ = { s with heap := h4, toks := tk1 + ([] : List (Str × Value)).length } →
      codeAny (model prog w) A (.compLoop (comp2 elt i1 i2 x1 x2 p1 p2 scope pos) 0 (.ref I1) (.ref D) (compEnvC scope cl C env)) (compPost (model prog w) A E none Q (.ref D) C) s₃ := by
    rintro s₃ rfl
    refine codeAny_compLoop_0 (fun k s' => ∃ i : Nat, ∃ h tk m vs n, k + i = n1 + 1 ∧ i ≤ n1 ∧ s' = { s with heap := h, toks := tk } ∧ Fr h1 C h m ∧
      News h1 C h [(D, listOf vs.toArray n), (I1, riter i ((n1 : Int) - (i : Nat)))] ∧ IntsAre vs (flatOf f i n2)) (hs2 C) ?_ (n1 + 1) ⟨0, h4, _, _, [], 0, rfl, Nat.zero_le _, rfl, F4, N4, .nil⟩
    rintro k s' ⟨i, h, tk, m, vs, n, hk, hi, rfl, F, N, hv⟩
    have nD := N (D, listOf vs.toArray n) (.head _)
    have nI := N (I1, riter i ((n1 : Int) - (i : Nat))) (.tail _ (.head _))
    by_cases hj : i < n1
    · refine wpAny_pyNext_range_item (s := { s with heap := h, toks := tk }) nI.1 (by omega) fun h' hit' hs' => ?_
      have F1 := F.change hs' nI.2.1 nI.2.2
      have N1 : News h1 C h' [(D, listOf vs.toArray n), (I1, riter (i + 1) ((n1 : Int) - (i : Nat) - 1))] := by
        refine News.setAt (own := [(D, listOf vs.toArray n)]) (rest := []) N ?_ (by simp) hs' hit'
        intro p hp
        simp only [List.mem_cons, List.not_mem_nil, or_false] at hp
        subst hp
        exact hDI1
      have e1 : (n1 : Int) - (i : Nat) - 1 = (n1 : Int) - ((i : Int) + 1) := by omega
      rw [e1] at N1
      refine wpAny_assign_Name (wpAny_storeName_local (lookup_relabel_local hx1) F1.ns (fun h2' hns2 hs2' => ?_) (by simp [compEnvC, relabel, hkind]))
      have F2 := F1.set hns2 hs2'
      have N2 := N1.set hs2'
      refine hit2 C h2' _ _ _ _ F2.ns (fun b o e => F2.keep b o (k1 b o e)) fun r' h5 tk5 t5 u5 v5 k5 r5 => ?_
      refine wpAny_pyIter_range (s := { s with heap := h5, toks := tk5 }) r5 (small01 (by omega)) ?_
      have esz2 : Builtin.Range.rangeSize 0 n2 1 = n2 := by
        unfold Builtin.Range.rangeSize
        simp
        omega
      rw [esz2]
      dsimp only
      have F5 : Fr h1 C h5 (fun x => if x = x1 then some (Value.int i tk) else m x) := ⟨F2.ns.keeps k5, fun b o e => k5 b o (F2.keep b o e), F2.above⟩
      have N5 : News h1 C h5 [(D, listOf vs.toArray n), (I1, riter (i + 1) ((n1 : Int) - ((i : Int) + 1)))] := fun p hp => ⟨k5 _ _ (N2 p hp).1, (N2 p hp).2⟩
      have F6 := F5.push { cls := .type "range_iterator", data := .fields #[rawInt 0, rawInt n2, rawInt 1] }
      have N6 := N5.push F5 { cls := .type "range_iterator", data := .fields #[rawInt 0, rawInt n2, rawInt 1] }
      have hD5 : D ≠ h5.objs.size := Nat.ne_of_lt (Heap.lt_size (N5 _ (.head _)).1)
      have hI5 : I1 ≠ h5.objs.size := Nat.ne_of_lt (Heap.lt_size (N5 _ (.tail _ (.head _))).1)
      have N7 : News h1 C (h5.push { cls := .type "range_iterator", data := .fields #[rawInt 0, rawInt n2, rawInt 1] }) [(D, listOf vs.toArray n), (I1, riter (i + 1) ((n1 : Int) - ((i : Int) + 1))), (h5.objs.size, riter 0 n2)] := by
        intro p hp
        simp only [List.mem_cons, List.not_mem_nil, or_false] at hp
        rcases hp with rfl | rfl | rfl
        · exact N6 _ (.tail _ (.head _))
        · exact N6 _ (.tail _ (.tail _ (.head _)))
        · exact N6 _ (.head _)
      have inner : codeAny (model prog w) A (.compLoop (comp2 elt i1 i2 x1 x2 p1 p2 scope pos) 1 (.ref h5.objs.size) (.ref D) (compEnvC scope cl C env))
          (fun r s₅ => match r with | .ok _ => (∃ m', m' < k ∧ ∃ i : Nat, ∃ h tk m vs n, m' + i = n1 + 1 ∧ i ≤ n1 ∧ s₅ = { s with heap := h, toks := tk } ∧ Fr h1 C h m ∧
            News h1 C h [(D, listOf vs.toArray n), (I1, riter i ((n1 : Int) - (i : Nat)))] ∧ IntsAre vs (flatOf f i n2)) | .error _ => False)
          { s with heap := h5.push { cls := .type "range_iterator", data := .fields #[rawInt 0, rawInt n2, rawInt 1] }, toks := tk5 } := by
        refine comp_in (base := h1) f hh hkind hx2 hx12 hj (by rw [flatOf_length]; have := Nat.mul_le_mul (show i + 1 ≤ 1000 by omega) hn2; rw [Nat.succ_mul] at this; omega) hDI1 hD5 hI5 (fun h tk m k t Q' E' a b c d e f' => helt C h tk m k t Q' E' a b (fun x o ex => c x o (k1 x o ex)) d e f') ?_ F6 (t := tk) (by simp) N7 hv
        intro h8 tk8 m8 vs8 n8 F8 N8 hv8
        refine ⟨k - 1, by omega, i + 1, h8, tk8, m8, vs8, n8, by omega, by omega, rfl, F8, ?_, ?_⟩
        · have e : (n1 : Int) - ((i + 1 : Nat) : Int) = (n1 : Int) - ((i : Int) + 1) := by push_cast; omega
          rw [e]
          simpa using N8
        · rw [flatOf_succ]; exact hv8
      exact codeAny_compStart_1 inner (wpAny_pyIter_rangeiter (Heap.get?_push_size _ rfl) inner)
    · have ei : i = n1 := by omega
      subst ei
      refine wpAny_pyNext_range_end (s := { s with heap := h, toks := tk }) hh nI.1 (by omega) fun h' he' => ?_
      refine fin h' tk m vs n ⟨F.ns.extBut he' (Ne.symm hIC), fun b o e => he' b o (fun q => by rw [q, nI.2.2] at e; cases e) (F.keep b o e), F.above⟩ ?_ hv
      intro p hp
      simp only [List.mem_cons, List.not_mem_nil, or_false] at hp
      subst hp
      exact ⟨he' _ _ hDI1 nD.1, nD.2⟩
  exact codeAny_compStart_list (loop _ rfl) (wpAny_pyIter_rangeiter (k4 _ _ hIC (k3 _ _ gI)) (loop _ rfl))
end

/-- a builtin's name, read in any function-like environment of the module -/
theorem nmB {M : Model} {A : Around} {E : Value → Shared → Prop} {s : Shared} {K : Frag} {h₀ : Heap} {mg mb : Str → Option Value} {p : Program} {loose : List Str} {mean : ExcName → Option Value} {env : Env}
    {x : Str} {pos : Pos} {v : Value} {Q : Value → Shared → Prop} (keep : ∀ b o, h₀.get? b = some o → s.heap.get? b = some o) (X : K.In h₀) (T : Top p loose mean mg mb h₀) (e : nsIn K mainGlobals x = some none) (hv : bootBuiltins x = some v) (hn : x ≠ "__name__") (h : Q v s)
    (hg : env.globals = mainGlobals := by rfl) (hb : env.builtins = builtinsNs := by rfl)
    (hk : env.scope.kind = .function := by rfl) (hx : env.kindOf x = some .globalImplicit := by rfl) (hd : (x == ("__debug__" : Str)) = false := by decide) :
    wpAny M A (eval (.Name x pos) env) Q E s :=
  Name_function_global hk hx (loadGlobal_builtin (env := env) (hg ▸ T.g.keeps keep) (mg_none_of X T.g e) (hb ▸ T.b.keeps keep) ((T.builtins x hn).trans hv) h) hd
/-- a local of a comprehension -/
theorem nmL {M : Model} {A : Around} {E : Value → Shared → Prop} {s : Shared} {env : Env} {m : Str → Option Value}
    {x : Str} {pos : Pos} {v : Value} {Q : Value → Shared → Prop} (hn : s.heap.Ns env.locals m) (hv : m x = some v) (h : Q v s)
    (hk : env.scope.kind = .function := by rfl) (hx : env.kindOf x = some .local := by rfl) (hd : (x == ("__debug__" : Str)) = false := by decide) :
    wpAny M A (eval (.Name x pos) env) Q E s := wpAny_Name (wpAny_loadName_local hk hx hn hv h) hd
/-- a caught name -/
theorem nmC {M : Model} {A : Around} {E : Value → Shared → Prop} {s : Shared} {env : Env} {c : Addr} {o : Obj}
    {x : Str} {pos : Pos} {v : Value} {Q : Value → Shared → Prop} (hc : env.cells.lookup x = some c) (ho : s.heap.get? c = some o) (hv : o.data = .cell (some v)) (h : Q v s)
    (hk : env.scope.kind = .function := by rfl) (hx : env.kindOf x = some .cell := by rfl) (hd : (x == ("__debug__" : Str)) = false := by decide) :
    wpAny M A (eval (.Name x pos) env) Q E s := wpAny_Name (wpAny_loadName_cell hk hx hc ⟨o, ho, hv⟩ h) hd
end Mine
end

section
theorem Mine.offDzBag : True := by
  w_top off
  trivial
open PySem PySem.W PyProof.Rows PySem.Calls
set_option Elab.async false
namespace Mine

def bagI (b st ct o : Int) : List Int := flatOf (fun k => b + k * st) ct.toNat o.toNat

set_option maxRecDepth 100000 in
set_option maxHeartbeats 8000000 in
theorem bag_call {w : World} {A : Around} {s s₀ : Shared} {mg mb : Str → Option Value} {E : Value → Shared → Prop} {Q : Value → Shared → Prop}
  {c : Addr} {b st ct o : Int} {t1 t2 t3 t4 : Tok} {n : Nat}
  (X : (hd.heap_39 w.params).In s.heap) (T : Top hd.view_39 (looseW hd.view_39 []) (ExcName.means s₀.heap) mg mb s.heap) (hA : A.depth ≤ 700) (hh : A.handled = none)
  (hl : s.heap.get? c = some (lad b st ct o t1 t2 t3 t4 n)) (hst : 0 < st) (hst2 : st ≤ 1000) (hct : 0 ≤ ct) (hct2 : ct ≤ 12) (ho : 1 ≤ o) (ho2 : o ≤ 3)
  (hQ : ∀ D h' tk vs n, (∀ q o, s.heap.get? q = some o → h'.get? q = some o) → s.heap.get? D = none → h'.get? D = some (listOf vs.toArray n) → IntsAre vs (bagI b st ct o) → Q (.ref D) { s with heap := h', toks := tk }) :
  wpAny (model PySem.Challenge.rw_dz0121_01.row.prog w) A (call (.ref 43) [.ref c]) Q E s := by
  revert X; k_fill; intro X
  refine wpAny_call ?_
  refine codeRC X T (by k_is) (by k_is) (by show A.depth < 1000; omega) (by exact BindsTo.of_eq rfl) (by rfl) (by decide +kernel) ?_
  intro h1 tk1 cells F1 N1 Y1
  dsimp only at F1
  k_cells Y1
  have hL : s.heap.IsList c #[.int b t1, .int st t2, .int ct t3, .int o t4] := ⟨_, hl, rfl, _, rfl⟩
  generalize hL' : s.heap.objs.size = L' at *
  refine wpAny_noRaise ?_
  repeat' (first | (fail_if_success (with_reducible show wpAny _ _ (assign (Expr.Tuple _ _ _) _ _) _ _ _)); first | walk1)
  refine kun_list F1 N1 (hL.at fun o e => F1.keep _ o e) hh rfl rfl ?_
  intro h2 F2 N2
  clear F1 N1
  repeat' (first | (fail_if_success (with_reducible show wpAny _ _ (eval (Expr.ListComp _ _ _ _) _) _ _ _)); first | walk1)
  rename_i o1 d1 _ o2 d2 _ _ o3 F3 N3 d3
  have g1 := (N3 _ (.tail _ (.tail _ (.head _)))).1
  have g2 := (N3 _ (.tail _ (.head _))).1
  have g3 := (N3 _ (.head _)).1
  dsimp only at g1 g2 g3
  refine listComp2 (n1 := ct.toNat) (n2 := o.toNat) (cl := [("step", L' + 1 + 1), ("often", L' + 1 + 1 + 1), ("begin", L' + 1)]) (fun k => b + k * st) hh (by rfl) (by decide) (by rfl) (by decide) (by rfl) (by rfl) (by decide) (by intro x; rfl) (by intro C x; rfl) (by omega) (by omega) ?_ ?_ ?_ ?_
  · intro Q' E' hq
    repeat' (first | (fail_if_success (with_reducible show wpAny _ _ (call (Value.type _) _) _ _ _)); first | walk1)
    refine call_range_1 ?_
    rw [Int.toNat_of_nonneg hct] at hq
    exact hq _ _ _ _ _ _ (fun b o e => Heap.get?_push_of_some _ e) (Heap.get?_push_size _ rfl)
  · intro C h tk m Q' E' hns hk hq
    repeat' (first | (fail_if_success (with_reducible show wpAny _ _ (call (Value.type _) _) _ _ _)); first | walk1)
    refine call_range_1 ?_
    rw [Int.toNat_of_nonneg (by omega : 0 ≤ o)] at hq
    exact hq _ _ _ _ _ _ (fun b o e => Heap.get?_push_of_some _ e) (Heap.get?_push_size _ rfl)
  · intro C h tk m k t Q' E' hns hm hk h0 h1 hq
    repeat' (first | (fail_if_success (with_reducible show wpAny _ _ (call (Value.type _) _) _ _ _)); first | walk1)
    exact hq _ _
  · intro D h' tk vs n hk hD hl hv
    exact hQ D h' tk vs n (fun q o e => hk q o (F3.keep q o e)) (by
      cases hq : s.heap.get? D with
      | none => rfl
      | some o => have := F3.keep _ _ hq; rw [hD] at this; cases this) hl hv
end Mine
end

section
theorem Mine.offDzExc : True := by
  w_top off
  trivial
open PySem PySem.W PyProof.Rows PySem.Calls
set_option Elab.async false
namespace Mine

theorem plain_unchain : plainId "proto.unchain" = true := by decide +kernel
theorem entry_unchain : entryFor table "proto.unchain" = some Builtin.«proto.unchain» := entryFor_of_tree (by kernel_rfl)

/-- an IndexError object (or another plain one) -/
def xo (cls : String) (t f c : Value) : Obj := { cls := .type cls, data := .fields #[t, f, c, .none, .bool false, .none] }

/-- a chain of at most two exceptions -/
def Chain (h : Heap) (e : Addr) : Prop :=
  ∃ o vs c, h.get? e = some o ∧ o.data = .fields vs ∧ vs[2]? = some c ∧
    (c = .none ∨ ∃ e1 o1 vs1, c = .ref e1 ∧ e1 ≠ e ∧ h.get? e1 = some o1 ∧ o1.data = .fields vs1 ∧ vs1[2]? = some .none)
theorem Chain.keeps {h h' : Heap} {e : Addr} (C : Chain h e) (k : ∀ q o, h.get? q = some o → h'.get? q = some o) : Chain h' e := by
  obtain ⟨o, vs, c, h1, h2, h3, h4⟩ := C
  refine ⟨o, vs, c, k _ _ h1, h2, h3, ?_⟩
  rcases h4 with h4 | ⟨e1, o1, vs1, a, b, d, r⟩
  · exact .inl h4
  · exact .inr ⟨e1, o1, vs1, a, b, k _ _ d, r⟩

def HandOk (A : Around) (h : Heap) : Prop := A.handled = none ∨ ∃ e, A.handled = some (.ref e) ∧ Chain h e
theorem HandOk.keeps {A : Around} {h h' : Heap} (H : HandOk A h) (k : ∀ q o, h.get? q = some o → h'.get? q = some o) : HandOk A h' := by
  rcases H with H | ⟨e, h1, h2⟩
  · exact .inl H
  · exact .inr ⟨e, h1, h2.keeps k⟩
def ctxOf (A : Around) : Value := A.handled.getD .none

structure NewX (cls : String) (h h' : Heap) (e : Addr) (c : Value) : Prop where
  keeps : ∀ b o, h.get? b = some o → h'.get? b = some o
  new : h.get? e = none
  there : ∃ t, h'.get? e = some (xo cls t .none c)

section
variable {prog : Program} {w : World} {A : Around} {E : Value → Shared → Prop} {s : Shared}

theorem unchain_ok {v : Addr} {e : Addr} {Q : Value → Shared → Prop} (C : Chain s.heap e) (hv : ∀ o vs, s.heap.get? e = some o → o.data = .fields vs → vs[2]? ≠ some (.ref v)) (h : Q .none s) :
    wpAny (model prog w) A (runValue (.builtin "proto.unchain" ⟨[.ref v, .ref e, .ref e, .bool false], []⟩)) Q E s := by
  obtain ⟨o, vs, c, h1, h2, h3, h4⟩ := C
  refine wpAny_runValue ?_
  refine codeAny_builtin entry_unchain ?_
  rw [Around.under_plainId plain_unchain _]
  show wpAny _ A.in1 (field (.ref e) 2 >>= _) _ _ s
  refine wpAny_bind (wpAny_field h1 h2 h3 ?_)
  rcases h4 with rfl | ⟨e1, o1, vs1, rfl, hne, g1, g2, g3⟩
  · have q0 : (Value.none == Value.none) = true := by decide
    simp only [q0, if_true]
    exact wpAny_pure h
  · have q1 : ¬ ((Value.ref e1 == Value.none) = true) := by simp
    have q2 : ¬ ((Value.ref e1 == Value.ref v) = true) := by
      intro q
      have : Value.ref e1 = Value.ref v := by simpa using q
      exact hv o vs h1 h2 (this ▸ h3)
    have q3 : ¬ ((Value.ref e1 == Value.ref e) = true) := by
      intro q
      have : e1 = e := by simpa using q
      exact hne this
    simp only [q1, q2, q3, Bool.false_eq_true, if_false]
    refine wpAny_bind (wpAny_pure (wpAny_pure ⟨plainId_quiet plain_unchain _, ?_⟩))
    refine codeAny_builtin entry_unchain ?_
    rw [Around.under_plainId plain_unchain _]
    show wpAny _ A.in1 (field (.ref e1) 2 >>= _) _ _ s
    refine wpAny_bind (wpAny_field g1 g2 g3 ?_)
    have q0 : (Value.none == Value.none) = true := by decide
    simp only [q0, if_true]
    exact wpAny_pure h

theorem raiseNew_ok {α : Type} {h : Heap} {a : Addr} {C : String} {t x : Value} {Q : α → Shared → Prop} (hA : HandOk A h) (k : ∀ q o, h.get? q = some o → s.heap.get? q = some o) (hn : h.get? a = none)
    (ha : s.heap.get? a = some { cls := .type C, data := .fields #[t, .none, .none, .none, .bool false, x] })
    (hE : ∀ h', (∀ q o, h.get? q = some o → h'.get? q = some o) → h'.get? a = some { cls := .type C, data := .fields #[t, .none, ctxOf A, .none, .bool false, x] } → E (.ref a) { s with heap := h' }) :
    wpAny (model prog w) A (raiseNew (.ref a) : Sem α) Q E s := by
  unfold raiseNew
  refine wpAny_bind (wpAny_handled ?_)
  rcases hA with hA | ⟨e, hA, C'⟩
  · have hE' := hE s.heap k (by unfold ctxOf; rw [hA]; exact ha)
    rw [hA]
    first | exact wpAny_throw hE' | exact wpAny_bind (wpAny_pure (wpAny_throw hE'))
  · rw [hA]
    have hea : e ≠ a := fun q => by
      obtain ⟨o, vs, c, h1, _⟩ := C'
      rw [q, hn] at h1; cases h1
    have q1 : ((Value.ref e != Value.ref a) = true) := by simpa using hea
    simp only [q1, if_true]
    refine wpAny_bind (wpAny_holding (unchain_ok (C'.keeps k) ?_ ?_))
    · intro o vs g1 g2 g3
      obtain ⟨o', vs', c, h1, h2, h3, h4⟩ := C'
      rw [k _ _ h1] at g1; cases g1
      rw [h2] at g2; cases g2
      rw [h3] at g3; cases g3
      rcases h4 with h4 | ⟨e1, o1, vs1, h4, h5, h6, _⟩
      · cases h4
      · cases h4; rw [hn] at h6; cases h6
    · have hu := wpAny_setField (M := model prog w) (A := A) (E := E) (s := s) (a := a) (i := 2) (x := .ref e) (Q := fun _ s' => wpAny (model prog w) A (throw (Value.ref a) : Sem α) Q E s') ha rfl (by simp) ?_
      · exact wpAny_bind hu
      · refine wpAny_throw ?_
        refine hE _ (fun q o g => ?_) ?_
        · rw [Heap.get?_update_other _ _ (fun z : a = q => by rw [z, g] at hn; cases hn)]
          exact k _ _ g
        · refine (Heap.get?_update_self _ ha rfl).trans ?_
          unfold ctxOf; rw [hA]; rfl

theorem raiseWords_ok {α : Type} {cls msg : String} {Q : α → Shared → Prop} (hp : PlainExc cls) (hA : HandOk A s.heap)
    (h : ∀ h' tk e, NewX cls s.heap h' e (ctxOf A) → E (.ref e) { s with heap := h', toks := tk }) :
    wpAny (model prog w) A (raiseErrorWords cls msg : Sem α) Q E s := by
  unfold raiseErrorWords
  refine wpAny_bind (wpAny_mkText (wpAny_bind ?_))
  unfold newExc newTuple
  refine wpAny_bind (wpAny_newObj_type ?_)
  refine wpAny_bind (m := firstArgMember _ _) (wpAny_of_eq (a := Value.none) (by simp only [firstArgMember, hp.first]; rfl) ?_)
  rw [hp.own]
  refine wpAny_newObj_type ?_
  refine raiseNew_ok (h := s.heap) hA (fun q o e => Heap.get?_push_of_some _ (Heap.get?_push_of_some _ e)) (Heap.get?_none_of_le (by simp)) (Heap.get?_push_size _ rfl) ?_
  intro h' hk hg
  exact h h' _ _ ⟨hk, Heap.get?_none_of_le (by simp), _, hg⟩

theorem list_out {l : Addr} {items : Array Value} {k : Nat} {t : Tok} {Q : Value → Shared → Prop} (hA : HandOk A s.heap) (hl : s.heap.IsList l items)
    (hout : items.size ≤ k) (hhi : (k : Int) < 2 ^ 63)
    (hE : ∀ h' tk e, NewX "IndexError" s.heap h' e (ctxOf A) → E (.ref e) { s with heap := h', toks := tk }) :
    wpAny (model prog w) A (getItem (.ref l) (.int k t)) Q E s := by
  obtain ⟨o, ho, hc, ne, hd⟩ := id hl
  obtain ⟨z, hz⟩ : ∃ z : Int, z = (k : Int) := ⟨_, rfl⟩
  rw [← hz]
  rw [← hz] at hhi
  unfold getItem
  try with_reducible refine wpAny_holding ?_
  first | refine wpAny_bind (wpAny_pure ?_) | skip
  refine wpAny_bind (wpAny_sequenceKey hl.typeIs (by decide) ?_)
  refine wpAny_bind (wpAny_callSpecial?_slot (name := Str.ofString "__getitem__") hl.typeIs slot_list_getitem
    (wpAny_call_entry slot_list_getitem hl.typeIs entry_list_getitem ?_ (args_list_getitem _ _)))
  show wpAny _ _ (Builtin.List.listSubscript? (.int z t) >>= _) _ _ s
  refine wpAny_bind (wpAny_listSubscript_int (fitsIndex_both (by omega) hhi) ?_)
  have hx : items[k]? = none := Array.getElem?_eq_none hout
  clear hhi
  subst hz
  show wpAny _ _ ((seqItemAt l k >>= fun r => pure (r.map (k, ·))) >>= _) _ _ s
  refine wpAny_bind (wpAny_bind (wpAny_seqItemAt ho hd (wpAny_pure ?_)))
  rw [hx]
  have hA' : HandOk A.in1 s.heap := hA
  first
    | exact wpAny_bind (wpAny_rule (raiseWords_ok plainExc_IndexError hA' hE))
    | exact wpAny_bind (wpAny_rule (wpAny_bind (raiseWords_ok plainExc_IndexError hA' hE)))
    | exact wpAny_bind (wpAny_bind (wpAny_rule (raiseWords_ok plainExc_IndexError hA' hE)))
    | exact wpAny_rule (raiseWords_ok plainExc_IndexError hA' hE)

theorem range_fields {r : Addr} {a b c : Int} {t u v : Tok} {Q : Int × Int × Int → Shared → Prop} (hr : IsRange s.heap r a b c t u v) (h : Q (a, b, c) s) :
    wpAny (model prog w) A (Builtin.Range.rangeFields (.ref r)) Q E s := by
  unfold Builtin.Range.rangeFields
  refine wpAny_bind (wpAny_field hr rfl rfl ?_)
  refine wpAny_bind (wpAny_pure ?_)
  refine wpAny_bind (wpAny_field hr rfl rfl ?_)
  refine wpAny_bind (wpAny_pure ?_)
  refine wpAny_bind (wpAny_field hr rfl rfl ?_)
  refine wpAny_bind (wpAny_pure ?_)
  exact wpAny_pure h

theorem range_item {r : Addr} {a b c : Int} {t u v tk : Tok} {k : Nat} {Q : Value → Shared → Prop} (hr : IsRange s.heap r a b c t u v) (hk : (k : Int) < Builtin.Range.rangeSize a b c)
    (h : ∀ t' tk, Q (.int (a + k * c) t') { s with toks := tk }) :
    wpAny (model prog w) A (getItem (.ref r) (.int k tk)) Q E s := by
  have hT : s.TypeIs (.ref r) "range" := ⟨_, hr, rfl⟩
  unfold getItem
  try with_reducible refine wpAny_holding ?_
  first | refine wpAny_bind (wpAny_pure ?_) | skip
  refine wpAny_bind (wpAny_sequenceKey hT (by decide) ?_)
  refine wpAny_bind (wpAny_callSpecial?_slot (name := Str.ofString "__getitem__") hT F.slot_range_getitem
    (wpAny_call_entry F.slot_range_getitem hT F.entry_range_getitem ?_ (F.args_range_getitem_2 _ _)))
  show wpAny _ _ (Builtin.Range.rangeFields (.ref r) >>= _) _ _ s
  refine wpAny_bind (range_fields hr ?_)
  show wpAny _ _ (typeOf (.int k tk) >>= _) _ _ s
  refine wpAny_bind (wpAny_pure ?_)
  have q1 : ¬ ((Value.type "int" == Value.type "slice") = true) := by decide
  rw [if_neg q1]
  refine wpAny_bind (wpAny_specialOf (T := "int") (typeIs_int s k tk) int_index ?_)
  show wpAny _ _ (asIndex (.int k tk) >>= _) _ _ s
  refine wpAny_bind (wpAny_of_eq (a := (k : Int)) rfl ?_)
  have q2 : ¬ ((k : Int) < 0) := by omega
  have q3 : ¬ ((decide ((k : Int) < 0) || decide ((k : Int) ≥ Builtin.Range.rangeSize a b c)) = true) := by
    simp only [Bool.or_eq_true, decide_eq_true_eq]; omega
  simp only [q2, if_false]
  simp only [decide_false, Bool.false_or, decide_eq_true_eq]
  rw [if_neg (by omega)]
  exact wpAny_bind (wpAny_mkInt (wpAny_pure ⟨_, rfl, wpAny_pure (h _ _)⟩))

theorem range_out {r : Addr} {a b c : Int} {t u v tk : Tok} {k : Nat} {Q : Value → Shared → Prop} (hA : HandOk A s.heap) (hr : IsRange s.heap r a b c t u v) (hk : Builtin.Range.rangeSize a b c ≤ (k : Int))
    (hE : ∀ h' tk e, NewX "IndexError" s.heap h' e (ctxOf A) → E (.ref e) { s with heap := h', toks := tk }) :
    wpAny (model prog w) A (getItem (.ref r) (.int k tk)) Q E s := by
  have hT : s.TypeIs (.ref r) "range" := ⟨_, hr, rfl⟩
  unfold getItem
  try with_reducible refine wpAny_holding ?_
  first | refine wpAny_bind (wpAny_pure ?_) | skip
  refine wpAny_bind (wpAny_sequenceKey hT (by decide) ?_)
  refine wpAny_bind (wpAny_callSpecial?_slot (name := Str.ofString "__getitem__") hT F.slot_range_getitem
    (wpAny_call_entry F.slot_range_getitem hT F.entry_range_getitem ?_ (F.args_range_getitem_2 _ _)))
  show wpAny _ _ (Builtin.Range.rangeFields (.ref r) >>= _) _ _ s
  refine wpAny_bind (range_fields hr ?_)
  show wpAny _ _ (typeOf (.int k tk) >>= _) _ _ s
  refine wpAny_bind (wpAny_pure ?_)
  have q1 : ¬ ((Value.type "int" == Value.type "slice") = true) := by decide
  rw [if_neg q1]
  refine wpAny_bind (wpAny_specialOf (T := "int") (typeIs_int s k tk) int_index ?_)
  show wpAny _ _ (asIndex (.int k tk) >>= _) _ _ s
  refine wpAny_bind (wpAny_of_eq (a := (k : Int)) rfl ?_)
  have q2 : ¬ ((k : Int) < 0) := by omega
  simp only [q2, if_false]
  simp only [decide_false, Bool.false_or, decide_eq_true_eq]
  rw [if_pos (by omega)]
  have hA' : HandOk A.in1 s.heap := hA
  exact wpAny_bind (wpAny_rule (wpAny_bind (raiseWords_ok plainExc_IndexError hA' hE)))

def Fits (b : Int) : Prop := (b.natAbs + 1000000).log2 < bitsLine
theorem Fits.near {b d : Int} (h : Fits b) (hd : d.natAbs ≤ 1000000) : ¬ ((b + d).natAbs.log2 ≥ bitsLine) := by
  unfold Fits at h
  generalize bitsLine = B at h ⊢
  have h1 : (b + d).natAbs ≤ b.natAbs + 1000000 := by omega
  intro h2
  have h3 : (b + d).natAbs.log2 ≤ (b.natAbs + 1000000).log2 := by
    by_cases hz : (b + d).natAbs = 0
    · rw [hz]; simp
    · rw [Nat.le_log2 (by omega)]
      exact Nat.le_trans (Nat.log2_self_le hz) h1
  omega

theorem grownB {b d : Int} {Q : Value → Shared → Prop} (hb : Fits b) (hd : d.natAbs ≤ 1000000) (h : ∀ t tk, Q (.int (b + d) t) { s with toks := tk }) : wpAny (model prog w) A (mkIntGrown (b + d)) Q E s := by
  unfold mkIntGrown
  rw [if_neg (hb.near hd)]
  exact wpAny_mkInt (h _ _)

theorem fits_small {b : Int} (h : b.natAbs ≤ 1000000) : Fits b := by
  unfold Fits
  have h1 : (b.natAbs + 1000000).log2 < 22 := by
    rw [Nat.log2_lt (by omega)]
    have : (2:Nat)^22 = 4194304 := by decide
    omega
  have h2 : 22 ≤ bitsLine := by unfold bitsLine; decide
  omega

theorem noPylong {x y : Int} (hy : y.natAbs ≤ 1000) : Builtin.divisionGoesByPylong x y = false := by
  unfold Builtin.divisionGoesByPylong
  simp only [Bool.and_eq_false_iff, decide_eq_false_iff_not]
  left
  split
  · omega
  · rename_i h
    have hz : y.natAbs ≠ 0 := by
      intro q; apply h; simp [Int.natAbs_eq_zero.mp q]
    have : y.natAbs.log2 < 10 := by rw [Nat.log2_lt hz]; omega
    omega

theorem range_slice {r sl : Addr} {a b c : Int} {t u v tk : Tok} {k : Nat} {Q : Value → Shared → Prop} (hr : IsRange s.heap r a b c t u v) (hs : s.heap.IsSliceOf sl (.int k tk) .none .none)
    (hb : Fits a) (hc : 0 < c) (hc2 : c ≤ 1000) (hn2 : Builtin.Range.rangeSize a b c ≤ 100) (hn0 : 0 ≤ Builtin.Range.rangeSize a b c) (hk : (k : Int) ≤ Builtin.Range.rangeSize a b c)
    (h : ∀ t1 t2 t3 tk, Q (.ref s.heap.objs.size) { s with heap := s.heap.push { cls := .type "range", data := .fields #[.int (a + k * c) t1, .int (a + Builtin.Range.rangeSize a b c * c) t2, .int c t3] }, toks := tk }) :
    wpAny (model prog w) A (getItem (.ref r) (.ref sl)) Q E s := by
  obtain ⟨os, hos, hcs, hds⟩ := id hs
  have hTs : s.TypeIs (.ref sl) "slice" := ⟨os, hos, hcs⟩
  have hT : s.TypeIs (.ref r) "range" := ⟨_, hr, rfl⟩
  unfold getItem
  try with_reducible refine wpAny_holding ?_
  first | refine wpAny_bind (wpAny_pure ?_) | skip
  refine wpAny_bind (wpAny_sequenceKey hT (by decide) ?_)
  refine wpAny_bind (wpAny_callSpecial?_slot (name := Str.ofString "__getitem__") hT F.slot_range_getitem
    (wpAny_call_entry F.slot_range_getitem hT F.entry_range_getitem ?_ (F.args_range_getitem_2 _ _)))
  show wpAny _ _ (Builtin.Range.rangeFields (.ref r) >>= _) _ _ s
  refine wpAny_bind (range_fields hr ?_)
  show wpAny _ _ (typeOf (.ref sl) >>= _) _ _ s
  refine wpAny_bind (wpAny_typeOf hTs ?_)
  rw [if_pos (by decide)]
  unfold Builtin.Slice.sliceFields
  refine wpAny_bind (wpAny_bind (wpAny_field hos hds (x := .int k tk) rfl (wpAny_bind (wpAny_field hos hds (x := .none) rfl (wpAny_bind (wpAny_field hos hds (x := .none) rfl (wpAny_pure ?_)))))))
  have pn : ∀ {s : Shared} {Q' : Option Int → Shared → Prop}, Q' none s → wpAny (model prog w) A.in1 (Builtin.Slice.slicePartIndex .none) Q' E s := by
    intro s Q' hq
    unfold Builtin.Slice.slicePartIndex
    exact wpAny_pure hq
  dsimp only
  refine wpAny_bind (pn ?_)
  have e1 : ((none : Option Int).getD 1 == 0) = false := by decide
  simp only [e1, Bool.false_eq_true, if_false]
  have pi : ∀ {s : Shared} {Q' : Option Int → Shared → Prop}, Q' (some (k : Int)) s → wpAny (model prog w) A.in1 (Builtin.Slice.slicePartIndex (.int k tk)) Q' E s := by
    intro s Q' hq
    unfold Builtin.Slice.slicePartIndex
    rw [if_neg (by simp)]
    refine wpAny_bind (wpAny_specialOf (T := "int") (typeIs_int s k tk) int_index ?_)
    show wpAny _ _ (asIndex (.int k tk) >>= _) _ _ s
    exact wpAny_bind (wpAny_of_eq (a := (k : Int)) rfl (wpAny_pure hq))
  refine wpAny_bind (pi ?_)
  refine wpAny_bind (pn ?_)
  generalize hz : Builtin.Range.rangeSize a b c = z at *
  have e2 : Builtin.Slice.sliceAdjust (some (k : Int)) none ((none : Option Int).getD 1) z = ((k : Int), z) := by
    simp only [Builtin.Slice.sliceAdjust, Option.getD]
    have : ¬ ((1 : Int) < 0) := by decide
    simp only [this, if_false]
    have h2 : ¬ ((k : Int) < 0) := by omega
    simp only [h2, if_false]
    congr 1
    omega
  rw [e2]
  dsimp only
  have m1 : ((none : Option Int).getD 1) = 1 := rfl
  rw [m1, Int.mul_one]
  refine wpAny_bind (wpAny_roomForPylong (.inl (noPylong (by omega))) ?_)
  have b1 : ((k : Int) * c).natAbs ≤ 1000000 := by
    have hh1 : (k : Int) * c ≤ 100 * 1000 := Int.mul_le_mul (by omega) hc2 (by omega) (by omega)
    have hh2 : 0 ≤ (k : Int) * c := Int.mul_nonneg (by omega) (by omega)
    omega
  have b2 : (z * c).natAbs ≤ 1000000 := by
    have hh1 : z * c ≤ 100 * 1000 := Int.mul_le_mul (by omega) hc2 (by omega) (by omega)
    have hh2 : 0 ≤ z * c := Int.mul_nonneg (by omega) (by omega)
    omega
  refine wpAny_bind (grownB hb b1 fun t1 tk1 => ?_)
  refine wpAny_bind (grownB hb b2 fun t2 tk2 => ?_)
  have b3 : Fits 0 := fits_small (by decide)
  have z0 : (0 : Int) + c = c := Int.zero_add c
  refine wpAny_bind ?_
  rw [← z0]
  refine grownB b3 (by omega) fun t3 tk3 => ?_
  rw [z0]
  unfold newFields
  refine wpAny_bind (wpAny_newObj_type ?_ (by size_fits))
  exact wpAny_pure ⟨_, rfl, wpAny_pure (h _ _ _ _)⟩
end
end Mine
end

section
theorem Mine.offDzExt : True := by
  w_top off
  trivial
open PySem PySem.W PyProof.Rows PySem.Calls
set_option Elab.async false
namespace Mine

theorem HandOk.but {A : Around} {h h' : Heap} {S : Addr} (H : HandOk A h) (hS : ∀ o vs, h.get? S = some o → o.data ≠ .fields vs) (k : ∀ q o, q ≠ S → h.get? q = some o → h'.get? q = some o) : HandOk A h' := by
  rcases H with H | ⟨e, h1, o, vs, c, h2, h3, h4, h5⟩
  · exact .inl H
  · refine .inr ⟨e, h1, o, vs, c, k _ _ (fun q => hS o vs (q ▸ h2) h3) h2, h3, h4, ?_⟩
    rcases h5 with h5 | ⟨e1, o1, vs1, a, b, d, f, r⟩
    · exact .inl h5
    · exact .inr ⟨e1, o1, vs1, a, b, k _ _ (fun q => hS o1 vs1 (q ▸ d) f) d, f, r⟩

/-- a range iterator of either kind -/
def IterAt (long : Bool) (h : Heap) (I : Addr) (x left c : Int) : Prop := if long then IsLongIter h I x left c else IsRangeIter h I x left c

section
variable {prog : Program} {w : World} {A : Around} {E : Value → Shared → Prop} {s : Shared}

theorem stop_ok {α : Type} {h₀ : Heap} {Q : Option Value → Shared → Prop} (hA : HandOk A s.heap) (hk : ∀ q o, h₀.get? q = some o → s.heap.get? q = some o)
    (hQ : ∀ h', (∀ q o, h₀.get? q = some o → h'.get? q = some o) → Q none { s with heap := h' }) :
    wpAny (model prog w) A.in1 (newExc (.type "StopIteration") [] >>= fun e => (raiseNew e : Sem α)) (fun _ _ => False)
      (fun e s' => wpAny (model prog w) A (isInstance e (.type "StopIteration")) (fun b s'' => b = true ∧ Q none s'') E s') s := by
  refine wpAny_bind ?_
  simp only [newExc, newTuple]
  refine wpAny_bind (wpAny_newObj_type ?_ (by size_fits))
  refine wpAny_bind (m := firstArgMember _ _) (wpAny_of_eq (a := Value.none) (by first | rfl | (simp only [firstArgMember]; rfl)) ?_)
  refine wpAny_newObj_type ?_ (by size_fits)
  have hA' : HandOk A.in1 s.heap := hA
  refine raiseNew_ok (h := s.heap) (C := "StopIteration") hA' (fun q o e => Heap.get?_push_of_some _ (Heap.get?_push_of_some _ e)) (Heap.get?_none_of_le (by simp)) (Heap.get?_push_size _ rfl) ?_
  intro h' hk' hg
  exact wpAny_isInstance (T := "StopIteration") (b := true) ⟨_, hg, rfl⟩ isSubtype_stop ⟨rfl, hQ h' fun q o e => hk' q o (hk q o e)⟩

theorem next_end {long : Bool} {it : Addr} {x left step : Int} {Q : Option Value → Shared → Prop} (hA : HandOk A s.heap) (hit : IterAt long s.heap it x left step) (hleft : left ≤ 0)
    (hQ : ∀ h', (∀ q o, s.heap.get? q = some o → h'.get? q = some o) → Q none { s with heap := h' }) : wpAny (model prog w) A (pyNext (.ref it)) Q E s := by
  cases long with
  | false =>
    have hit : IsRangeIter s.heap it x left step := hit
    have hT : s.TypeIs (.ref it) "range_iterator" := ⟨_, hit, rfl⟩
    unfold pyNext
    refine wpAny_bind (wpAny_attempt (wpAny_callSpecial?_slot (name := Str.ofString "__next__") hT F.slot_range_iterator_next
      (wpAny_call_entry F.slot_range_iterator_next hT F.entry_range_iterator_next ?_ (F.args_range_iterator_next_1 _))))
    show wpAny _ _ (field (.ref it) 0 >>= _) _ _ s
    refine wpAny_bind (wpAny_field hit rfl (x := rawInt x) rfl ?_)
    show wpAny _ _ (field (.ref it) 1 >>= _) _ _ s
    refine wpAny_bind (wpAny_field hit rfl (x := rawInt left) rfl ?_)
    show wpAny _ _ (field (.ref it) 2 >>= _) _ _ s
    refine wpAny_bind (wpAny_field hit rfl (x := rawInt step) rfl ?_)
    show wpAny _ _ (if left ≤ 0 then _ else _) _ _ s
    rw [if_pos hleft]
    refine wpAny_bind (wpAny_rule ?_)
    refine wpAny_bind ?_
    show wpAny _ _ (newExc (.type "StopIteration") [] >>= _) _ _ _
    refine wpAny_mono (stop_ok (E := E) (Q := Q) hA (fun _ _ e => e) hQ) (fun _ _ x => x.elim) fun e s' he => ?_
    refine wpAny_bind (wpAny_mono he (fun b s'' hb => ?_) fun _ _ x => x)
    obtain ⟨rfl, hb⟩ := hb
    exact wpAny_pure hb
  | true =>
    have hit : IsLongIter s.heap it x left step := hit
    have hT : s.TypeIs (.ref it) "longrange_iterator" := ⟨_, hit, rfl⟩
    unfold pyNext
    refine wpAny_bind (wpAny_attempt (wpAny_callSpecial?_slot (name := Str.ofString "__next__") hT F.slot_longrange_iterator_next
      (wpAny_call_entry F.slot_longrange_iterator_next hT F.entry_longrange_iterator_next ?_ (F.args_longrange_iterator_next_1 _))))
    show wpAny _ _ (bound "longrange_iterator.__next__" ⟨[.ref it], []⟩ >>= _) _ _ s
    rw [bound_longnext]
    refine wpAny_bind (wpAny_pure ?_)
    show wpAny _ _ (Builtin.Iterators_pickling.intField _ (.ref it) 0 >>= _) _ _ s
    refine wpAny_bind (wpAny_intField hit rfl rfl ?_)
    show wpAny _ _ (Builtin.Iterators_pickling.intField _ (.ref it) 1 >>= _) _ _ s
    refine wpAny_bind (wpAny_intField hit rfl rfl ?_)
    show wpAny _ _ (Builtin.Iterators_pickling.intField _ (.ref it) 2 >>= _) _ _ s
    refine wpAny_bind (wpAny_intField hit rfl rfl ?_)
    show wpAny _ _ (if left ≤ 0 then _ else _) _ _ s
    rw [if_pos hleft]
    refine wpAny_bind (wpAny_rule ?_)
    refine wpAny_bind ?_
    show wpAny _ _ (newExc (.type "StopIteration") [] >>= _) _ _ _
    refine wpAny_bind ?_
    simp only [newExc, newTuple]
    refine wpAny_bind (wpAny_newObj_type ?_ (by size_fits))
    refine wpAny_bind (m := firstArgMember _ _) (wpAny_of_eq (a := Value.none) (by first | rfl | (simp only [firstArgMember]; rfl)) ?_)
    refine wpAny_newObj_type ?_ (by size_fits)
    refine wpAny_pure ?_
    have hA' : HandOk A.in1 s.heap := hA
    refine wpAny_bind (raiseNew_ok (h := s.heap) (C := "StopIteration") hA' (fun q o e => Heap.get?_push_of_some _ (Heap.get?_push_of_some _ e)) (Heap.get?_none_of_le (by simp)) (Heap.get?_push_size _ rfl) ?_)
    intro h' hk' hg
    refine wpAny_bind (wpAny_isInstance (T := "StopIteration") (b := true) ⟨_, hg, rfl⟩ isSubtype_stop ?_)
    exact wpAny_pure (hQ h' hk')

theorem next_item {long : Bool} {it : Addr} {x left step : Int} {Q : Option Value → Shared → Prop} (hit : IterAt long s.heap it x left step) (hleft : 0 < left)
    (hQ : ∀ h' t tk, IterAt long h' it (x + step) (left - 1) step → (∀ q o, q ≠ it → s.heap.get? q = some o → h'.get? q = some o) → Q (some (.int x t)) { s with heap := h', toks := tk }) : wpAny (model prog w) A (pyNext (.ref it)) Q E s := by
  cases long with
  | false => exact wpAny_pyNext_range_item hit hleft fun h' hit' hs' => hQ h' _ _ hit' fun b o hb e => hs'.extBut b o hb e
  | true => exact wpAny_pyNext_long_item hit hleft fun h' hit' hs' => hQ h' _ _ hit' fun b o hb e => hs'.extBut b o hb e

theorem iter_range {r : Addr} {a b c : Int} {t u v : Tok} {Q : Value → Shared → Prop} (hr : IsRange s.heap r a b c t u v)
    (hQ : ∀ long h', IterAt long h' s.heap.objs.size a (Builtin.Range.rangeSize a b c) c → (∀ q o, s.heap.get? q = some o → h'.get? q = some o) → Q (.ref s.heap.objs.size) { s with heap := h' }) :
    wpAny (model prog w) A (pyIter (.ref r)) Q E s := by
  cases hs : Builtin.Range.small a b c with
  | true => exact wpAny_pyIter_range hr hs (hQ false _ (Heap.get?_push_size _ rfl) fun q o e => Heap.get?_push_of_some _ e)
  | false => exact wpAny_pyIter_longrange hr hs (hQ true _ (Heap.get?_push_size _ rfl) fun q o e => Heap.get?_push_of_some _ e)

/-- the values that a walk of a range gives -/
def RangeVals (a c : Int) (zs : List Value) (n : Nat) : Prop := IntsAre zs ((List.range n).map fun (k : Nat) => a + k * c)
theorem RangeVals.push {a c : Int} {zs : List Value} {n : Nat} (h : RangeVals a c zs n) (t : Tok) : RangeVals a c (zs ++ [.int (a + n * c) t]) (n + 1) := by
  unfold RangeVals at *
  rw [List.range_succ, List.map_append]
  exact h.append (.cons _ _ .nil)

theorem ext_loop {R : Result → Shared → Prop} {h₀ : Heap} {S I : Addr} {ys : List Value} {n0 n : Nat} {a c : Int} {long : Bool} {res : Value} (hA : HandOk A h₀) (hS0 : h₀.get? S = some (listOf ys.toArray n0)) (hI : h₀.get? I = none)
    (hy : ys.length ≤ 1000) (hn : n ≤ 1000) :
    ∀ (k i : Nat) (s : Shared) (zs : List Value) (c' : Nat), n - i = k → i ≤ n → (∀ q o, q ≠ S → h₀.get? q = some o → s.heap.get? q = some o) → IterAt long s.heap I (a + i * c) ((n : Int) - i) c →
      s.heap.get? S = some (listOf (ys ++ zs).toArray c') → RangeVals a c zs i →
      (∀ h' tk zs' c', (∀ q o, q ≠ S → h₀.get? q = some o → h'.get? q = some o) → h'.get? S = some (listOf (ys ++ zs').toArray c') → RangeVals a c zs' n → R (.ok (.ret res)) { s with heap := h', toks := tk }) →
      codeAny (model prog w) A (.builtin "list.extend.loop" ⟨[.ref S, .ref I, res], []⟩) R s := by
  have hSn : ∀ o vs, h₀.get? S = some o → o.data ≠ .fields vs := fun o vs e q => by
    rw [hS0] at e; cases e; cases q
  have hSI : S ≠ I := fun q => by rw [q, hI] at hS0; cases hS0
  intro k
  induction k with
  | zero =>
    intro i s zs c' hk hi hkeep hit hS hz hR
    have hin : i = n := by omega
    subst hin
    refine codeAny_builtin F.entry_extend_loop ?_
    rw [Around.under_plainId F.plain_extend_loop _]
    show wpAny _ A.in1 (pyNext (.ref I) >>= _) _ _ s
    have hA' : HandOk A.in1 s.heap := hA.but hSn hkeep
    refine wpAny_bind (next_end hA' hit (by omega) fun h' hk' => ?_)
    exact wpAny_pure (hR h' _ zs c' (fun q o hq e => hk' _ _ (hkeep q o hq e)) (hk' _ _ hS) hz)
  | succ k ih =>
    intro i s zs c' hk hi hkeep hit hS hz hR
    refine codeAny_builtin F.entry_extend_loop ?_
    rw [Around.under_plainId F.plain_extend_loop _]
    show wpAny _ A.in1 (pyNext (.ref I) >>= _) _ _ s
    refine wpAny_bind (next_item hit (by omega) fun h' t tk hit' hk' => ?_)
    have hS' := hk' S _ hSI hS
    have hzl : zs.length = i := by have := hz.length; simpa using this
    show wpAny _ A.in1 (updateSeq S (·.push (.int (a + i * c) t)) >>= _) _ _ _
    refine wpAny_bind ?_
    refine wpAny_updateSeq hS' rfl (wpAny_pure ⟨plainId_quiet F.plain_extend_loop _, ih (i + 1) _ (zs ++ [.int (a + i * c) t]) (c' + 1) (by omega) (by omega) (fun q o hq e => ?_) ?_ ?_ (hz.push t) fun h'' tk'' zs' c'' g1 g2 g3 => ?_⟩)
      (by rw [sizeLine_eq]; simp only [List.size_toArray, List.length_append]; omega) (by rw [sizeLine_eq]; simp only [Array.size_push, List.size_toArray, List.length_append]; omega)
    · exact (Heap.get?_update_other _ _ (fun z => hq z.symm)).trans (hk' _ _ (fun z => by rw [z, hI] at e; cases e) (hkeep q o hq e))
    · have e1 : a + ((i + 1 : Nat) : Int) * c = a + (i : Int) * c + c := by push_cast; rw [Int.add_mul, Int.one_mul, Int.add_assoc]
      have e2 : (n : Int) - ((i + 1 : Nat) : Int) = (n : Int) - (i : Int) - 1 := by push_cast; omega
      rw [e1, e2]
      unfold IterAt at hit' ⊢
      cases long with
      | false => exact (Heap.get?_update_other _ _ hSI).trans hit'
      | true => exact (Heap.get?_update_other _ _ hSI).trans hit'
    · refine (Heap.get?_update_self _ hS' rfl).trans ?_
      simp [Obj.mapSeq, W.listOf]
      try rfl
    · exact hR h'' tk'' zs' c'' g1 g2 g3

theorem extend_with {R : Result → Shared → Prop} {S r : Addr} {ys : List Value} {n0 n : Nat} {a b c : Int} {t u v : Tok} {res : Value} (hA : HandOk A s.heap) (hr : IsRange s.heap r a b c t u v)
    (hn : Builtin.Range.rangeSize a b c = n) (hn2 : n ≤ 1000) (hS : s.heap.get? S = some (W.listOf ys.toArray n0)) (hy : ys.length ≤ 1000)
    (hR : ∀ h' tk zs c', (∀ q o, q ≠ S → s.heap.get? q = some o → h'.get? q = some o) → h'.get? S = some (W.listOf (ys ++ zs).toArray c') → RangeVals a c zs n → R (.ok (.ret res)) { s with heap := h', toks := tk }) :
    wpAny (model prog w) A.in1 (Builtin.List.listExtendWith (.ref S) (.ref r) res)
      (fun fin s' => match fin with | .done f => R (.ok f) s' | .again c' => c'.quiet = true ∧ codeAny (model prog w) A c' R s') (fun e s' => R (.error e) s') s := by
  have hSr : S ≠ r := fun e => by rw [e, hr] at hS; simp [W.listOf] at hS
  have hSI : S ≠ s.heap.objs.size := Nat.ne_of_lt (Heap.lt_size hS)
  unfold Builtin.List.listExtendWith
  refine wpAny_bind (wpAny_typeOf (T := "range") ⟨_, hr, rfl⟩ ?_)
  have h1 : Builtin.List.listSameRef (.ref S) (.ref r) = false := by simp [Builtin.List.listSameRef, hSr]
  have h2 : (Value.type "range" == Value.type "list") = false := by decide
  have h3 : (Value.type "range" == Value.type "tuple") = false := by decide
  simp only [h1, h2, h3, Bool.or_false, Bool.false_eq_true, if_false]
  refine wpAny_bind (iter_range hr fun long h' hit hk => ?_)
  have hit' : IterAt long h' s.heap.objs.size (a + ((0 : Nat) : Int) * c) ((n : Int) - ((0 : Nat) : Int)) c := by
    rw [← hn]; simpa using hit
  refine wpAny_bind (wpAny_holding (wpAny_hint_range (n := n) (hk _ _ hr) hn (by omega) ?_))
  have key : ∀ (h : Heap) (c₁ tk : Nat), IterAt long h s.heap.objs.size (a + ((0 : Nat) : Int) * c) ((n : Int) - ((0 : Nat) : Int)) c → (∀ b o, b ≠ S → s.heap.get? b = some o → h.get? b = some o) →
      h.get? S = some (W.listOf ys.toArray c₁) → codeAny (model prog w) A (.builtin "list.extend.loop" ⟨[.ref S, .ref s.heap.objs.size, res], []⟩) R { s with heap := h, toks := tk } := by
    intro h c₁ tk hit hk hS₁
    exact ext_loop (h₀ := s.heap) (ys := ys) (n := n) (a := a) (c := c) hA hS (Heap.get?_none_of_le (Nat.le_refl _)) hy hn2 n 0 { s with heap := h, toks := tk } [] c₁ rfl (Nat.zero_le _) hk hit (by simpa using hS₁) .nil
      fun h' tk' zs c' g1 g2 g3 => hR h' tk' zs c' g1 g2 g3
  have hS₁ := hk _ _ hS
  refine wpAny_ite_split (fun _ => ?_) (fun _ => wpAny_pure ⟨plainId_quiet F.plain_extend_loop _, key _ _ _ hit' (fun b o _ e => hk _ _ e) hS₁⟩)
  refine wpAny_bind (wpAny_rule ?_)
  refine wpAny_bind ?_
  show wpAny _ _ (updateSeq S (·.push .none) >>= fun _ => updateSeq S (·.pop)) _ _ _
  refine wpAny_bind (wpAny_updateSeq hS₁ rfl ?_ (by rw [sizeLine_eq]; simp only [List.size_toArray]; omega) (by rw [sizeLine_eq]; simp only [Array.size_push, List.size_toArray]; omega))
  have hS₂ := Heap.get?_update_self (Obj.mapSeq (·.push Value.none)) hS₁ rfl
  refine wpAny_updateSeq hS₂ rfl ?_ (by rw [sizeLine_eq]; simp only [Array.size_push, List.size_toArray]; omega) (by rw [sizeLine_eq]; simp only [Array.size_pop, Array.size_push, List.size_toArray]; omega)
  have hS₃ := Heap.get?_update_self (Obj.mapSeq (·.pop)) hS₂ rfl
  have hS₄ : ∃ c₁, ((h'.update S (Obj.mapSeq (·.push Value.none))).update S (Obj.mapSeq (·.pop))).get? S = some (W.listOf ys.toArray c₁) := by
    rw [hS₃]
    simp [Obj.mapSeq, W.listOf]
  obtain ⟨c₁, hS₄⟩ := hS₄
  refine wpAny_pure ⟨plainId_quiet F.plain_extend_loop _, key _ c₁ _ ?_ (fun b o hb e => ?_) hS₄⟩
  · unfold IterAt at hit' ⊢
    cases long with
    | false => exact (Heap.get?_update_other _ _ hSI).trans ((Heap.get?_update_other _ _ hSI).trans hit')
    | true => exact (Heap.get?_update_other _ _ hSI).trans ((Heap.get?_update_other _ _ hSI).trans hit')
  · exact (Heap.get?_update_other _ _ (Ne.symm hb)).trans ((Heap.get?_update_other _ _ (Ne.symm hb)).trans (hk _ _ e))

theorem extend_range {S r : Addr} {ys : List Value} {n0 n : Nat} {a b c : Int} {t u v : Tok} {Q : Value → Shared → Prop} (hA : HandOk A s.heap) (hr : IsRange s.heap r a b c t u v)
    (hn : Builtin.Range.rangeSize a b c = n) (hn2 : n ≤ 1000) (hS : s.heap.get? S = some (W.listOf ys.toArray n0)) (hy : ys.length ≤ 1000)
    (hQ : ∀ h' tk zs c', (∀ q o, q ≠ S → s.heap.get? q = some o → h'.get? q = some o) → h'.get? S = some (W.listOf (ys ++ zs).toArray c') → RangeVals a c zs n → Q .none { s with heap := h', toks := tk }) :
    wpAny (model prog w) A (call (.builtin "list.extend") [.ref S, .ref r]) Q E s := by
  refine wpAny_call (codeAny_call_builtin F.slot_list_extend.plain F.entry_list_extend (F.slot_list_extend.check _ _ _ _ _ _ _ _ ⟨_, hS, rfl⟩ (F.args_list_extend_2 _ _) ?_))
  show wpAny _ _ (Builtin.List.listExtendWith (.ref S) (.ref r) .none) _ _ s
  exact extend_with (R := fun r s' => match r with | .ok (.ret v) => Q v s' | .ok _ => False | .error e => E e s') hA hr hn hn2 hS hy hQ

theorem list_range {r : Addr} {n : Nat} {a b c : Int} {t u v : Tok} {Q : Value → Shared → Prop} (hA : A.handled = none) (hr : IsRange s.heap r a b c t u v)
    (hn : Builtin.Range.rangeSize a b c = n) (hn2 : n ≤ 1000)
    (hQ : ∀ h' tk zs c', (∀ q o, s.heap.get? q = some o → h'.get? q = some o) → h'.get? s.heap.objs.size = some (W.listOf zs.toArray c') → RangeVals a c zs n → Q (.ref s.heap.objs.size) { s with heap := h', toks := tk }) :
    wpAny (model prog w) A (call (.type "list") [.ref r]) Q E s := by
  refine callType_codes (Q₁ := fun obj s₁ => obj = .ref s.heap.objs.size ∧ s₁ = { s with heap := s.heap.push { cls := .type "list", data := .seq #[] } }) F.called_list (F.typeCall_list_1 _) F.entry_list_init
    (code_list_new _ ⟨rfl, rfl⟩) fun obj s₁ h₁ => ?_
  obtain ⟨rfl, rfl⟩ := h₁
  have hS : (s.heap.push { cls := .type "list", data := .seq #[] }).get? s.heap.objs.size = some { cls := .type "list", data := .seq #[] } := Heap.get?_push_size _ rfl
  generalize hS0 : s.heap.objs.size = S at *
  have hSr : S ≠ r := fun q => by
    have := Heap.lt_size hr
    rw [← q, ← hS0] at this
    exact Nat.lt_irrefl _ this
  have hr1 := Heap.get?_push_of_some { cls := .type "list", data := .seq #[] } hr
  have kp : ∀ q o, s.heap.get? q = some o → q ≠ S := fun q o e z => by
    have := Heap.lt_size e
    rw [z, ← hS0] at this
    exact Nat.lt_irrefl _ this
  refine ⟨⟨_, hS, rfl⟩, F.args_list_init_2 _ _, ?_⟩
  show wpAny _ _ (do let old ← Builtin.List.listItems (.ref S); Builtin.List.listUpdate (.ref S) (fun _ => #[]); letGo old.toList.reverse; Builtin.List.listExtendWith (.ref S) (.ref r) .none) _ _ _
  refine wpAny_bind ?_
  unfold Builtin.List.listItems
  refine wpAny_bind (wpAny_seqItems hS rfl (wpAny_pure ?_))
  show wpAny _ _ (updateSeq S (fun _ => #[]) >>= fun _ => letGo (#[] : Array Value).toList.reverse >>= fun _ => Builtin.List.listExtendWith (.ref S) (.ref r) .none) _ _ _
  refine wpAny_bind (wpAny_updateSeq hS rfl ?_)
  have hS₂ := Heap.get?_update_self (Obj.mapSeq (fun _ => (#[] : Array Value))) hS rfl
  refine wpAny_bind (wpAny_letGo ?_)
  have hS₃ : ∃ c₁, ((s.heap.push { cls := .type "list", data := .seq #[] }).update S (Obj.mapSeq (fun _ => (#[] : Array Value)))).get? S = some (W.listOf ([] : List Value).toArray c₁) := by
    rw [hS₂]
    simp [Obj.mapSeq, W.listOf]
  obtain ⟨c₁, hS₃⟩ := hS₃
  refine extend_with (A := A.in1) (n := n) (.inl hA) ((Heap.get?_update_other _ _ hSr).trans hr1) hn hn2 hS₃ (by simp) ?_
  intro h' tk zs c' g1 g2 g3
  exact ⟨rfl, hQ h' tk zs c' (fun q o e => g1 q o (kp q o e) ((Heap.get?_update_other _ _ (Ne.symm (kp q o e))).trans (Heap.get?_push_of_some _ e))) (by simpa using g2) g3⟩
end
end Mine
end

section
theorem Mine.offDzTry : True := by
  w_top off
  trivial
open PySem PySem.W PyProof.Rows PySem.Calls
set_option Elab.async false
namespace Mine

/-- a traceback whose flight mark is v -/
def TB (h : Heap) (tb : Addr) (v : Value) : Prop := ∃ o tvs, h.get? tb = some o ∧ o.data = .fields tvs ∧ tvs[3]? = some v
theorem TB.keeps {h h' : Heap} {tb : Addr} {v : Value} (T : TB h tb v) (k : ∀ q o, h.get? q = some o → h'.get? q = some o) : TB h' tb v := by
  obtain ⟨o, tvs, h1, h2⟩ := T
  exact ⟨o, tvs, k _ _ h1, h2⟩
theorem TB.set {h : Heap} {tb : Addr} {v : Value} (T : TB h tb v) (x : Value) : TB (h.update tb (Obj.mapFields (·.setIfInBounds 3 x))) tb x := by
  obtain ⟨o, tvs, h1, h2, h3⟩ := T
  have hsz : 3 < tvs.size := (Array.getElem?_eq_some_iff.mp h3).1
  exact ⟨_, _, Heap.get?_update_self _ h1 (Obj.isFreed_of_fields (Obj.data_mapFields h2 _)), Obj.data_mapFields h2 _, by simp [Array.getElem?_setIfInBounds, hsz]⟩

/-- what lies about a frame's own work: the frame, and the caller's frame up to its slots -/
structure At (g : Heap) (L' L : Addr) (oL : Obj) (m : Str → Option Value) (h : Heap) : Prop where
  fr : Fr g L' h m
  up : ∃ sl, h.get? L = some { oL with slots := sl }
  ne : L ≠ L'
  out : g.get? L = none
  nd : ∀ vs, oL.data ≠ .fields vs

theorem At.keeps {g h h' : Heap} {L' L : Addr} {oL : Obj} {m : Str → Option Value} (a : At g L' L oL m h) (k : ∀ q o, h.get? q = some o → h'.get? q = some o) : At g L' L oL m h' :=
  ⟨frUp a.fr k, let ⟨sl, e⟩ := a.up; ⟨sl, k _ _ e⟩, a.ne, a.out, a.nd⟩
theorem At.but {g h h' : Heap} {L' L x : Addr} {oL ox : Obj} {vs : Array Value} {m : Str → Option Value} (a : At g L' L oL m h) (hx : h.get? x = some ox) (hd : ox.data = .fields vs) (hg : g.get? x = none) (k : ∀ q o, q ≠ x → h.get? q = some o → h'.get? q = some o) : At g L' L oL m h' := by
  obtain ⟨sl, hL⟩ := a.up
  have hxL : L ≠ x := fun q => by
    rw [q, hx] at hL
    have := congrArg Obj.data (Option.some.inj hL)
    exact a.nd vs (this.symm.trans hd)
  obtain ⟨oF, es, ep, hF, hFd, hFr⟩ := a.fr.ns
  have hxF : L' ≠ x := fun q => by
    rw [q, hx] at hF; cases hF; rw [hd] at hFd; cases hFd
  refine ⟨⟨⟨oF, es, ep, k _ _ hxF hF, hFd, hFr⟩, fun b o e => k b o (fun q => by rw [q, hg] at e; cases e) (a.fr.keep b o e), a.fr.above⟩, ⟨sl, k _ _ hxL hL⟩, a.ne, a.out, a.nd⟩

section
variable {prog : Program} {w : World} {A : Around} {E : Value → Shared → Prop} {s : Shared} {g : Heap} {L L' e tb : Addr} {oL : Obj} {m : Str → Option Value} {env envC : Env} {C : String} {t c : Value}

theorem none_of_keep {g h : Heap} {x : Addr} (k : ∀ b o, g.get? b = some o → h.get? b = some o) (hx : h.get? x = none) : g.get? x = none := none_down k hx

theorem note_new {Q : Unit → Shared → Prop} (hfr : A.frames = some [env, envC]) (hf : env.frame = some L') (hk : env.scope.kind ≠ .module) (hfC : envC.frame = some L) (hkC : envC.scope.kind ≠ .module)
    (a : At g L' L oL m s.heap) (he : s.heap.get? e = some (xo C t .none c)) (heg : g.get? e = none)
    (k : ∀ h' tb, At g L' L oL m h' → h'.get? e = some (xo C t (.ref tb) c) → TB h' tb (rawInt L') → s.heap.get? tb = none → (∀ q o, q ≠ L' → q ≠ L → q ≠ e → s.heap.get? q = some o → h'.get? q = some o) → Q () { s with heap := h' }) :
    wpAny (model prog w) A (noteFrame (.ref e) env) Q E s := by
  obtain ⟨sl, hL⟩ := a.up
  obtain ⟨oF, es, ep, hF, hFd, hFr⟩ := a.fr.ns
  have hgF : g.get? L' = none := Heap.get?_none_of_le a.fr.above
  have hFF : s.heap.FunFrames g [env, envC] := ⟨hk, ⟨L', oF, hf, hgF, hF, fun vs q => by rw [hFd] at q; cases q⟩, hkC, ⟨L, _, hfC, a.out, hL, fun vs q => a.nd vs q⟩, trivial⟩
  have hene : e ∉ [env, envC].filterMap (·.frame) := fun hm => by
    obtain ⟨_, o, ho, hnf⟩ := hFF.mem hm
    rw [he] at ho; injection ho with ho; subst ho; exact hnf _ rfl
  unfold noteFrame
  simp only [hf]
  refine wpAny_bind (wpAny_field he rfl (x := .none) rfl ?_)
  rw [if_neg (by decide)]
  refine wpAny_bind (wpAny_frameOf_fun hfr hFF hf fun h₁ hs₁ => ?_)
  refine wpAny_bind (wpAny_entryPlaceOf fun pl hpl => ?_)
  unfold EntryCells.newEntry newFields
  refine wpAny_bind (wpAny_newObj_type ?_ (hpl.sizeOk5 _ _ _ _ _))
  have he₁ : h₁.get? e = some (xo C t .none c) := (hs₁.2.1 e hene).trans he
  have hfm : [env, envC].filterMap (·.frame) = [L', L] := by simp [List.filterMap_cons, hf, hfC]
  rw [hfm] at hs₁
  generalize hoT : ({ cls := .type "traceback", dict := none, data := .fields ([.none, .ref L', .none, rawInt L', .none] ++ (if pl.isEmpty then List.replicate 6 Value.none else pl)).toArray } : Obj) = oT
  have hTd : oT.data = .fields ([.none, .ref L', .none, rawInt L', .none] ++ (if pl.isEmpty then List.replicate 6 Value.none else pl)).toArray := by rw [← hoT]
  have hTf : oT.isFreed = false := by rw [← hoT]; rfl
  have he₂ := Heap.get?_push_of_some (h := h₁) oT he₁
  refine wpAny_setField he₂ rfl (by simp) ?_
  have hTe : h₁.objs.size ≠ e := Nat.ne_of_gt (Heap.lt_size he₁)
  have he₃ := Heap.get?_update_self (Obj.mapFields (·.setIfInBounds 1 (Value.ref h₁.objs.size))) he₂ rfl
  have hT₃ := (Heap.get?_update_other (h₁.push oT) (Obj.mapFields (·.setIfInBounds 1 (Value.ref h₁.objs.size))) (Ne.symm hTe)).trans (Heap.get?_push_size h₁ hTf)
  have keep1 : ∀ q o, q ≠ L' → q ≠ L → s.heap.get? q = some o → h₁.get? q = some o := fun q o n1 n2 e => (hs₁.2.1 q (by simp [n1, n2])).trans e
  have keep2 : ∀ q o, q ≠ e → h₁.get? q = some o → ((h₁.push oT).update e (Obj.mapFields (·.setIfInBounds 1 (Value.ref h₁.objs.size)))).get? q = some o := fun q o n e' =>
    (Heap.get?_update_other _ _ (Ne.symm n)).trans (Heap.get?_push_of_some _ e')
  obtain ⟨sl1, hL1⟩ := hs₁.2.2 L _ hL
  obtain ⟨sl2, hF1⟩ := hs₁.2.2 L' _ hF
  have hLe : L ≠ e := fun q => by
    rw [q, he] at hL
    have := congrArg Obj.data (Option.some.inj hL)
    exact a.nd _ this.symm
  have hFe : L' ≠ e := fun q => by
    rw [q, he] at hF
    have := congrArg Obj.data (Option.some.inj hF)
    rw [hFd] at this; cases this
  refine k _ h₁.objs.size ⟨⟨⟨_, es, ep, keep2 _ _ hFe hF1, hFd, hFr⟩, fun b o eb => keep2 b o (fun q => by rw [q, heg] at eb; cases eb) (keep1 b o (fun q => by rw [q, hgF] at eb; cases eb) (fun q => by rw [q, a.out] at eb; cases eb) (a.fr.keep b o eb)), a.fr.above⟩, ⟨sl1, keep2 _ _ hLe hL1⟩, a.ne, a.out, a.nd⟩ he₃ ⟨oT, _, hT₃, hTd, by simp⟩ ?_ ?_
  · exact Heap.get?_none_of_le (Nat.le_of_eq hs₁.1.symm)
  · exact fun q o n1 n2 n3 eq => keep2 q o n3 (keep1 q o n1 n2 eq)

theorem fly_none {Q : Unit → Shared → Prop} {v : Value} (a : At g L' L oL m s.heap) (he : s.heap.get? e = some (xo C t (.ref tb) c)) (T : TB s.heap tb v) (hg : g.get? tb = none) (hte : tb ≠ e)
    (k : ∀ h', At g L' L oL m h' → h'.get? e = some (xo C t (.ref tb) c) → TB h' tb .none → (∀ q o, q ≠ tb → s.heap.get? q = some o → h'.get? q = some o) → Q () { s with heap := h' }) :
    wpAny (model prog w) A (setFlight (.ref e) none) Q E s := by
  obtain ⟨o, tvs, h1, h2, h3⟩ := id T
  have hsz : 3 < tvs.size := (Array.getElem?_eq_some_iff.mp h3).1
  refine wpAny_setFlight_none he rfl (tb := tb) rfl h1 h2 hsz ?_
  have kk : ∀ q o, q ≠ tb → s.heap.get? q = some o → (s.heap.update tb (Obj.mapFields (·.setIfInBounds 3 .none))).get? q = some o := fun q o n e => (Heap.get?_update_other _ _ (Ne.symm n)).trans e
  exact k _ (a.but h1 h2 hg kk) (kk _ _ (Ne.symm hte) he) (T.set _) kk
end

section
variable {prog : Program} {w : World} {A₀ : Around} {E : Value → Shared → Prop} {s : Shared} {g : Heap} {L L' al e tb : Addr} {oL : Obj} {m : Str → Option Value} {name : Str} {scope : Scope} {cd : Value} {envC : Env} {t c : Value}
  {b₀ : Stmt} {suite : List Stmt} {pos np : Pos} {Q : Flow → Shared → Prop} {p : Program} {loose : List Str} {mean : ExcName → Option Value} {mg mb : Str → Option Value}

abbrev Catches (prog : Program) (w : World) (A : Around) (env : Env) (hs : List ExceptHandler) (Q : Flow → Shared → Prop) (E : Value → Shared → Prop) (e : Value) (s₁ : Shared) : Prop :=
  wpAny (model prog w) A (noteFrame e env) (fun _ s₂ => wpAny (model prog w) A (setFlight e none) (fun _ s₃ => wpAny (model prog w) A (handleBy e env hs) Q E s₃) E s₂) E s₁

theorem clause (a : At g L' L oL m s.heap) (T : Top p loose mean mg mb g) (t1 : Str.ofString "IndexError" ∉ startupNames) (t2 : Str.ofString "IndexError" ∉ loose) (t3 : Str.ofString "IndexError" ∉ (recsOf p).map (·.name)) (t4 : Str.ofString "IndexError" ∉ (litsOf p).map (·.1)) (t5 : Str.ofString "IndexError" ∉ (clssOf p loose).map (·.name))
    (hk : scope.kind = .function) (hxk : (envOf name scope L' al cd).kindOf "IndexError" = some .globalImplicit)
    (he : s.heap.get? e = some (xo "IndexError" t (.ref tb) c)) (B : TB s.heap tb .none) (hg : g.get? tb = none) (hte : tb ≠ e)
    (k : ∀ h', At g L' L oL m h' → h'.get? e = some (xo "IndexError" t (.ref tb) c) → (∀ q o, q ≠ tb → s.heap.get? q = some o → h'.get? q = some o) →
      wpAny (model prog w) ((A₀.deeper (envOf name scope L' al cd)).mark (some (.ref e))) (execs (b₀ :: suite) (envOf name scope L' al cd)) Q (fun _ _ => False) { s with heap := h' }) :
    wpAny (model prog w) (A₀.deeper (envOf name scope L' al cd)) (handleBy (.ref e) (envOf name scope L' al cd) [.ExceptHandler (some (.Name "IndexError" np)) none (b₀ :: suite) pos]) Q E s := by
  refine wpAny_handleBy_builtin (X := "IndexError") (T := "IndexError") (b := true) (isSubtype_of_subB (by decide +kernel)) (isSubtype_of_subB (by decide +kernel)) (isSubtype_of_subB (by decide +kernel)) ?_
  refine TT.class_top a.fr T t1 t2 t3 t4 t5 (by decide +kernel) ⟨rfl, ⟨_, he, rfl⟩, ?_⟩ (by decide) hk hxk (by decide)
  rw [if_pos rfl]
  refine fly_none a he B hg hte ?_
  intro h' a' he' B' kk
  exact wpAny_noRaise (k h' a' he' kk)

theorem caught_new (hfr : A₀.frames = some [envC]) (hfC : envC.frame = some L) (hkC : envC.scope.kind ≠ .module)
    (a : At g L' L oL m s.heap) (T : Top p loose mean mg mb g) (t1 : Str.ofString "IndexError" ∉ startupNames) (t2 : Str.ofString "IndexError" ∉ loose) (t3 : Str.ofString "IndexError" ∉ (recsOf p).map (·.name)) (t4 : Str.ofString "IndexError" ∉ (litsOf p).map (·.1)) (t5 : Str.ofString "IndexError" ∉ (clssOf p loose).map (·.name))
    (hk : scope.kind = .function) (hxk : (envOf name scope L' al cd).kindOf "IndexError" = some .globalImplicit)
    (he : s.heap.get? e = some (xo "IndexError" t .none c)) (heg : g.get? e = none)
    (k : ∀ h' tb, At g L' L oL m h' → h'.get? e = some (xo "IndexError" t (.ref tb) c) → (∀ q o, q ≠ L' → q ≠ L → q ≠ e → s.heap.get? q = some o → h'.get? q = some o) →
      wpAny (model prog w) ((A₀.deeper (envOf name scope L' al cd)).mark (some (.ref e))) (execs (b₀ :: suite) (envOf name scope L' al cd)) Q (fun _ _ => False) { s with heap := h' }) :
    Catches prog w (A₀.deeper (envOf name scope L' al cd)) (envOf name scope L' al cd) [.ExceptHandler (some (.Name "IndexError" np)) none (b₀ :: suite) pos] Q E (.ref e) s := by
  have hk' : (envOf name scope L' al cd).scope.kind ≠ .module := by
    show scope.kind ≠ .module
    rw [hk]; decide
  refine note_new (Around.frames_deeper hfr) rfl hk' hfC hkC a he heg ?_
  intro h1 tb a1 he1 B1 htb kk1
  have hgt : g.get? tb = none := none_down a.fr.keep htb
  have hte : tb ≠ e := fun q => by rw [q, he] at htb; cases htb
  refine fly_none a1 he1 B1 hgt hte ?_
  intro h2 a2 he2 B2 kk2
  refine clause a2 T t1 t2 t3 t4 t5 hk hxk he2 B2 hgt hte ?_
  intro h3 a3 he3 kk3
  refine k h3 tb a3 he3 fun q o n1 n2 n3 eq => ?_
  have hqt : q ≠ tb := fun z => by rw [z, htb] at eq; cases eq
  exact kk3 q o hqt (kk2 q o hqt (kk1 q o n1 n2 n3 eq))

theorem caught_fly
    (a : At g L' L oL m s.heap) (T : Top p loose mean mg mb g) (t1 : Str.ofString "IndexError" ∉ startupNames) (t2 : Str.ofString "IndexError" ∉ loose) (t3 : Str.ofString "IndexError" ∉ (recsOf p).map (·.name)) (t4 : Str.ofString "IndexError" ∉ (litsOf p).map (·.1)) (t5 : Str.ofString "IndexError" ∉ (clssOf p loose).map (·.name))
    (hk : scope.kind = .function) (hxk : (envOf name scope L' al cd).kindOf "IndexError" = some .globalImplicit)
    (he : s.heap.get? e = some (xo "IndexError" t (.ref tb) c)) (B : TB s.heap tb (rawInt L')) (hg : g.get? tb = none) (hte : tb ≠ e)
    (k : ∀ h', At g L' L oL m h' → h'.get? e = some (xo "IndexError" t (.ref tb) c) → (∀ q o, q ≠ tb → s.heap.get? q = some o → h'.get? q = some o) →
      wpAny (model prog w) ((A₀.deeper (envOf name scope L' al cd)).mark (some (.ref e))) (execs (b₀ :: suite) (envOf name scope L' al cd)) Q (fun _ _ => False) { s with heap := h' }) :
    Catches prog w (A₀.deeper (envOf name scope L' al cd)) (envOf name scope L' al cd) [.ExceptHandler (some (.Name "IndexError" np)) none (b₀ :: suite) pos] Q E (.ref e) s := by
  obtain ⟨o, tvs, h1, h2, h3⟩ := id B
  refine wpAny_noteFrame_inFlight rfl he rfl rfl h1 h2 h3 ?_
  refine fly_none a he B hg hte ?_
  intro h2 a2 he2 B2 kk2
  refine clause a2 T t1 t2 t3 t4 t5 hk hxk he2 B2 hg hte ?_
  intro h3 a3 he3 kk3
  exact k h3 a3 he3 fun q o n eq => kk3 q o n (kk2 q o n eq)

theorem caught_any {f0 : Value} (hfr : A₀.frames = some [envC]) (hfC : envC.frame = some L) (hkC : envC.scope.kind ≠ .module)
    (a : At g L' L oL m s.heap) (T : Top p loose mean mg mb g) (t1 : Str.ofString "IndexError" ∉ startupNames) (t2 : Str.ofString "IndexError" ∉ loose) (t3 : Str.ofString "IndexError" ∉ (recsOf p).map (·.name)) (t4 : Str.ofString "IndexError" ∉ (litsOf p).map (·.1)) (t5 : Str.ofString "IndexError" ∉ (clssOf p loose).map (·.name))
    (hk : scope.kind = .function) (hxk : (envOf name scope L' al cd).kindOf "IndexError" = some .globalImplicit)
    (he : s.heap.get? e = some (xo "IndexError" t f0 c)) (heg : g.get? e = none) (hf0 : f0 = .none ∨ ∃ tb, f0 = .ref tb ∧ TB s.heap tb (rawInt L') ∧ g.get? tb = none ∧ tb ≠ e)
    (k : ∀ h' f, At g L' L oL m h' → h'.get? e = some (xo "IndexError" t f c) → (∀ q o, q ≠ L' → q ≠ L → q ≠ e → f0 ≠ .ref q → s.heap.get? q = some o → h'.get? q = some o) →
      wpAny (model prog w) ((A₀.deeper (envOf name scope L' al cd)).mark (some (.ref e))) (execs (b₀ :: suite) (envOf name scope L' al cd)) Q (fun _ _ => False) { s with heap := h' }) :
    Catches prog w (A₀.deeper (envOf name scope L' al cd)) (envOf name scope L' al cd) [.ExceptHandler (some (.Name "IndexError" np)) none (b₀ :: suite) pos] Q E (.ref e) s := by
  rcases hf0 with rfl | ⟨tb, rfl, B, hg, hte⟩
  · exact caught_new hfr hfC hkC a T t1 t2 t3 t4 t5 hk hxk he heg fun h' tb a' he' kk => k h' _ a' he' fun q o n1 n2 n3 _ eq => kk q o n1 n2 n3 eq
  · exact caught_fly a T t1 t2 t3 t4 t5 hk hxk he B hg hte fun h' a' he' kk => k h' _ a' he' fun q o n1 n2 n3 n4 eq => kk q o (fun z => n4 (by rw [z])) eq

/-- the way of an exception through a finally -/
theorem fin_raised {final : List Stmt} (hfr : A₀.frames = some [envC]) (hfC : envC.frame = some L) (hkC : envC.scope.kind ≠ .module)
    (a : At g L' L oL m s.heap) (hk : scope.kind = .function) (he : s.heap.get? e = some (xo "IndexError" t .none c)) (heg : g.get? e = none)
    (k : ∀ h' tb, At g L' L oL m h' → h'.get? e = some (xo "IndexError" t (.ref tb) c) → TB h' tb .none → s.heap.get? tb = none → (∀ q o, q ≠ L' → q ≠ L → q ≠ e → s.heap.get? q = some o → h'.get? q = some o) →
      wpAny (model prog w) ((A₀.deeper (envOf name scope L' al cd)).mark (some (.ref e))) (execs final (envOf name scope L' al cd))
        (fun gf s₂ => match gf with | .next => wpAny (model prog w) (A₀.deeper (envOf name scope L' al cd)) (PySem.passOn "try.finally" (.ref e) (envOf name scope L' al cd)) Q E s₂ | gf => wpAny (model prog w) (A₀.deeper (envOf name scope L' al cd)) (setFlight (.ref e) none) (fun _ s₃ => Q gf s₃) E s₂)
        (notedBy (model prog w) ((A₀.deeper (envOf name scope L' al cd)).mark (some (.ref e))) (envOf name scope L' al cd) (cameBackBy (model prog w) (A₀.deeper (envOf name scope L' al cd)) (envOf name scope L' al cd) E)) { s with heap := h' }) :
    wpAny (model prog w) (A₀.deeper (envOf name scope L' al cd)) (noteFrame (.ref e) (envOf name scope L' al cd)) (fun _ s₂ => FinallyRaised prog w (A₀.deeper (envOf name scope L' al cd)) E (envOf name scope L' al cd) final Q (.ref e) s₂)
      (FinallyRaised prog w (A₀.deeper (envOf name scope L' al cd)) E (envOf name scope L' al cd) final Q) s := by
  have hk' : (envOf name scope L' al cd).scope.kind ≠ .module := by
    show scope.kind ≠ .module
    rw [hk]; decide
  refine note_new (Around.frames_deeper hfr) rfl hk' hfC hkC a he heg ?_
  intro h1 tb a1 he1 B1 htb kk1
  have hgt : g.get? tb = none := none_down a.fr.keep htb
  have hte : tb ≠ e := fun q => by rw [q, he] at htb; cases htb
  refine ⟨ref_ne_byPass _, ?_⟩
  obtain ⟨o, tvs, g1, g2, g3⟩ := id B1
  refine wpAny_noteFrame_inFlight rfl he1 rfl rfl g1 g2 g3 ?_
  refine fly_none a1 he1 B1 hgt hte ?_
  intro h2 a2 he2 B2 kk2
  refine k h2 tb a2 he2 B2 htb fun q o n1 n2 n3 eq => ?_
  have hqt : q ≠ tb := fun z => by rw [z, htb] at eq; cases eq
  exact kk2 q o hqt (kk1 q o n1 n2 n3 eq)

theorem pass_on {α : Type} {what : String} {v : Value} {Q : α → Shared → Prop} (a : At g L' L oL m s.heap) (he : s.heap.get? e = some (xo "IndexError" t (.ref tb) c)) (B : TB s.heap tb v) (hg : g.get? tb = none) (hte : tb ≠ e)
    (k : ∀ h', At g L' L oL m h' → h'.get? e = some (xo "IndexError" t (.ref tb) c) → TB h' tb (rawInt L') → (∀ q o, q ≠ tb → s.heap.get? q = some o → h'.get? q = some o) → E (.ref e) { s with heap := h' }) :
    wpAny (model prog w) (A₀.deeper (envOf name scope L' al cd)) (PySem.passOn what (.ref e) (envOf name scope L' al cd) : Sem α) Q E s := by
  obtain ⟨o, tvs, h1, h2, h3⟩ := id B
  have hsz : 3 < tvs.size := (Array.getElem?_eq_some_iff.mp h3).1
  unfold PySem.passOn
  refine wpAny_bind (wpAny_field he rfl (x := .ref tb) rfl ?_)
  have q1 : ¬ ((Value.ref tb == Value.none) = true) := by simp
  simp only [q1, if_false]
  refine wpAny_bind ?_
  unfold setFlight
  refine wpAny_bind (wpAny_field he rfl (x := .ref tb) rfl ?_)
  rw [if_pos (show (Value.ref tb != Value.none) = true from by simp)]
  refine wpAny_setField h1 h2 hsz ?_
  have kk : ∀ q o, q ≠ tb → s.heap.get? q = some o → (s.heap.update tb (Obj.mapFields (·.setIfInBounds 3 (rawInt L')))).get? q = some o := fun q o n e => (Heap.get?_update_other _ _ (Ne.symm n)).trans e
  exact wpAny_throw (k _ (a.but h1 h2 hg kk) (kk _ _ (Ne.symm hte) he) (B.set _) kk)
end
end Mine
end

section
theorem Mine.offDzRow : True := by
  w_top off
  trivial
open PySem PySem.W PyProof.Rows PySem.Calls
set_option Elab.async false
namespace Mine

/-- a list of ints, or a range, that holds xs -/
def RowAt (h : Heap) (D : Addr) (xs : List Int) : Prop :=
  (∃ vs n, h.get? D = some (listOf vs.toArray n) ∧ IntsAre vs xs) ∨
  (∃ b st ct t u v, IsRange h D b (b + ct * st) st t u v ∧ 0 < st ∧ st ≤ 1000 ∧ 0 ≤ ct ∧ ct ≤ 12 ∧ Fits b ∧ xs = bagI b st ct 1)
theorem RowAt.keeps {h h' : Heap} {D : Addr} {xs : List Int} (R : RowAt h D xs) (k : ∀ q o, h.get? q = some o → h'.get? q = some o) : RowAt h' D xs := by
  rcases R with ⟨vs, n, h1, h2⟩ | ⟨b, st, ct, t, u, v, h1, h2⟩
  · exact .inl ⟨vs, n, k _ _ h1, h2⟩
  · exact .inr ⟨b, st, ct, t, u, v, k _ _ h1, h2⟩

set_option maxRecDepth 100000 in
set_option maxHeartbeats 8000000 in
theorem row_call {w : World} {A : Around} {s s₀ : Shared} {mg mb : Str → Option Value} {E : Value → Shared → Prop} {Q : Value → Shared → Prop}
  {c : Addr} {b st ct o : Int} {t1 t2 t3 t4 : Tok} {n : Nat}
  (X : (hd.heap_39 w.params).In s.heap) (T : Top hd.view_39 (looseW hd.view_39 []) (ExcName.means s₀.heap) mg mb s.heap) (hA : A.depth ≤ 690) (hh : A.handled = none)
  (hl : s.heap.get? c = some (lad b st ct o t1 t2 t3 t4 n)) (hst : 0 < st) (hst2 : st ≤ 1000) (hct : 0 ≤ ct) (hct2 : ct ≤ 12) (ho : 1 ≤ o) (ho2 : o ≤ 3) (hfit : Fits b)
  (hQ : ∀ D h' tk, (∀ q o, s.heap.get? q = some o → h'.get? q = some o) → s.heap.get? D = none → RowAt h' D (bagI b st ct o) → Q (.ref D) { s with heap := h', toks := tk }) :
  wpAny (model PySem.Challenge.rw_dz0121_01.row.prog w) A (call (.ref 50) [.ref c]) Q E s := by
  revert X; k_fill; intro X
  refine wpAny_call ?_
  refine codeR X T (by k_is) (by k_is) (by show A.depth < 1000; omega) (by exact BindsTo.of_eq rfl) (locs rfl) ?_
  intro h1 F1
  dsimp only at F1
  replace F1 := fr1 (x1 := "ladder") (v1 := .ref c) F1
  have hL : s.heap.IsList c #[.int b t1, .int st t2, .int ct t3, .int o t4] := ⟨_, hl, rfl, _, rfl⟩
  have N1 : News s.heap s.heap.objs.size h1 [] := News.nil
  generalize hL' : s.heap.objs.size = L' at *
  refine wpAny_noRaise ?_
  repeat' (first | (fail_if_success (with_reducible show wpAny _ _ (assign (Expr.Tuple _ _ _) _ _) _ _ _)); first | walk1)
  refine kun_list F1 N1 (hL.at fun o e => F1.keep _ o e) hh rfl rfl ?_
  intro h2 F2 N2
  clear F1 N1
  repeat' (first | (fail_if_success (with_reducible show wpAny _ _ (call (Value.type _) _) _ _ _)); (fail_if_success (with_reducible show wpAny _ _ (call (Value.ref _) _) _ _ _)); first | walk1 | (dsimp only; walk1))
  · rename_i F3 N3 ho1
    subst ho1
    refine call_range_3 (by omega) ?_
    exact hQ _ _ _ (fun q o e => Heap.get?_push_of_some _ (F3.keep q o e)) (none_down F3.keep (Heap.get?_none_of_le (Nat.le_refl _))) (.inr ⟨b, st, ct, _, _, _, Heap.get?_push_size _ rfl, hst, hst2, hct, hct2, hfit, rfl⟩)
  · rename_i F3 N3 ho1
    refine bag_call (s₀ := s₀) (mg := mg) (mb := mb) (X.keeps F3.keep) (T.keeps F3.keep) (by show A.depth + 1 ≤ 700; omega) hh (F3.keep _ _ hl) hst hst2 hct hct2 ho ho2 ?_
    intro D h' tk' vs n' hk hD hg hv
    exact hQ D h' tk' (fun q o e => hk q o (F3.keep q o e)) (none_down F3.keep hD) (.inl ⟨vs, n', hg, hv⟩)
end Mine
end

section
theorem Mine.offDzRowOps : True := by
  w_top off
  trivial
open PySem PySem.W PyProof.Rows PySem.Calls
set_option Elab.async false
namespace Mine

theorem bag1 (b st ct : Int) : bagI b st ct 1 = (List.range ct.toNat).map fun (k : Nat) => b + k * st := by
  unfold bagI flatOf
  rw [List.map_eq_flatMap]
  rfl
theorem rsz {b st ct : Int} (h1 : 0 < st) (h2 : 0 ≤ ct) : Builtin.Range.rangeSize b (b + ct * st) st = ct := by
  unfold Builtin.Range.rangeSize
  rw [if_pos h1]
  by_cases hz : ct = 0
  · subst hz; simp
  · have h3 : 0 < ct * st := Int.mul_pos (by omega) h1
    rw [if_pos (by omega)]
    have e : b + ct * st - b - 1 = (ct - 1) * st + (st - 1) := by
      rw [Int.sub_mul, Int.one_mul]; omega
    rw [e, Int.add_comm ((ct - 1) * st), Int.add_mul_ediv_right _ _ (by omega), Int.ediv_eq_zero_of_lt (by omega) (by omega)]
    omega

section
variable {prog : Program} {w : World} {A : Around} {E : Value → Shared → Prop} {s : Shared} {D : Addr} {xs : List Int} {value slice : PySem.Expr} {u : Tok} {Q : Value → Shared → Prop} {k : Nat}

theorem row_item (R : RowAt s.heap D xs) (hk : k < xs.length) (hl : xs.length ≤ 100) (h : ∀ t tk, Q (.int xs[k] t) { s with toks := tk })
    (hs : subscripted slice false (.ref D) (.int k u) = operate [.ref D, .int k u] (getItem (.ref D) (.int k u)) := by with_unfolding_all rfl) (hg : ∀ r, letTemporaryGo value (.ref D) r = pure () := by intro _; with_unfolding_all rfl) :
    wpAny (model prog w) A (subscriptTail value slice (.ref D) (.int k u)) Q E s := by
  rcases R with ⟨vs, n, h1, h2⟩ | ⟨b, st, ct, t, u', v, h1, h2, h3, h4, h5, h6, rfl⟩
  · have hL : s.heap.IsList D vs.toArray := ⟨_, h1, rfl, _, rfl⟩
    obtain ⟨t, ht⟩ := h2.get k xs[k] (List.getElem?_eq_getElem hk)
    exact subscriptTail_builtin hL.typeIs slot_list_getitem.lookup (wpAny_getItem_list hL (by omega) (by omega) (by simpa using ht) (h t _)) hs hg
  · have hT : s.TypeIs (.ref D) "range" := ⟨_, h1, rfl⟩
    have e : (bagI b st ct 1)[k] = b + k * st := by simp [bag1]
    have hk' : k < ct.toNat := by simpa [bag1] using hk
    refine subscriptTail_builtin hT F.slot_range_getitem.lookup (range_item h1 (by rw [rsz h2 h4]; omega) fun t tk => ?_) hs hg
    rw [← e]
    exact h t tk

theorem row_out (hA : HandOk A s.heap) (R : RowAt s.heap D xs) (hk : xs.length ≤ k) (hl : k ≤ 100) (hE : ∀ h' tk e, NewX "IndexError" s.heap h' e (ctxOf A) → E (.ref e) { s with heap := h', toks := tk })
    (hs : subscripted slice false (.ref D) (.int k u) = operate [.ref D, .int k u] (getItem (.ref D) (.int k u)) := by with_unfolding_all rfl) (hg : ∀ r, letTemporaryGo value (.ref D) r = pure () := by intro _; with_unfolding_all rfl) :
    wpAny (model prog w) A (subscriptTail value slice (.ref D) (.int k u)) Q E s := by
  rcases R with ⟨vs, n, h1, h2⟩ | ⟨b, st, ct, t, u', v, h1, h2, h3, h4, h5, h6, rfl⟩
  · have hL : s.heap.IsList D vs.toArray := ⟨_, h1, rfl, _, rfl⟩
    have hlen := h2.length
    exact subscriptTail_builtin hL.typeIs slot_list_getitem.lookup (list_out hA hL (by simp; omega) (by omega) hE) hs hg
  · have hT : s.TypeIs (.ref D) "range" := ⟨_, h1, rfl⟩
    have hk' : ct.toNat ≤ k := by simpa [bag1] using hk
    exact subscriptTail_builtin hT F.slot_range_getitem.lookup (range_out hA h1 (by rw [rsz h2 h4]; omega) hE) hs hg

/-- a slice of a row -/
def RowS (h : Heap) (D : Addr) (xs : List Int) : Prop :=
  (∃ vs n, h.get? D = some (W.listOf vs.toArray n) ∧ IntsAre vs xs) ∨
  (∃ b e st t u v, ∃ n : Nat, IsRange h D b e st t u v ∧ Builtin.Range.rangeSize b e st = n ∧ n ≤ 100 ∧ xs = (List.range n).map fun (k : Nat) => b + k * st)

theorem row_slice {tk0 : Tok} (R : RowAt s.heap D xs) (hk : k ≤ xs.length) (hl : xs.length ≤ 100)
    (h : ∀ h' tk, RowS h' (s.heap.objs.size + 1) (xs.drop k) → (∀ q o, s.heap.get? q = some o → h'.get? q = some o) → Q (.ref (s.heap.objs.size + 1)) { s with heap := h', toks := tk })
    (hs : subscripted slice false (.ref D) (.ref s.heap.objs.size) = operate [.ref s.heap.objs.size, .ref D] (getItem (.ref D) (.ref s.heap.objs.size)) := by with_unfolding_all rfl)
    (ht : ∀ r, letTemporaryGo value (.ref D) r = pure () := by intro _; with_unfolding_all rfl) :
    wpAny (model prog w) A (subscriptTail value slice (.ref D) (.ref s.heap.objs.size)) Q E { s with heap := s.heap.push { cls := .type "slice", data := .fields #[.int k tk0, .none, .none] } } := by
  have pk : ∀ (o1 o2 : Obj) q o, s.heap.get? q = some o → ((s.heap.push o1).push o2).get? q = some o := fun o1 o2 q o e => Heap.get?_push_of_some _ (Heap.get?_push_of_some _ e)
  rcases R with ⟨vs, n, h1, h2⟩ | ⟨b, st, ct, t, u', v, h1, h2, h3, h4, h5, h6, rfl⟩
  · have hL : s.heap.IsList D vs.toArray := ⟨_, h1, rfl, _, rfl⟩
    have hlen := h2.length
    refine subscriptTail_ops (Heap.IsList.typeIs (s := { s with heap := s.heap.push { cls := .type "slice", data := .fields #[.int k tk0, .none, .none] } }) (hL.push _)) list_getitem_lookup
      (wpAny_getItem_list_slice (hL.push _) (Heap.IsSliceOf.new ..) (.int k tk0) .none .none (by simp) ?_ (by rw [sizeLine_eq]; simp; omega)) hs ht
    show Q (.ref (s.heap.push _).objs.size) _
    rw [Heap.size_push]
    refine h _ _ (.inl ⟨vs.drop k, 0, ?_, h2.drop k⟩) (pk _ _)
    have := slicePick_from' vs.toArray k
    rw [this]
    have e := Heap.get?_push_size (s.heap.push { cls := .type "slice", data := .fields #[.int k tk0, .none, .none] }) (o := { cls := .type "list", data := .seq (List.drop k vs.toArray.toList).toArray }) rfl
    rw [Heap.size_push] at e
    exact e
  · have hT : s.TypeIs (.ref D) "range" := ⟨_, h1, rfl⟩
    have hk' : k ≤ ct.toNat := by simpa [bag1] using hk
    have hT' : ({ s with heap := s.heap.push { cls := .type "slice", data := .fields #[.int k tk0, .none, .none] } } : Shared).TypeIs (.ref D) "range" := ⟨_, Heap.get?_push_of_some _ h1, rfl⟩
    have hz := rsz (b := b) h2 h4
    refine subscriptTail_ops hT' F.slot_range_getitem.lookup (range_slice (tk := tk0) (k := k) (Heap.get?_push_of_some _ h1) (Heap.IsSliceOf.new ..) h6 h2 h3 (by rw [hz]; omega) (by rw [hz]; omega) (by rw [hz]; omega) ?_) hs ht
    intro t1 t2 t3 tk
    show Q (.ref (s.heap.push _).objs.size) _
    rw [Heap.size_push, hz]
    refine h _ _ (.inr ⟨b + k * st, b + ct * st, st, t1, t2, t3, ct.toNat - k, ?_, ?_, by omega, ?_⟩) (pk _ _)
    · have e := Heap.get?_push_size (s.heap.push { cls := .type "slice", data := .fields #[.int k tk0, .none, .none] }) (o := { cls := .type "range", data := .fields #[.int (b + k * st) t1, .int (b + ct * st) t2, .int st t3] }) rfl
      rw [Heap.size_push] at e
      exact e
    · have := rsz (b := b + k * st) (ct := ct - k) h2 (by omega)
      have e : b + k * st + (ct - k) * st = b + ct * st := by rw [Int.sub_mul]; omega
      rw [e] at this
      rw [this]; omega
    · rw [bag1]
      apply List.ext_getElem
      · simp
      · intro i i1 i2
        simp only [List.getElem_drop, List.getElem_map, List.getElem_range]
        push_cast
        rw [Int.add_mul, Int.add_assoc]

theorem row_extend {S : Addr} {us : List Value} {n0 : Nat} (hA : HandOk A s.heap) (R : RowS s.heap D xs) (hl : xs.length ≤ 100) (hS : s.heap.get? S = some (W.listOf us.toArray n0)) (hu : us.length ≤ 1000)
    (h : ∀ h' tk zs c', (∀ q o, q ≠ S → s.heap.get? q = some o → h'.get? q = some o) → h'.get? S = some (W.listOf (us ++ zs).toArray c') → IntsAre zs xs → Q .none { s with heap := h', toks := tk }) :
    wpAny (model prog w) A (call (.builtin "list.extend") [.ref S, .ref D]) Q E s := by
  rcases R with ⟨vs, n, h1, h2⟩ | ⟨b, e, st, t, u', v, n, h1, h2, h3, rfl⟩
  · have hlen := h2.length
    have hsz' : us.toArray.size + vs.toArray.size ≤ sizeLine := by rw [sizeLine_eq]; simp; omega
    refine call_meets PySem.F.slot_list_extend ⟨_, hS, rfl⟩ PySem.F.entry_list_extend (PySem.F.args_list_extend_2 _ _) (AutoSeq1.list_extend_list_list_0 S us.toArray n0 D vs.toArray n (extend_door hsz') (Nat.le_trans (Nat.le_add_right _ _) hsz')) ⟨hS, h1, ?_⟩
    have hu2 := Heap.get?_update_self (Obj.mapSeq (· ++ vs.toArray)) hS rfl
    have : ∃ c', (s.heap.update S (Obj.mapSeq (· ++ vs.toArray))).get? S = some (W.listOf (us ++ vs).toArray c') := by
      rw [hu2]
      simp [Obj.mapSeq, W.listOf]
    obtain ⟨c', hc'⟩ := this
    exact h _ _ vs c' (fun q o n e => (Heap.get?_update_other _ _ (Ne.symm n)).trans e) hc' h2
  · exact extend_range hA h1 h2 (by omega) hS hu h
end
end Mine
end

section
theorem Mine.offDzOff : True := by
  w_top off
  trivial
open PySem PySem.W PyProof.Rows PySem.Calls
set_option Elab.async false
namespace Mine

/-- the pieces that a loop over a ladder's rungs has told behind n turns -/
def pieces (g : Int → List Int) (b st : Int) (n : Nat) : List Int := (List.range n).flatMap fun (k : Nat) => g (b + (k : Int) * st)
theorem pieces_succ (g : Int → List Int) (b st : Int) (n : Nat) : pieces g b st (n + 1) = pieces g b st n ++ g (b + (n : Int) * st) := by
  simp [pieces, List.range_succ]
theorem pieces_length (g : Int → List Int) (b st : Int) (hg : ∀ x, (g x).length ≤ 3) (n : Nat) : (pieces g b st n).length ≤ 3 * n := by
  induction n with
  | zero => simp [pieces]
  | succ n ih => rw [pieces_succ, List.length_append]; have := hg (b + (n : Int) * st); omega
def offG (o b' st' ct' b2 st2 ct2 x : Int) : List Int := if onB b' st' ct' x then [] else List.replicate (if 0 < ct2 ∧ x < b2 + (ct2 - 1) * st2 then 1 else o.toNat) x

theorem ints_rep (x : Int) (t : Tok) : ∀ n : Nat, IntsAre (List.replicate n [Value.int x t]).flatten (List.replicate n x)
  | 0 => .nil
  | n + 1 => by
    rw [List.replicate_succ, List.flatten_cons, List.replicate_succ]
    exact .cons _ _ (ints_rep x t n)

local macro_rules | `(tactic| walk_at "subscriptTail Name Constant ref int") => `(tactic| (k_here; (with_reducible show wpAny _ _ (subscriptTail _ _ (Value.ref _) (Value.int _ _)) _ _ _); (with_unfolding_all refine' item_litK ?k1 ?k2 ?k3 ?k4 ?_ ?k6; (case k1 => is_list); (case k2 => decide); (case k3 => decide); (case k4 => rfl); (case k6 => with_unfolding_all rfl); k_whole)))

structure OSt where
  ws : List Value
  zs : List Int
  n : Nat

theorem told_end {d L : Addr} {h₀ h' : Heap} {m' m₀ : Str → Option Value} {own : List (Addr × Obj)} {p1 p2 : Addr × Obj} {ws : List Value} {zs : List Int} {n9 : Nat} {stored : List Str} {P : List Int → OSt → Prop} {pre : List Int} {s₁ : Shared} {tk : Nat} {x : Str} {ps : OSt → List (Str × Value)}
    (F : Fr h₀ L h' m') (N : News h₀ L h' (p1 :: p2 :: (d, listOf ws.toArray n9) :: own)) (hi : IntsAre ws zs) (hk : ∀ p ∈ ps ⟨ws, zs, n9⟩, m' p.1 = some p.2)
    (hr : ∀ z, z ≠ x → (∀ p ∈ ps ⟨ws, zs, n9⟩, z ≠ p.1) → stored.contains z = false → m' z = m₀ z) (hp : P pre ⟨ws, zs, n9⟩) :
    InvEndN h₀ L (KstS (fun z => [(d, listOf z.ws.toArray z.n)]) ps (fun z => IntsAre z.ws z.zs) x stored m₀ P pre) own [d] s₁ { s₁ with heap := h', toks := tk } :=
  kst_end ⟨ws, zs, n9⟩ F N (fun p hp => by
    simp only [List.mem_cons, List.not_mem_nil, or_false] at hp
    subst hp
    exact List.mem_cons_of_mem _ (List.mem_cons_of_mem _ List.mem_cons_self)) (fun p hp => List.mem_cons_of_mem _ (List.mem_cons_of_mem _ (List.mem_cons_of_mem _ hp))) rfl hi hk hr hp

set_option maxRecDepth 100000 in
set_option maxHeartbeats 8000000 in
theorem off_call {w : World} {A : Around} {s s₀ : Shared} {mg mb : Str → Option Value} {E : Value → Shared → Prop} {Q : Value → Shared → Prop}
  {c1 c2 c3 : Addr} {b st ct o b' st' ct' o' b2 st2 ct2 o2 : Int} {t1 t2 t3 t4 t1' t2' t3' t4' t12 t22 t32 t42 : Tok} {n n' n2 : Nat}
  (X : (hd.heap_39 w.params).In s.heap) (T : Top hd.view_39 (looseW hd.view_39 []) (ExcName.means s₀.heap) mg mb s.heap) (hA : A.depth ≤ 690) (hh : A.handled = none)
  (hl : s.heap.get? c1 = some (lad b st ct o t1 t2 t3 t4 n)) (hl' : s.heap.get? c2 = some (lad b' st' ct' o' t1' t2' t3' t4' n')) (hl2 : s.heap.get? c3 = some (lad b2 st2 ct2 o2 t12 t22 t32 t42 n2))
  (hst : 0 < st) (hst2 : st ≤ 1000) (hct : 0 ≤ ct) (hct2 : ct ≤ 12) (ho : 1 ≤ o) (ho2 : o ≤ 3) (hst' : 0 < st') (hst2' : st' ≤ 1000) (hs2 : 0 < st2) (hs22 : st2 ≤ 1000) (hc2 : 0 ≤ ct2) (hc22 : ct2 ≤ 12)
  (hQ : ∀ D h' tk vs n, (∀ q o, s.heap.get? q = some o → h'.get? q = some o) → s.heap.get? D = none → h'.get? D = some (listOf vs.toArray n) → IntsAre vs (pieces (offG o b' st' ct' b2 st2 ct2) b st ct.toNat) → Q (.ref D) { s with heap := h', toks := tk }) :
  wpAny (model PySem.Challenge.rw_dz0121_01.row.prog w) A (call (.ref 64) [.ref c1, .ref c2, .ref c3]) Q E s := by
  revert X; k_fill; intro X
  refine wpAny_call ?_
  refine codeR X T (by k_is) (by k_is) (by show A.depth < 1000; omega) (by exact BindsTo.of_eq rfl) (locs rfl) ?_
  intro h1 F1
  dsimp only at F1
  replace F1 := fr3 (x1 := "mine") (v1 := .ref c1) (x2 := "common") (v2 := .ref c2) (x3 := "other") (v3 := .ref c3) F1
  have hL : s.heap.IsList c1 [.int b t1, .int st t2, .int ct t3, .int o t4].toArray := ⟨_, hl, rfl, _, rfl⟩
  have hL3 : s.heap.IsList c3 [.int b2 t12, .int st2 t22, .int ct2 t32, .int o2 t42].toArray := ⟨_, hl2, rfl, _, rfl⟩
  have N1 : News s.heap s.heap.objs.size h1 [] := News.nil
  generalize hL' : s.heap.objs.size = L' at *
  refine wpAny_noRaise ?_
  repeat' (first | (fail_if_success (with_reducible show wpAny _ _ (pyIter _) _ _ _)); first | walk1 | (dsimp only; walk1))
  rename_i d _ _ _ _ _ h3 tk3 _ _ _ R3 F3 N3 _
  refine kst_range (σ := OSt) (n := ct.toNat) (fun z => [(d, listOf z.ws.toArray z.n)]) (fun z => [("told", .ref d), ("other", .ref c3), ("common", .ref c2), ("mine", .ref c1)])
    (fun z => IntsAre z.ws z.zs) ["x", "above"] (fun pre z => z.zs = pieces (offG o b' st' ct' b2 st2 ct2) b st pre.length) ⟨[], [], 0⟩ hh R3 ?hsm ?hsz F3 N3 .nil ?hk rfl ?turn ?done
  case hsm =>
    have := small01 (n := ct.toNat) (by omega)
    rw [Int.toNat_of_nonneg hct] at this
    exact this
  case hsz =>
    show Builtin.Range.rangeSize 0 ct 1 = (ct.toNat : Int)
    unfold Builtin.Range.rangeSize
    simp
    omega
  case hk =>
    intro p hp
    simp only [List.mem_cons, List.not_mem_nil, or_false] at hp
    rcases hp with rfl | rfl | rfl | rfl <;> rfl
  case turn =>
    intro z pre k t u h tk own hk0 hlt hoff hf hp F4 N4
    simp only [List.cons_append, List.nil_append] at N4
    repeat' (first | (fail_if_success (with_reducible show wpAny _ _ (call (Value.ref _) _) _ _ _)); first | walk1 | (dsimp only; walk1))
    rename_i _ F5 N5
    have ek : k = (pre.length : Int) := by omega
    refine on_call (s₀ := s₀) (mg := mg) (mb := mb) (X.keeps F5.keep) (T.keeps F5.keep) (by show A.depth + 1 ≤ 700; omega) hh (F5.keep _ _ hl') hst' hst2' ?_
    intro h6 tk6 k6
    have F6 := frUp F5 k6
    have N6 := newsUp N5 k6
    clear F5 N5 F4 N4
    generalize hx0 : b + k * st = x at *
    have hx : x = b + (pre.length : Int) * st := by rw [← hx0, ek]
    have hlen : z.zs.length ≤ 36 := by
      rw [hp]
      have h3 : ∀ y, (offG o b' st' ct' b2 st2 ct2 y).length ≤ 3 := by
        intro y; unfold offG
        split
        · simp
        · rw [List.length_replicate]; split <;> omega
      have := pieces_length (offG o b' st' ct' b2 st2 ct2) b st h3 pre.length
      omega
    have hlw := hf.length
    by_cases hon : onB b' st' ct' x = true
    · rw [hon]
      repeat' (first | walk1 | (dsimp only; walk1))
      refine kst_end z F6 N6 (fun p hp => ?_) (fun p hp => List.mem_cons_of_mem _ hp) rfl hf ?_ ?_ ?_
      · simp only [List.mem_cons, List.not_mem_nil, or_false] at hp
        subst hp
        exact List.mem_cons_self
      · intro p hp
        simp only [List.mem_cons, List.not_mem_nil, or_false] at hp
        rcases hp with rfl | rfl | rfl | rfl <;> rfl
      · intro y hyk hy hst
        have h1 : y ≠ "x" := by
          intro e; subst e; exact absurd hst (by decide)
        simp only [if_neg h1, if_neg hyk]
        rw [kstB_of_ne (fun p hp => hy p hp)]
        simp only [hst, Bool.false_eq_true, if_false]
      · show z.zs = pieces _ b st (pre ++ [k]).length
        rw [List.length_append, List.length_singleton, pieces_succ, ← hx, hp]
        simp [offG, hon]
    · rw [Bool.eq_false_iff.mpr hon]
      repeat' (first | (fail_if_success (with_reducible show wpAny _ _ (binaryOp Operator.Mult (Value.ref _) _) _ _ _)); first | walk1 | (dsimp only; walk1))
      all_goals (with_reducible rename Fr _ _ _ _ => F7)
      all_goals (with_reducible rename News _ _ _ _ => N7)
      all_goals (with_reducible rename _ ∧ AllLt _ _ => l7)
      all_goals refine KMa.mul F7 N7 (vs := [.int x _]) ⟨_, (N7 _ (.head _)).1, rfl, _, rfl⟩ (by omega) (by omega) (by first | (simp; done) | (simp; omega)) rfl ?_
      all_goals intro D8 h8 F8 N8 l8
      all_goals k_lt l8
      all_goals clear F7 N7
      all_goals repeat' (first | (fail_if_success (with_reducible show wpAny _ _ (call (Value.builtin _) _) _ _ _)); first | walk1 | (dsimp only; walk1))
      all_goals refine extend_in (own := _ :: _ :: []) F8 N8 (apart2 (neN (by dsimp only; omega)) (neN (by dsimp only; omega))) (OwnOff.ne hoff (by simp)) (N8 _ (.head _)).1 ?_ (by rw [sizeLine_eq, List.size_toArray, (ints_rep x _ _).length, List.length_replicate]; omega)
      all_goals intro h9 n9 F9 N9
      all_goals simp only [List.cons_append, List.nil_append] at N9
      all_goals clear F8 N8
      all_goals repeat' (first | walk1 | (dsimp only; walk1))
      all_goals refine told_end F9 N9 (hf.append (ints_rep x _ _)) ?_ ?_ ?_
      all_goals first
        | (intro p hp; simp only [List.mem_cons, List.not_mem_nil, or_false] at hp; rcases hp with rfl | rfl | rfl | rfl <;> rfl)
        | (intro y hyk hy hst
           have h1 : y ≠ "x" := by
             intro e; subst e; exact absurd hst (by decide)
           have h2 : y ≠ "above" := by
             intro e; subst e; exact absurd hst (by decide)
           simp only [if_neg h1, if_neg h2, if_neg hyk]
           rw [kstB_of_ne (fun p hp => hy p hp)]
           simp only [hst, Bool.false_eq_true, if_false])
        | (show _ = pieces _ b st (pre ++ [k]).length
           rw [List.length_append, List.length_singleton, pieces_succ, ← hx, hp]
           unfold offG
           rw [if_neg hon]
           first
             | (rw [if_pos ⟨by assumption, by assumption⟩]; rfl)
             | rw [if_neg (fun h => absurd h.2 (by assumption))]
             | rw [if_neg (fun h => absurd h.1 (by assumption))])
  case done =>
    intro z u h tk hf hp F4 N4
    dsimp only
    repeat' (first | walk1 | (dsimp only; walk1))
    rw [rangeKs_length] at hp
    show Q (.ref d) _
    exact hQ d h _ z.ws z.n F4.keep (N4 _ (.head _)).2.2 (N4 _ (.head _)).1 (hp ▸ hf)
end Mine
end

section
theorem Mine.offDzMore : True := by
  w_top off
  trivial
open PySem PySem.W PyProof.Rows PySem.Calls
set_option Elab.async false
namespace Mine

def moreG (o o2 b' st' ct' x : Int) : List Int := List.replicate (if onB b' st' ct' x then (max 0 (o - o2)).toNat else o.toNat) x

local macro_rules | `(tactic| walk_at "subscriptTail Name Constant ref int") => `(tactic| (k_here; (with_reducible show wpAny _ _ (subscriptTail _ _ (Value.ref _) (Value.int _ _)) _ _ _); (with_unfolding_all refine' item_litK ?k1 ?k2 ?k3 ?k4 ?_ ?k6; (case k1 => is_list); (case k2 => decide); (case k3 => decide); (case k4 => rfl); (case k6 => with_unfolding_all rfl); k_whole)))

set_option maxRecDepth 100000 in
set_option maxHeartbeats 8000000 in
theorem more_call {w : World} {A : Around} {s s₀ : Shared} {mg mb : Str → Option Value} {E : Value → Shared → Prop} {Q : Value → Shared → Prop}
  {c1 c2 c3 : Addr} {b st ct o b' st' ct' o' b2 st2 ct2 o2 : Int} {t1 t2 t3 t4 t1' t2' t3' t4' t12 t22 t32 t42 : Tok} {n n' n2 : Nat}
  (X : (hd.heap_39 w.params).In s.heap) (T : Top hd.view_39 (looseW hd.view_39 []) (ExcName.means s₀.heap) mg mb s.heap) (hA : A.depth ≤ 690) (hh : A.handled = none)
  (hl : s.heap.get? c1 = some (lad b st ct o t1 t2 t3 t4 n)) (hl' : s.heap.get? c2 = some (lad b' st' ct' o' t1' t2' t3' t4' n')) (hl2 : s.heap.get? c3 = some (lad b2 st2 ct2 o2 t12 t22 t32 t42 n2))
  (hst : 0 < st) (hst2 : st ≤ 1000) (hct : 0 ≤ ct) (hct2 : ct ≤ 12) (ho : 1 ≤ o) (ho2 : o ≤ 3) (hst' : 0 < st') (hst2' : st' ≤ 1000) (ho3 : 1 ≤ o2) (ho4 : o2 ≤ 3)
  (hQ : ∀ D h' tk vs n, (∀ q o, s.heap.get? q = some o → h'.get? q = some o) → s.heap.get? D = none → h'.get? D = some (listOf vs.toArray n) → IntsAre vs (pieces (moreG o o2 b' st' ct') b st ct.toNat) → Q (.ref D) { s with heap := h', toks := tk }) :
  wpAny (model PySem.Challenge.rw_dz0121_01.row.prog w) A (call (.ref 71) [.ref c1, .ref c2, .ref c3]) Q E s := by
  revert X; k_fill; intro X
  refine wpAny_call ?_
  refine codeR X T (by k_is) (by k_is) (by show A.depth < 1000; omega) (by exact BindsTo.of_eq rfl) (locs rfl) ?_
  intro h1 F1
  dsimp only at F1
  replace F1 := fr3 (x1 := "mine") (v1 := .ref c1) (x2 := "common") (v2 := .ref c2) (x3 := "other") (v3 := .ref c3) F1
  have hL : s.heap.IsList c1 [.int b t1, .int st t2, .int ct t3, .int o t4].toArray := ⟨_, hl, rfl, _, rfl⟩
  have hL3 : s.heap.IsList c3 [.int b2 t12, .int st2 t22, .int ct2 t32, .int o2 t42].toArray := ⟨_, hl2, rfl, _, rfl⟩
  have N1 : News s.heap s.heap.objs.size h1 [] := News.nil
  generalize hL' : s.heap.objs.size = L' at *
  refine wpAny_noRaise ?_
  repeat' (first | (fail_if_success (with_reducible show wpAny _ _ (pyIter _) _ _ _)); first | walk1 | (dsimp only; walk1))
  rename_i d _ _ _ _ _ h3 tk3 _ _ _ R3 F3 N3 _
  refine kst_range (σ := OSt) (n := ct.toNat) (fun z => [(d, listOf z.ws.toArray z.n)]) (fun z => [("told", .ref d), ("other", .ref c3), ("common", .ref c2), ("mine", .ref c1)])
    (fun z => IntsAre z.ws z.zs) ["x"] (fun pre z => z.zs = pieces (moreG o o2 b' st' ct') b st pre.length) ⟨[], [], 0⟩ hh R3 ?hsm ?hsz F3 N3 .nil ?hk rfl ?turn ?done
  case hsm =>
    have := small01 (n := ct.toNat) (by omega)
    rw [Int.toNat_of_nonneg hct] at this
    exact this
  case hsz =>
    show Builtin.Range.rangeSize 0 ct 1 = (ct.toNat : Int)
    unfold Builtin.Range.rangeSize
    simp
    omega
  case hk =>
    intro p hp
    simp only [List.mem_cons, List.not_mem_nil, or_false] at hp
    rcases hp with rfl | rfl | rfl | rfl <;> rfl
  case turn =>
    intro z pre k t u h tk own hk0 hlt hoff hf hp F4 N4
    simp only [List.cons_append, List.nil_append] at N4
    repeat' (first | (fail_if_success (with_reducible show wpAny _ _ (call (Value.ref _) _) _ _ _)); first | walk1 | (dsimp only; walk1))
    rename_i F5 N5 l5
    have ek : k = (pre.length : Int) := by omega
    refine on_call (s₀ := s₀) (mg := mg) (mb := mb) (X.keeps F5.keep) (T.keeps F5.keep) (by show A.depth + 1 ≤ 700; omega) hh (F5.keep _ _ hl') hst' hst2' ?_
    intro h6 tk6 k6
    have F6 := frUp F5 k6
    have N6 := newsUp N5 k6
    clear F5 N5 F4 N4
    generalize hx0 : b + k * st = x at *
    have hx : x = b + (pre.length : Int) * st := by rw [← hx0, ek]
    have hlen : z.zs.length ≤ 36 := by
      rw [hp]
      have h3 : ∀ y, (moreG o o2 b' st' ct' y).length ≤ 3 := by
        intro y; unfold moreG
        rw [List.length_replicate]; split <;> omega
      have := pieces_length (moreG o o2 b' st' ct') b st h3 pre.length
      omega
    have hlw := hf.length
    have key : ∃ y : Int, 0 ≤ y ∧ y ≤ 3 ∧ moreG o o2 b' st' ct' x = List.replicate y.toNat x ∧ (onB b' st' ct' x = true → y = if o - o2 > 0 then o - o2 else 0) ∧ (¬ onB b' st' ct' x = true → y = o) := by
      by_cases hon : onB b' st' ct' x = true
      · refine ⟨if o - o2 > 0 then o - o2 else 0, by split <;> omega, by split <;> omega, ?_, fun _ => rfl, fun h => absurd hon h⟩
        unfold moreG
        rw [if_pos hon]
        congr 1
        split <;> omega
      · refine ⟨o, by omega, by omega, ?_, fun h => absurd h hon, fun _ => rfl⟩
        unfold moreG
        rw [if_neg hon]
    obtain ⟨y, y0, y3, ey, e1, e2⟩ := key
    by_cases hon : onB b' st' ct' x = true
    · rw [hon]
      have e1' := e1 hon
      repeat' (first | (fail_if_success (with_reducible show wpAny _ _ (call (Value.builtin "max") _) _ _ _)); first | walk1 | (dsimp only; walk1))
      refine max_two_N hh F6 N6 ?_
      intro h65 tk65 F65 N65
      clear F6 N6
      rw [← e1']
      refine KMa.mul F65 N65 (vs := [.int x _]) ⟨_, (N65 _ (.head _)).1, rfl, _, rfl⟩ (by omega) (by omega) (by simp; omega) rfl ?_
      intro D8 h8 F8 N8 l8
      k_lt l8
      clear F65 N65
      repeat' (first | (fail_if_success (with_reducible show wpAny _ _ (call (Value.builtin _) _) _ _ _)); first | walk1 | (dsimp only; walk1))
      refine extend_in (own := _ :: _ :: []) F8 N8 (apart2 (neN (by dsimp only; omega)) (neN (by dsimp only; omega))) (OwnOff.ne hoff (by simp)) (N8 _ (.head _)).1 ?_ (by rw [sizeLine_eq, List.size_toArray, (ints_rep x _ _).length, List.length_replicate]; omega)
      intro h9 n9 F9 N9
      simp only [List.cons_append, List.nil_append] at N9
      clear F8 N8
      repeat' (first | walk1 | (dsimp only; walk1))
      refine told_end F9 N9 (hf.append (ints_rep x _ _)) ?_ ?_ ?_
      · intro p hp; simp only [List.mem_cons, List.not_mem_nil, or_false] at hp; rcases hp with rfl | rfl | rfl | rfl <;> rfl
      · intro y hyk hy hst
        have h1 : y ≠ "x" := by
          intro e; subst e; exact absurd hst (by decide)
        simp only [if_neg h1, if_neg hyk]
        rw [kstB_of_ne (fun p hp => hy p hp)]
        simp only [hst, Bool.false_eq_true, if_false]
      · show _ = pieces _ b st (pre ++ [k]).length
        rw [List.length_append, List.length_singleton, pieces_succ, ← hx, hp, ey]
    · rw [Bool.eq_false_iff.mpr hon]
      have e2' := e2 hon
      subst e2'
      repeat' (first | (fail_if_success (with_reducible show wpAny _ _ (binaryOp Operator.Mult (Value.ref _) _) _ _ _)); first | walk1 | (dsimp only; walk1))
      refine KMa.mul F6 N6 (vs := [.int x _]) ⟨_, (N6 _ (.head _)).1, rfl, _, rfl⟩ (by omega) (by omega) (by simp; omega) rfl ?_
      intro D8 h8 F8 N8 l8
      k_lt l8
      clear F6 N6
      repeat' (first | (fail_if_success (with_reducible show wpAny _ _ (call (Value.builtin _) _) _ _ _)); first | walk1 | (dsimp only; walk1))
      refine extend_in (own := _ :: _ :: []) F8 N8 (apart2 (neN (by dsimp only; omega)) (neN (by dsimp only; omega))) (OwnOff.ne hoff (by simp)) (N8 _ (.head _)).1 ?_ (by rw [sizeLine_eq, List.size_toArray, (ints_rep x _ _).length, List.length_replicate]; omega)
      intro h9 n9 F9 N9
      simp only [List.cons_append, List.nil_append] at N9
      clear F8 N8
      repeat' (first | walk1 | (dsimp only; walk1))
      refine told_end F9 N9 (hf.append (ints_rep x _ _)) ?_ ?_ ?_
      · intro p hp; simp only [List.mem_cons, List.not_mem_nil, or_false] at hp; rcases hp with rfl | rfl | rfl | rfl <;> rfl
      · intro y hyk hy hst
        have h1 : y ≠ "x" := by
          intro e; subst e; exact absurd hst (by decide)
        simp only [if_neg h1, if_neg hyk]
        rw [kstB_of_ne (fun p hp => hy p hp)]
        simp only [hst, Bool.false_eq_true, if_false]
      · show _ = pieces _ b st (pre ++ [k]).length
        rw [List.length_append, List.length_singleton, pieces_succ, ← hx, hp, ey]
  case done =>
    intro z u h tk hf hp F4 N4
    dsimp only
    repeat' (first | walk1 | (dsimp only; walk1))
    rw [rangeKs_length] at hp
    show Q (.ref d) _
    exact hQ d h _ z.ws z.n F4.keep (N4 _ (.head _)).2.2 (N4 _ (.head _)).1 (hp ▸ hf)
end Mine
end

section
theorem Mine.offDzFilter : True := by
  w_top off
  trivial
open PySem PySem.W PyProof.Rows PySem.Calls
set_option Elab.async false
namespace Mine
set_option maxRecDepth 100000

def intsFrom (a : Int) (n : Nat) : List Int := (List.range n).map fun (j : Nat) => a + (j : Int)
def pV (pz : Int → Bool) (v : Value) : Bool := match v with | .int k _ => pz k | _ => false
def sameI (v y : Value) : Prop := ∃ k t t', v = .int k t ∧ y = .int k t'

theorem intsFrom_succ (a : Int) (n : Nat) : intsFrom a (n + 1) = a :: intsFrom (a + 1) n := by
  unfold intsFrom
  rw [List.range_succ_eq_map, List.map_cons, List.map_map]
  congr 1
  · simp
  · apply List.map_congr_left
    intro j _
    show a + ((j + 1 : Nat) : Int) = a + 1 + (j : Int)
    push_cast
    omega

theorem ints_of_places : ∀ (vs : List Value) (a : Int), (∀ (j : Nat) (v : Value), vs[j]? = some v → ∃ t, v = .int (a + (j : Nat)) t) → IntsAre vs (intsFrom a vs.length)
  | [], _, _ => .nil
  | v :: vs, a, h => by
    obtain ⟨t, e⟩ := h 0 v rfl
    have ih := ints_of_places vs (a + 1) (fun j v' hj => by
      obtain ⟨t', e'⟩ := h (j + 1) v' (by simpa using hj)
      exact ⟨t', by rw [e']; congr 1; push_cast; omega⟩)
    rw [List.length_cons, intsFrom_succ, e]
    have e0 : a + ((0 : Nat) : Int) = a := by simp
    rw [e0]
    exact .cons _ _ ih

theorem ints_filter (pz : Int → Bool) {vs : List Value} {ns : List Int} (h : IntsAre vs ns) : IntsAre (vs.filter (pV pz)) (ns.filter pz) := by
  induction h with
  | nil => exact .nil
  | cons k t r ih =>
    rename_i vs ns
    cases hp : pz k with
    | true =>
      rw [List.filter_cons_of_pos (by simpa [pV] using hp), List.filter_cons_of_pos hp]
      exact .cons _ _ ih
    | false =>
      rw [List.filter_cons_of_neg (by simp [pV, hp]), List.filter_cons_of_neg (by simp [hp])]
      exact ih
theorem ints_paired {vs ys : List Value} {ns : List Int} (h : IntsAre vs ns) (hp : Paired sameI vs ys) : IntsAre ys ns := by
  induction h generalizing ys with
  | nil => cases hp; exact .nil
  | cons k t r ih =>
    cases hp with
    | cons hf hr =>
      obtain ⟨k', t1, t2, e1, e2⟩ := hf
      cases e1
      rw [e2]
      exact .cons _ _ (ih hr)

theorem rsize (a : Int) (n : Nat) : Builtin.Range.rangeSize a (a + n) 1 = n := by
  unfold Builtin.Range.rangeSize
  simp
  omega

theorem smallA {a : Int} {n : Nat} (h0 : 0 ≤ a) (h1 : a ≤ 1000) (hn : n ≤ 1000) : Builtin.Range.small a (a + n) 1 = true := by
  unfold Builtin.Range.small
  rw [rsize]
  unfold Builtin.Range.rangeFitsLong
  simp
  omega

section
variable {prog : Program} {w : World} {A : Around} {s : Shared} {elt iter c : Expr} {x y : Str} {px py : Pos} {scope : Scope} {pos spos : Pos} {env : Env} {cl : List (Str × Addr)} {n : Nat} {a₀ : Int}

/-- what the comprehension over a range asks of its parts -/
structure CompAsk (prog : Program) (w : World) (A : Around) (s : Shared) (env : Env) (elt iter c : Expr) (x : Str) (scope : Scope) (cl : List (Str × Addr)) (a₀ : Int) (n : Nat) (pz : Int → Bool) : Prop where
  it : ∀ (Q' : Value → Shared → Prop) E', (∀ r h' tk t u v, (∀ b o, s.heap.get? b = some o → h'.get? b = some o) → IsRange h' r a₀ (a₀ + n) 1 t u v → Q' (.ref r) { s with heap := h', toks := tk }) → wpAny (model prog w) A (eval iter env) Q' E' s
  test : ∀ C s₃ m k t (Q' : Bool → Shared → Prop) E', s₃.heap.Ns C m → m x = some (.int k t) → (∀ b o, s.heap.get? b = some o → s₃.heap.get? b = some o) → a₀ ≤ k → k < a₀ + n → (∀ h' tk', (∀ b o, s₃.heap.get? b = some o → h'.get? b = some o) → Q' (pz k) { s₃ with heap := h', toks := tk' }) →
    wpAny (model prog w) A (isTrue c (compEnvC scope cl C env) (eval c (compEnvC scope cl C env))) Q' E' s₃
  elt : ∀ C s₃ m k t (Q' : Value → Shared → Prop) E', s₃.heap.Ns C m → m x = some (.int k t) → (∀ b o, s.heap.get? b = some o → s₃.heap.get? b = some o) → (∀ h' tk' t', (∀ b o, s₃.heap.get? b = some o → h'.get? b = some o) → Q' (.int k t') { s₃ with heap := h', toks := tk' }) →
    wpAny (model prog w) A (eval elt (compEnvC scope cl C env)) Q' E' s₃

theorem CompAsk.quiet {pz : Int → Bool} (K : CompAsk prog w A s env elt iter c x scope cl a₀ n pz) {h1 : Heap} (k1 : ∀ b o, s.heap.get? b = some o → h1.get? b = some o) {I : Addr} (hI : h1.objs.size = I) (s₂ : Shared) (k2 : ∀ b o, h1.get? b = some o → s₂.heap.get? b = some o) :
    QuietOnC prog w A env scope cl x [c] elt [I] (fun i v => i < n ∧ ∃ t, v = .int (a₀ + (i : Int) * 1) t) (pV pz) sameI s₂ where
  tests := by
    rintro C i v s₃ m E' hC ⟨hi, t, rfl⟩ hn hm hk htk
    refine wpAny_tests_one ?_
    refine K.test C s₃ m _ t _ _ hn hm (fun b o e => hk b o (fun q => ?_) (k2 b o (k1 b o e))) (by omega) (by omega) fun h' tk' kk => ⟨rfl, h', tk', rfl, kk⟩
    have := Heap.lt_size (k1 b o e)
    rw [hI, List.mem_singleton.mp q] at this
    exact Nat.lt_irrefl _ this
  elt := by
    rintro C i v s₃ m E' hC ⟨hi, t, rfl⟩ hp hn hm hk htk
    refine K.elt C s₃ m _ t _ _ hn hm (fun b o e => hk b o (fun q => ?_) (k2 b o (k1 b o e))) fun h' tk' t' kk => ⟨⟨_, _, _, rfl, rfl⟩, h', tk', rfl, kk⟩
    have := Heap.lt_size (k1 b o e)
    rw [hI, List.mem_singleton.mp q] at this
    exact Nat.lt_irrefl _ this

theorem assignComp {E : Value → Shared → Prop} {Q : Flow → Shared → Prop} {m : Str → Option Value} (pz : Int → Bool) (hh : A.handled = none) (hn : n ≤ 1000) (hsm : Builtin.Range.small a₀ (a₀ + n) 1 = true)
    (hsw : swapsWith (.ListComp elt [⟨.Name x px, iter, [c], 0⟩] scope pos) (some (.Name y py)) spos.line env = pure true)
    (hclos : closureFor scope env = pure cl) (hcell : ∀ z ∈ scope.names, z.2 ≠ .cell) (hkind : scope.kind = .function)
    (hnames : ∀ z ∈ scope.names, z.2 = .local → scope.names.lookup z.1 = some .local) (hx : scope.names.lookup x = some .local)
    (hy : env.kindOf y = some .local) (hp : (env.scope.kind == .class || (env.scope.kind == .module && env.locals != env.globals)) = false)
    (hns : s.heap.Ns env.locals m)
    (K : CompAsk prog w A s env elt iter c x scope cl a₀ n pz)
    (hQ : ∀ D h' tk vs n', s.heap.get? D = none → h'.get? D = some (listOf vs.toArray n') → IntsAre vs ((intsFrom a₀ n).filter pz) → h'.Ns env.locals (fun z => if z = y then some (.ref D) else m z) →
      (∀ b o, b ≠ env.locals → s.heap.get? b = some o → h'.get? b = some o) → Q .next { s with heap := h', toks := tk })
    (hs : ∀ x, foldedSetIterable iter env x = pure x := by intro _; rfl) :
    wpAny (model prog w) A (exec (.Assign [.Name y py] (.ListComp elt [⟨.Name x px, iter, [c], 0⟩] scope pos) spos) env) Q E s := by
  refine wpAny_Assign_ListComp_free (pV pz) sameI hsw hclos hcell hkind hnames hx hy hp (K.it _ _ fun r h1 tk1 t u v k1 r1 => ?_) hs
  refine wpAny_pyIter_range (s := { s with heap := h1, toks := tk1 }) r1 hsm ?_
  rw [rsize]
  dsimp only
  generalize hI : h1.objs.size = I
  generalize hh2 : h1.push { cls := .type "range_iterator", data := .fields #[rawInt a₀, rawInt n, rawInt 1] } = h2
  have k2 : ∀ b o, h1.get? b = some o → h2.get? b = some o := fun b o e => hh2 ▸ Heap.get?_push_of_some _ e
  have gI : h2.get? I = some { cls := .type "range_iterator", data := .fields #[rawInt a₀, rawInt n, rawInt 1] } := by rw [← hh2, ← hI]; exact Heap.get?_push_size _ rfl
  have ltI : ∀ b o, s.heap.get? b = some o → b ∉ [I] := fun b o e q => by
    have := Heap.lt_size (k1 b o e)
    rw [hI, List.mem_singleton.mp q] at this
    exact Nat.lt_irrefl _ this
  have hLI : env.locals ∉ [I] := by
    obtain ⟨o, _, _, ho, _⟩ := hns
    exact ltI _ _ ho
  refine ⟨I, [I], [I], n, _, _, m, rfl, (Walks.range hh I a₀ 1 n).bound, by rw [sizeLine_eq]; omega, by show IsRangeIter _ _ _ _ _; simpa using gI, ?_, hLI, (hns.keeps k1).keeps k2, K.quiet k1 hI _ k2, ?_⟩
  · intro b hb
    rw [List.mem_singleton.mp hb]
    exact Heap.lt_size gI
  · intro D h' tk ys vs hD hl hpl hlen hP hF hns' hk
    obtain ⟨n', hpl'⟩ := hpl
    have hi : IntsAre vs (intsFrom a₀ n) := by
      rw [← hlen]
      refine ints_of_places vs a₀ fun j v hj => ?_
      obtain ⟨_, t, e⟩ := hP j v hj
      exact ⟨t, by rw [e, Int.mul_one]⟩
    exact hQ D h' tk ys.toList n' (none_down (fun q o e => k2 q o (k1 q o e)) hD) (by simpa using hpl') (ints_paired (ints_filter pz hi) hF) hns' fun b o hb e => hk b o hb (ltI b o e) (k2 b o (k1 b o e))

theorem evalComp {E : Value → Shared → Prop} {Q : Value → Shared → Prop} (pz : Int → Bool) (hh : A.handled = none) (hn : n ≤ 1000) (hsm : Builtin.Range.small a₀ (a₀ + n) 1 = true)
    (hclos : closureFor scope env = pure cl) (hcell : ∀ z ∈ scope.names, z.2 ≠ .cell) (hkind : scope.kind = .function)
    (hnames : ∀ z ∈ scope.names, z.2 = .local → scope.names.lookup z.1 = some .local) (hx : scope.names.lookup x = some .local)
    (K : CompAsk prog w A s env elt iter c x scope cl a₀ n pz)
    (hQ : ∀ D h' tk vs n', s.heap.get? D = none → h'.get? D = some (listOf vs.toArray n') → IntsAre vs ((intsFrom a₀ n).filter pz) →
      (∀ b o, s.heap.get? b = some o → h'.get? b = some o) → Q (.ref D) { s with heap := h', toks := tk })
    (hs : ∀ x, foldedSetIterable iter env x = pure x := by intro _; rfl) :
    wpAny (model prog w) A (eval (.ListComp elt [⟨.Name x px, iter, [c], 0⟩] scope pos) env) Q E s := by
  refine wpAny_ListComp_free (pV pz) sameI hclos hcell hkind hnames hx (K.it _ _ fun r h1 tk1 t u v k1 r1 => ?_) hs
  refine wpAny_pyIter_range (s := { s with heap := h1, toks := tk1 }) r1 hsm ?_
  rw [rsize]
  dsimp only
  generalize hI : h1.objs.size = I
  generalize hh2 : h1.push { cls := .type "range_iterator", data := .fields #[rawInt a₀, rawInt n, rawInt 1] } = h2
  have k2 : ∀ b o, h1.get? b = some o → h2.get? b = some o := fun b o e => hh2 ▸ Heap.get?_push_of_some _ e
  have gI : h2.get? I = some { cls := .type "range_iterator", data := .fields #[rawInt a₀, rawInt n, rawInt 1] } := by rw [← hh2, ← hI]; exact Heap.get?_push_size _ rfl
  have ltI : ∀ b o, s.heap.get? b = some o → b ∉ [I] := fun b o e q => by
    have := Heap.lt_size (k1 b o e)
    rw [hI, List.mem_singleton.mp q] at this
    exact Nat.lt_irrefl _ this
  refine ⟨I, [I], [I], n, _, _, rfl, (Walks.range hh I a₀ 1 n).bound, by rw [sizeLine_eq]; omega, by show IsRangeIter _ _ _ _ _; simpa using gI, ?_, K.quiet k1 hI _ k2, ?_⟩
  · intro b hb
    rw [List.mem_singleton.mp hb]
    exact Heap.lt_size gI
  · intro D h' tk ys vs hD hl hpl hlen hP hF hk
    obtain ⟨n', hpl'⟩ := hpl
    have hi : IntsAre vs (intsFrom a₀ n) := by
      rw [← hlen]
      refine ints_of_places vs a₀ fun j v hj => ?_
      obtain ⟨_, t, e⟩ := hP j v hj
      exact ⟨t, by rw [e, Int.mul_one]⟩
    exact hQ D h' tk ys.toList n' (none_down (fun q o e => k2 q o (k1 q o e)) hD) (by simpa using hpl') (ints_paired (ints_filter pz hi) hF) fun b o e => hk b o (ltI b o e) (k2 b o (k1 b o e))
end
end Mine
end

section
theorem Mine.offDzCommon : True := by
  w_top off
  trivial
open PySem PySem.W PyProof.Rows PySem.Calls
set_option Elab.async false
namespace Mine

local macro_rules | `(tactic| walk_at "subscriptTail Name Constant ref int") => `(tactic| (k_here; (with_reducible show wpAny _ _ (subscriptTail _ _ (Value.ref _) (Value.int _ _)) _ _ _); (with_unfolding_all refine' item_litK ?k1 ?k2 ?k3 ?k4 ?_ ?k6; (case k1 => is_list); (case k2 => decide); (case k3 => decide); (case k4 => rfl); (case k6 => with_unfolding_all rfl); k_whole)))

def hitsI (b st b2 st2 : Int) : List Int := (intsFrom 0 st2.toNat).filter fun k => Int.fmod (b + k * st - b2) st2 == 0
def turnsI (st st2 : Int) : List Int := (intsFrom 1 st2.toNat).filter fun k => Int.fmod (k * st) st2 == 0
def firstI (b0 b2 turn : Int) : Int := if b0 < b2 then b0 + Int.fdiv (b2 - b0 + turn - 1) turn * turn else b0
/-- the common ladder, as the program reckons it -/
def commonI (b st ct o b2 st2 ct2 o2 : Int) : Int × Int × Int × Int :=
  if hitsI b st b2 st2 = [] ∨ ct = 0 then (b, 1, 0, 1) else
  let turn := st * (turnsI st st2).headD 0
  let first := firstI (b + (hitsI b st b2 st2).headD 0 * st) b2 turn
  let e := if b2 + (ct2 - 1) * st2 < b + (ct - 1) * st then b2 + (ct2 - 1) * st2 else b + (ct - 1) * st
  let cc := Int.fdiv (e - first) turn + 1
  (first, turn, if cc > 0 then cc else 0, if o2 < o then o2 else o)

theorem turnsI_mem {st st2 k : Int} (h : k ∈ turnsI st st2) : 1 ≤ k ∧ k ≤ st2 := by
  unfold turnsI intsFrom at h
  rw [List.mem_filter] at h
  obtain ⟨j, hj, e⟩ := List.mem_map.mp h.1
  have := List.mem_range.mp hj
  omega
theorem hitsI_mem {b st b2 st2 k : Int} (h : k ∈ hitsI b st b2 st2) : 0 ≤ k ∧ k < st2 := by
  unfold hitsI intsFrom at h
  rw [List.mem_filter] at h
  obtain ⟨j, hj, e⟩ := List.mem_map.mp h.1
  have := List.mem_range.mp hj
  omega
theorem turnsI_ne (st st2 : Int) (hs2 : 0 < st2) (hs22 : st2 ≤ 4) : turnsI st st2 ≠ [] := by
  intro e
  have h : st2 ∈ turnsI st st2 := by
    unfold turnsI intsFrom
    rw [List.mem_filter]
    refine ⟨List.mem_map.mpr ⟨st2.toNat - 1, by simp; omega, by omega⟩, ?_⟩
    simp
  rw [e] at h
  cases h

set_option maxRecDepth 100000 in
set_option maxHeartbeats 8000000 in
theorem common_call {w : World} {A : Around} {s s₀ : Shared} {mg mb : Str → Option Value} {E : Value → Shared → Prop} {Q : Value → Shared → Prop}
  {c1 c2 : Addr} {b st ct o b2 st2 ct2 o2 : Int} {t1 t2 t3 t4 t12 t22 t32 t42 : Tok} {n n2 : Nat}
  (X : (hd.heap_39 w.params).In s.heap) (T : Top hd.view_39 (looseW hd.view_39 []) (ExcName.means s₀.heap) mg mb s.heap) (hA : A.depth ≤ 690) (hu : A.units ≤ 500) (hh : A.handled = none)
  (hl : s.heap.get? c1 = some (lad b st ct o t1 t2 t3 t4 n)) (hl2 : s.heap.get? c2 = some (lad b2 st2 ct2 o2 t12 t22 t32 t42 n2))
  (hst : 0 < st) (hst2 : st ≤ 1000) (hct : 0 ≤ ct) (hct2 : ct ≤ 12) (ho : 1 ≤ o) (ho2 : o ≤ 3) (hs2 : 0 < st2) (hs22 : st2 ≤ 4) (hc2 : 1 ≤ ct2) (hc22 : ct2 ≤ 12) (ho3 : 1 ≤ o2) (ho4 : o2 ≤ 3)
  (hQ : ∀ D h' tk t1 t2 t3 t4 n, (∀ q o, s.heap.get? q = some o → h'.get? q = some o) → s.heap.get? D = none →
    h'.get? D = some (lad (commonI b st ct o b2 st2 ct2 o2).1 (commonI b st ct o b2 st2 ct2 o2).2.1 (commonI b st ct o b2 st2 ct2 o2).2.2.1 (commonI b st ct o b2 st2 ct2 o2).2.2.2 t1 t2 t3 t4 n) → Q (.ref D) { s with heap := h', toks := tk }) :
  wpAny (model PySem.Challenge.rw_dz0121_01.row.prog w) A (call (.ref 38) [.ref c1, .ref c2]) Q E s := by
  revert X; k_fill; intro X
  refine wpAny_call ?_
  refine codeRC X T (by k_is) (by k_is) (by show A.depth < 1000; omega) (by exact BindsTo.of_eq rfl) (by rfl) (by decide +kernel) ?_
  intro h1 tk1 cells F1 N1 Y1
  dsimp only at F1
  k_cells Y1
  have hL : s.heap.IsList c1 [.int b t1, .int st t2, .int ct t3, .int o t4].toArray := ⟨_, hl, rfl, _, rfl⟩
  have hL2 : s.heap.IsList c2 [.int b2 t12, .int st2 t22, .int ct2 t32, .int o2 t42].toArray := ⟨_, hl2, rfl, _, rfl⟩
  generalize hL' : s.heap.objs.size = L' at *
  refine wpAny_noRaise ?_
  repeat' (first | (fail_if_success (with_reducible show wpAny _ _ (assign (Expr.Tuple _ _ _) _ _) _ _ _)); first | walk1)
  refine kun_list F1 N1 (hL.at fun o e => F1.keep _ o e) hh rfl rfl ?_
  intro h2 F2 N2
  clear F1 N1
  repeat' (first | (fail_if_success (with_reducible show wpAny _ _ (exec (Stmt.Assign [Expr.Name _ _] (Expr.ListComp _ _ _ _) _) _) _ _ _)); first | walk1)
  rename_i oc1 d1 _ oc2 d2 _ _ F3 N3
  refine assignComp (n := st2.toNat) (a₀ := 0) (cl := [("two", L' + 1), ("step", L' + 1 + 1 + 1), ("begin", L' + 1 + 1)]) (fun k => Int.fmod (b + k * st - b2) st2 == 0) hh (by omega) ?hsm (by rfl) (by rfl) (by decide) (by rfl) (by decide) (by rfl) (by rfl) (by rfl) F3.ns ⟨?it, ?test, ?elt⟩ ?go
  case hsm =>
    have := small01 (n := st2.toNat) (by omega)
    simpa using this
  case it =>
    intro Q' E' hq
    repeat' (first | (fail_if_success (with_reducible show wpAny _ _ (call (Value.type _) _) _ _ _)); first | walk1)
    refine call_range_1 ?_
    rw [Int.zero_add, Int.toNat_of_nonneg (by omega : 0 ≤ st2)] at hq
    exact hq _ _ _ _ _ _ (fun b o e => Heap.get?_push_of_some _ e) (Heap.get?_push_size _ rfl)
  case test =>
    intro C s₃ m k t Q' E' hns hm hk h0 h1 hq
    repeat' (first | walk1)
    exact hq _ _ (fun b o e => e)
  case elt =>
    intro C s₃ m k t Q' E' hns hm hk hq
    repeat' (first | walk1)
    exact hq s₃.heap s₃.toks t (fun b o e => e)
  case go =>
    intro D h' tk vs n' hD hg hi hns hk
    have F4 := frSet F3 hns hk
    have N4 := newsSet F3 N3 hk hD hg
    have ne4 := newsNe N3 hD
    clear F3 N3
    generalize hhs : (intsFrom 0 st2.toNat).filter (fun k => Int.fmod (b + k * st - b2) st2 == 0) = hs at hi
    dsimp only
    repeat' (first | (fail_if_success (with_reducible show wpAny _ _ (compareOp _ _ _) _ _ _)); first | walk1)
    rename_i F5 N5 l5
    refine eq_intsK ⟨_, (N5 _ (.tail _ (.head _))).1, rfl, _, rfl⟩ hi ⟨_, (N5 _ (.head _)).1, rfl, _, rfl⟩ (vs := vs) (us := []) .nil (by show A.units + 3 + 64 < 9900; omega) ?_
    change hitsI b st b2 st2 = hs at hhs
    cases hi with
    | nil =>
      repeat' (first | walk1 | (dsimp only; walk1))
      rename_i D6 _ F6 N6 l6
      have ec : commonI b st ct o b2 st2 ct2 o2 = (b, 1, 0, 1) := by unfold commonI; rw [if_pos (.inl hhs)]
      rw [ec] at hQ
      exact hQ D6 _ _ _ _ _ _ _ F6.keep (N6 _ (.head _)).2.2 (N6 _ (.head _)).1
    | cons k0 tk0 hi =>
      rename_i vs hs
      repeat' (first | (fail_if_success (with_reducible show wpAny _ _ (eval (Expr.ListComp _ _ _ _) _) _ _ _)); first | walk1 | (dsimp only; walk1))
      · exact absurd (by assumption : decide (k0 :: hs = []) = true) (by simp)
      · rename_i hc0 D6 _ F6 N6 l6
        have ec : commonI b st ct o b2 st2 ct2 o2 = (b, 1, 0, 1) := by unfold commonI; rw [if_pos (.inr hc0)]
        rw [ec] at hQ
        exact hQ D6 _ _ _ _ _ _ _ F6.keep (N6 _ (.head _)).2.2 (N6 _ (.head _)).1
      · rename_i hc0
        refine evalComp (n := st2.toNat) (a₀ := 1) (cl := [("two", L' + 1), ("step", L' + 1 + 1 + 1)]) (fun k => Int.fmod (k * st) st2 == 0) hh (by omega) ?hsm (by rfl) (by decide) (by rfl) (by decide) (by rfl) ⟨?it, ?test, ?elt⟩ ?go
        case hsm => exact smallA (by omega) (by omega) (by omega)
        case it =>
          intro Q' E' hq
          repeat' (first | (fail_if_success (with_reducible show wpAny _ _ (call (Value.type _) _) _ _ _)); first | walk1)
          refine call_range_2 ?_
          have e : (1 : Int) + (st2.toNat : Int) = st2 + 1 := by omega
          rw [e] at hq
          exact hq _ _ _ _ _ _ (fun b o e => Heap.get?_push_of_some _ e) (Heap.get?_push_size _ rfl)
        case test =>
          intro C s₃ m k t Q' E' hns hm hk h0 h1 hq
          repeat' (first | walk1)
          exact hq _ _ (fun b o e => e)
        case elt =>
          intro C s₃ m k t Q' E' hns hm hk hq
          repeat' (first | walk1)
          exact hq s₃.heap s₃.toks t (fun b o e => e)
        case go =>
          intro D7 h7 tk7 vs7 n7 hD7 hg7 hi7 hk7
          have F7 := frUp F5 hk7
          have N7 := newsSet F5 N5 (fun q o _ e => hk7 q o e) hD7 hg7
          clear F5 N5
          have hne := turnsI_ne st st2 hs2 hs22
          change IntsAre vs7 (turnsI st st2) at hi7
          generalize htt : turnsI st st2 = tt at hi7 hne
          cases hi7 with
          | nil => exact absurd rfl hne
          | cons k1 tk1' hi7 =>
            rename_i vs7 tt
            have bk1 := turnsI_mem (k := k1) (by rw [htt]; exact List.mem_cons_self)
            have bk0 := hitsI_mem (k := k0) (by rw [hhs]; exact List.mem_cons_self)
            have ht1 : 0 < st * k1 := Int.mul_pos hst (by omega)
            have ht2 : st * k1 ≤ 1000 * 4 := Int.mul_le_mul hst2 (by omega) (by omega) (by omega)
            have ec : ∀ f e, f = firstI (b + k0 * st) b2 (st * k1) → e = (if b2 + (ct2 - 1) * st2 < b + (ct - 1) * st then b2 + (ct2 - 1) * st2 else b + (ct - 1) * st) →
                commonI b st ct o b2 st2 ct2 o2 = (f, st * k1, if Int.fdiv (e - f) (st * k1) + 1 > 0 then Int.fdiv (e - f) (st * k1) + 1 else 0, if o2 < o then o2 else o) := by
              intro f e hf he
              subst hf he
              unfold commonI
              rw [if_neg (by rw [hhs]; simp [hc0]), htt, hhs]
              rfl
            repeat' (first | (fail_if_success (with_reducible show wpAny _ _ (call (Value.builtin "min") _) _ _ _)); first | walk1 | (dsimp only; walk1))
            all_goals (with_reducible rename Fr _ _ _ _ => F8)
            all_goals (with_reducible rename News _ _ _ _ => N8)
            all_goals refine min_two_N hh F8 N8 ?_
            all_goals intro h9 tk9 F9 N9
            all_goals clear F8 N8
            all_goals generalize hee : (if b2 + (ct2 - 1) * st2 < b + (ct - 1) * st then b2 + (ct2 - 1) * st2 else b + (ct - 1) * st) = ee at *
            all_goals repeat' (first | (fail_if_success (with_reducible show wpAny _ _ (call (Value.builtin "max") _) _ _ _)); first | walk1 | (dsimp only; walk1))
            all_goals (with_reducible rename Fr _ _ _ _ => F10)
            all_goals (with_reducible rename News _ _ _ _ => N10)
            all_goals refine max_two_N hh F10 N10 ?_
            all_goals intro h11 tk11 F11 N11
            all_goals clear F10 N10
            all_goals repeat' (first | (fail_if_success (with_reducible show wpAny _ _ (call (Value.builtin "min") _) _ _ _)); first | walk1 | (dsimp only; walk1))
            all_goals (with_reducible rename Fr _ _ _ _ => F12)
            all_goals (with_reducible rename News _ _ _ _ => N12)
            all_goals refine min_two_N hh F12 N12 ?_
            all_goals intro h13 tk13 F13 N13
            all_goals clear F12 N12
            all_goals repeat' (first | walk1 | (dsimp only; walk1))
            all_goals (with_reducible rename Fr _ _ _ _ => F14)
            all_goals (with_reducible rename News _ _ _ _ => N14)
            · rw [ec _ ee (by unfold firstI; rw [if_pos (by assumption)]) rfl] at hQ
              exact hQ _ _ _ _ _ _ _ _ F14.keep (N14 _ (.head _)).2.2 (N14 _ (.head _)).1
            · rw [ec _ ee (by unfold firstI; rw [if_neg (by assumption)]) rfl] at hQ
              exact hQ _ _ _ _ _ _ _ _ F14.keep (N14 _ (.head _)).2.2 (N14 _ (.head _)).1
end Mine
end

section
theorem Mine.offDzLadC : True := by
  w_top off
  trivial
open PySem PySem.W PyProof.Rows PySem.Calls
set_option Elab.async false
namespace Mine
set_option maxRecDepth 100000

def anyI (_ y : Value) : Prop := ∃ i t, y = Value.int i t
theorem ints_any {vs ys : List Value} (hp : Paired anyI vs ys) : ∃ ms, IntsAre ys ms ∧ ms.length = vs.length := by
  induction hp with
  | nil => exact ⟨[], .nil, rfl⟩
  | cons hf _ ih =>
    obtain ⟨i, t, rfl⟩ := hf
    obtain ⟨ms, h1, h2⟩ := ih
    exact ⟨i :: ms, .cons _ _ h1, by simp [h2]⟩

section
variable {prog : Program} {w : World} {A : Around} {s : Shared} {elt iter : Expr} {x y : Str} {px py : Pos} {scope : Scope} {pos spos : Pos} {env : Env} {cl : List (Str × Addr)} {n : Nat}

theorem assignAny {E : Value → Shared → Prop} {Q : Flow → Shared → Prop} {m : Str → Option Value} (hh : A.handled = none) (hn : n ≤ 1000)
    (hsw : swapsWith (.ListComp elt [⟨.Name x px, iter, [], 0⟩] scope pos) (some (.Name y py)) spos.line env = pure true)
    (hclos : closureFor scope env = pure cl) (hcell : ∀ z ∈ scope.names, z.2 ≠ .cell) (hkind : scope.kind = .function)
    (hnames : ∀ z ∈ scope.names, z.2 = .local → scope.names.lookup z.1 = some .local) (hx : scope.names.lookup x = some .local)
    (hy : env.kindOf y = some .local) (hp : (env.scope.kind == .class || (env.scope.kind == .module && env.locals != env.globals)) = false)
    (hns : s.heap.Ns env.locals m)
    (it : ∀ (Q' : Value → Shared → Prop) E', (∀ r h' tk t u v, (∀ b o, s.heap.get? b = some o → h'.get? b = some o) → IsRange h' r 0 n 1 t u v → Q' (.ref r) { s with heap := h', toks := tk }) → wpAny (model prog w) A (eval iter env) Q' E' s)
    (helt : ∀ C s₃ m k t (Q' : Value → Shared → Prop) E', s₃.heap.Ns C m → m x = some (.int k t) → (∀ b o, s.heap.get? b = some o → s₃.heap.get? b = some o) → 0 ≤ k → k < n → (∀ h' tk' i t', (∀ b o, s₃.heap.get? b = some o → h'.get? b = some o) → Q' (.int i t') { s₃ with heap := h', toks := tk' }) →
      wpAny (model prog w) A (eval elt (compEnvC scope cl C env)) Q' E' s₃)
    (hQ : ∀ D h' tk vs ms n', s.heap.get? D = none → h'.get? D = some (listOf vs.toArray n') → IntsAre vs ms → ms.length = n → h'.Ns env.locals (fun z => if z = y then some (.ref D) else m z) →
      (∀ b o, b ≠ env.locals → s.heap.get? b = some o → h'.get? b = some o) → Q .next { s with heap := h', toks := tk })
    (hs : ∀ x, foldedSetIterable iter env x = pure x := by intro _; rfl) :
    wpAny (model prog w) A (exec (.Assign [.Name y py] (.ListComp elt [⟨.Name x px, iter, [], 0⟩] scope pos) spos) env) Q E s := by
  refine wpAny_Assign_ListComp_free (fun _ => true) anyI hsw hclos hcell hkind hnames hx hy hp (it _ _ fun r h1 tk1 t u v k1 r1 => ?_) hs
  have r1' : IsRange h1 r 0 (0 + (n : Int)) 1 t u v := by simpa using r1
  refine wpAny_pyIter_range (s := { s with heap := h1, toks := tk1 }) r1' (smallA (by omega) (by omega) hn) ?_
  rw [rsize]
  dsimp only
  generalize hI : h1.objs.size = I
  generalize hh2 : h1.push { cls := .type "range_iterator", data := .fields #[rawInt 0, rawInt n, rawInt 1] } = h2
  have k2 : ∀ b o, h1.get? b = some o → h2.get? b = some o := fun b o e => hh2 ▸ Heap.get?_push_of_some _ e
  have gI : h2.get? I = some { cls := .type "range_iterator", data := .fields #[rawInt 0, rawInt n, rawInt 1] } := by rw [← hh2, ← hI]; exact Heap.get?_push_size _ rfl
  have ltI : ∀ b o, s.heap.get? b = some o → b ∉ [I] := fun b o e q => by
    have := Heap.lt_size (k1 b o e)
    rw [hI, List.mem_singleton.mp q] at this
    exact Nat.lt_irrefl _ this
  have hLI : env.locals ∉ [I] := by
    obtain ⟨o, _, _, ho, _⟩ := hns
    exact ltI _ _ ho
  refine ⟨I, [I], [I], n, _, _, m, rfl, (Walks.range hh I 0 1 n).bound, by rw [sizeLine_eq]; omega, by show IsRangeIter _ _ _ _ _; simpa using gI, ?_, hLI, (hns.keeps k1).keeps k2, ⟨?_, ?_⟩, ?_⟩
  · intro b hb
    rw [List.mem_singleton.mp hb]
    exact Heap.lt_size gI
  · rintro C i v s₃ m E' hC ⟨hi, t, rfl⟩ hn hm hk htk
    exact wpAny_tests_nil ⟨rfl, s₃.heap, s₃.toks, rfl, fun _ _ e => e⟩
  · rintro C i v s₃ m E' hC ⟨hi, t, rfl⟩ hp hn hm hk htk
    have hm' : m x = some (.int (i : Int) t) := by simpa using hm
    exact helt C s₃ m i t _ _ hn hm' (fun b o e => hk b o (ltI b o e) (k2 b o (k1 b o e))) (Nat.zero_le _) hi fun h' tk' i t' kk => ⟨⟨_, _, rfl⟩, h', tk', rfl, kk⟩
  · intro D h' tk ys vs hD hl hpl hlen hP hF hns' hk
    obtain ⟨n', hpl'⟩ := hpl
    obtain ⟨ms, h1', h2'⟩ := ints_any hF
    exact hQ D h' tk ys.toList ms n' (none_down (fun q o e => k2 q o (k1 q o e)) hD) (by simpa using hpl') h1' (by rw [h2', List.filter_eq_self.mpr (by simp)]; exact hlen) hns' fun b o hb e => hk b o hb (ltI b o e) (k2 b o (k1 b o e))

/-- a made ladder, with the bounds that the law gives it -/
structure IsLad (B : Int) (o : Obj) (b st ct of : Int) : Prop where
  is : ∃ t1 t2 t3 t4, o = lad b st ct of t1 t2 t3 t4 0
  s1 : 1 ≤ st
  s4 : st ≤ 4
  c1 : 1 ≤ ct
  c12 : ct ≤ 12
  o1 : 1 ≤ of
  o3 : of ≤ 3
  b1 : B ≤ b
  b8 : b ≤ B + 8
def LadsAre (B : Int) (lads : List (Addr × Obj)) : Prop := ∀ p ∈ lads, ∃ b st ct of, IsLad B p.2 b st ct of

theorem compLads {B : Int} {E : Value → Shared → Prop} {Q : Value → Shared → Prop} {ax : Addr} {vs : List Value} {ns : List Int} (hh : A.handled = none) (hlen : ns.length ≤ 1000)
    (hl : s.heap.IsList ax vs.toArray) (hi : IntsAre vs ns)
    (hclos : closureFor scope env = pure cl) (hcell : ∀ z ∈ scope.names, z.2 ≠ .cell) (hkind : scope.kind = .function)
    (hnames : ∀ z ∈ scope.names, z.2 = .local → scope.names.lookup z.1 = some .local) (hx : scope.names.lookup x = some .local)
    (it : ∀ (Q' : Value → Shared → Prop) E', Q' (.ref ax) s → wpAny (model prog w) A (eval iter env) Q' E' s)
    (helt : ∀ C h tk m k t (Q' : Value → Shared → Prop) E', h.Ns C m → m x = some (.int k t) → (∀ b o, s.heap.get? b = some o → h.get? b = some o) →
      (∀ a h' tk' o b st ct of, IsLad B o b st ct of → (∀ b o, h.get? b = some o → h'.get? b = some o) → h.get? a = none → h'.get? a = some o → Q' (.ref a) { s with heap := h', toks := tk' }) →
      wpAny (model prog w) A (eval elt (compEnvC scope cl C env)) Q' E' { s with heap := h, toks := tk })
    (hQ : ∀ D h' tk n lads, (∀ b o, s.heap.get? b = some o → h'.get? b = some o) → s.heap.get? D = none → h'.get? D = some (listOf (lads.map fun p => Value.ref p.1).toArray n) → (∀ p ∈ lads, h'.get? p.1 = some p.2 ∧ s.heap.get? p.1 = none) → LadsAre B lads → lads.length = ns.length → Q (.ref D) { s with heap := h', toks := tk })
    (hs : ∀ x, foldedSetIterable iter env x = pure x := by intro _; rfl) :
    wpAny (model prog w) A (eval (.ListComp elt [⟨.Name x px, iter, [], 0⟩] scope pos) env) Q E s := by
  have hvl := hi.length
  rw [eval_ListComp]
  refine wpAny_comprehension_free (use := none) rfl hs hclos hkind hnames (it _ _ ?_)
  refine wpAny_pyIter_list hl ?_
  generalize hI1 : s.heap.objs.size = I
  generalize hh2 : s.heap.push { cls := .type "list_iterator", data := .fields #[.ref ax, .int 0 0] } = h2
  refine wpAny_newObj_type ?_
  dsimp only
  generalize hD : h2.objs.size = D
  generalize hh3 : h2.push { cls := .type "list", dict := none, data := .seq ([] : List Value).toArray } = h3
  refine wpAny_newFunctionEnv hcell (by intro y hy; simp at hy) (fun h4 hns4 hsb4 => ?_) hkind
  dsimp only at hns4 hsb4 ⊢
  generalize hC : h3.objs.size = C at hns4 hsb4 ⊢
  have eI1D : D = I + 1 := by rw [← hD, ← hI1, ← hh2, Heap.size_push]
  have eDC : C = D + 1 := by rw [← hC, ← hD, ← hh3, Heap.size_push]
  have nn : ∀ x, I ≤ x → s.heap.get? x = none := fun x hx => Heap.get?_none_of_le (by rw [hI1]; exact hx)
  have k2 : ∀ b o, s.heap.get? b = some o → h2.get? b = some o := fun b o e => hh2 ▸ Heap.get?_push_of_some _ e
  have k3 : ∀ b o, h2.get? b = some o → h3.get? b = some o := fun b o e => hh3 ▸ Heap.get?_push_of_some _ e
  have k4 : ∀ b o, b ≠ C → h3.get? b = some o → h4.get? b = some o := fun b o hb e => hsb4.extBut b o hb (Heap.get?_push_of_some _ e)
  have gI : h2.get? I = some { cls := .type "list_iterator", data := .fields #[.ref ax, .int 0 0] } := by rw [← hh2, ← hI1]; exact Heap.get?_push_size _ rfl
  have gD : h3.get? D = some (listOf #[] 0) := by rw [← hh3, ← hD]; exact Heap.get?_push_size _ rfl
  have hDI : D ≠ I := by rw [eI1D]; exact Nat.ne_of_gt (Nat.lt_succ_self _)
  have hDC : D ≠ C := by rw [eDC]; exact Nat.ne_of_lt (Nat.lt_succ_self _)
  have hIC : I ≠ C := by rw [eDC, eI1D]; exact Nat.ne_of_lt (by omega)
  have F4 : Fr s.heap C h4 (fun x => ([] : List (Str × Value)).reverse.lookup x) := ⟨hns4, fun b o e => k4 b o (fun q => by
      have := Heap.lt_size e
      rw [hI1] at this
      exact absurd this (by rw [q, eDC, eI1D]; exact Nat.not_lt.mpr (by omega))) (k3 b o (k2 b o e)), by rw [hI1, eDC, eI1D]; omega⟩
  have axI : ax ≠ I := by
    obtain ⟨o, ho, _⟩ := hl
    have := Heap.lt_size ho
    rw [hI1] at this
    exact Nat.ne_of_lt this
  let J : Nat → Heap → (Str → Option Value) → List (Addr × Obj) → Nat → Prop := fun i h m lads n => Fr s.heap C h m ∧ h.IsListIter I ax i ∧ News s.heap C h ((D, listOf (lads.map fun p => Value.ref p.1).toArray n) :: lads) ∧ (∀ p ∈ lads, p.1 ≠ D ∧ p.1 ≠ I) ∧ LadsAre B lads ∧ lads.length = i ∧ i ≤ ns.length
  have J4 : J 0 h4 (fun x => ([] : List (Str × Value)).reverse.lookup x) [] 0 := by
    refine ⟨F4, ⟨_, k4 _ _ hIC (k3 _ _ gI), rfl, rfl⟩, ?_, (fun p hp => (nomatch hp)), (fun p hp => (nomatch hp)), rfl, Nat.zero_le _⟩
    intro p hp
    simp only [List.mem_cons, List.not_mem_nil, or_false] at hp
    subst hp
    exact ⟨k4 _ _ hDC gD, hDC, nn _ (by rw [eI1D]; exact Nat.le_succ _)⟩
  have fin : ∀ h tk m lads n, Fr s.heap C h m → News s.heap C h ((D, listOf (lads.map fun p => Value.ref p.1).toArray n) :: lads) → LadsAre B lads → lads.length = ns.length → compPost (model prog w) A E none Q (.ref D) C (.ok .next) { s with heap := h, toks := tk } := by
    intro h tk m lads n F N hla hle
    refine ⟨m, F.ns, fun h' hs' => ?_⟩
    have nD := N _ (.head _)
    refine hQ D h' tk n lads (fun b o e => hs'.extBut b o (fun q => ?_) (F.keep b o e)) (nn _ (by rw [eI1D]; exact Nat.le_succ _)) (hs'.extBut D _ hDC nD.1) (fun p hp => ⟨hs'.extBut _ _ (N p (.tail _ hp)).2.1 (N p (.tail _ hp)).1, (N p (.tail _ hp)).2.2⟩) hla hle
    exact absurd (Nat.lt_of_lt_of_le (Heap.lt_size e) F.above) (q ▸ Nat.lt_irrefl _)
  have loop : ∀ s₃ : Shared, s₃ = { s with heap := h4, toks := s.toks + ([] : List (Str × Value)).length } →
      codeAny (model prog w) A (.compLoop (.ListComp elt [⟨.Name x px, iter, [], 0⟩] scope pos) 0 (.ref I) (.ref D) (compEnvC scope cl C env)) (compPost (model prog w) A E none Q (.ref D) C) s₃ := by
    rintro s₃ rfl
    refine codeAny_compLoop_list (fun k s' => ∃ i : Nat, ∃ h tk m lads n, k + i = ns.length + 1 ∧ s' = { s with heap := h, toks := tk } ∧ J i h m lads n) ?_ (ns.length + 1) ⟨0, h4, _, _, [], 0, rfl, rfl, J4⟩
    rintro k s' ⟨i, h, tk, m, lads, n, hk, rfl, F, hit, N, hne, hla, hle, hile⟩
    have nD := N _ (.head _)
    have nI : I ≠ C := hIC
    have hls : h.IsList ax vs.toArray := hl.at fun o e => F.keep _ o e
    refine wpAny_noRaise ?_
    by_cases hj : i < ns.length
    · obtain ⟨tv, hv⟩ := hi.get i ns[i] (by simp [hj])
      refine wpAny_pyNext_list_item (s := { s with heap := h, toks := tk }) hit hls (x := .int ns[i] tv) (by simpa using hv) fun h' hit' hs' => ?_
      have nIb : s.heap.get? I = none := nn _ (Nat.le_refl _)
      have F1 := F.change hs' hIC nIb
      have N1 : News s.heap C h' ((D, listOf (lads.map fun p => Value.ref p.1).toArray n) :: lads) := by
        intro p hp
        have np := N p hp
        refine ⟨hs'.extBut _ _ ?_ np.1, np.2⟩
        rcases List.mem_cons.mp hp with rfl | hp
        · exact hDI
        · exact (hne p hp).2
      refine wpAny_assign_Name (wpAny_storeName_local (lookup_relabel_local hx) F1.ns (fun h2' hn2 hs2 => ?_) (by simp [compEnvC, relabel, hkind]))
      have F2 := F1.set hn2 hs2
      have N2 := N1.set hs2
      have hit2 : h2'.IsListIter I ax (i + 1) := hit'.extBut hs2.extBut hIC
      refine wpAny_noRaise (helt C h2' _ _ ns[i] tv _ _ F2.ns (by simp) F2.keep fun a h5 tk5 o b st ct of hlad k5 ha5 hg5 => ?_)
      have F5 := frUp F2 k5
      have N5 := newsUp N2 k5
      have nD5 := N5 _ (.head _)
      have aD : a ≠ D := fun q => by rw [q, (N2 _ (.head _)).1] at ha5; cases ha5
      have aC : a ≠ C := fun q => by
        obtain ⟨oC, _, _, hC', _⟩ := F2.ns
        have hC'' : h2'.get? C = some oC := hC'
        rw [q, hC''] at ha5; cases ha5
      have aI : a ≠ I := fun q => by
        obtain ⟨oI, hI', _⟩ := hit2
        rw [q, hI'] at ha5; cases ha5
      have a0 : s.heap.get? a = none := none_down F2.keep ha5
      refine append_at (s := { s with heap := h5, toks := tk5 }) nD5.1 (fun h6 hs6 ho6 => ?_) (by
        rw [sizeLine_eq, List.size_toArray, List.length_map, hle]; omega)
      refine ⟨k - 1, by omega, i + 1, h6, tk5, _, lads ++ [(a, o)], n + 1, by omega, rfl, F5.change hs6 nD5.2.1 nD5.2.2, (hit2.at fun o e => k5 _ o e).extBut hs6.extBut (Ne.symm hDI), ?_, ?_, ?_, by simp [hle], by omega⟩
      · intro p hp
        rcases List.mem_cons.mp hp with rfl | hp
        · exact ⟨by simpa using ho6, nD5.2⟩
        · rcases List.mem_append.mp hp with hp | hp
          · have np := N5 p (.tail _ hp)
            exact ⟨hs6.extBut _ _ (hne p hp).1 np.1, np.2⟩
          · rw [List.mem_singleton.mp hp]
            exact ⟨hs6.extBut _ _ aD hg5, aC, a0⟩
      · intro p hp
        rcases List.mem_append.mp hp with hp | hp
        · exact hne p hp
        · rw [List.mem_singleton.mp hp]; exact ⟨aD, aI⟩
      · intro p hp
        rcases List.mem_append.mp hp with hp | hp
        · exact hla p hp
        · rw [List.mem_singleton.mp hp]; exact ⟨b, st, ct, of, hlad⟩
    · have ei : i = ns.length := by omega
      subst ei
      refine wpAny_pyNext_list_end (s := { s with heap := h, toks := tk }) hh hit hls (by simp; omega) fun h' he' => ?_
      have kp : ∀ b o, b ≠ I → h.get? b = some o → h'.get? b = some o := fun b o hb e => he' b o hb e
      have nIb : s.heap.get? I = none := nn _ (Nat.le_refl _)
      have F' : Fr s.heap C h' m := ⟨F.ns.extBut he' (Ne.symm hIC), fun b o e => kp b o (fun q => by rw [q, nIb] at e; cases e) (F.keep b o e), F.above⟩
      have N' : News s.heap C h' ((D, listOf (lads.map fun p => Value.ref p.1).toArray n) :: lads) := by
        intro p hp
        have np := N p hp
        refine ⟨kp _ _ ?_ np.1, np.2⟩
        rcases List.mem_cons.mp hp with rfl | hp
        · exact hDI
        · exact (hne p hp).2
      exact fin h' tk m lads n F' N' hla hle
  exact codeAny_compStart_list (loop _ rfl) (wpAny_pyIter_listiter ⟨_, k4 _ _ hIC (k3 _ _ gI), rfl, rfl⟩ (loop _ rfl))
end

theorem pick_mem {items : Array Value} {lo hi st : Option Int} {v : Value} (h : v ∈ (slicePick items lo hi st).toList) : v ∈ items.toList := by
  unfold slicePick at h
  simp only [] at h
  obtain ⟨j, _, hj⟩ := List.mem_filterMap.mp (by simpa using h)
  have := Array.getElem?_eq_some_iff.mp hj
  obtain ⟨hlt, e⟩ := this
  rw [← e]
  simp
theorem ints_of_all : ∀ {vs : List Value}, (∀ v ∈ vs, ∃ i t, v = Value.int i t) → ∃ ns, IntsAre vs ns
  | [], _ => ⟨[], .nil⟩
  | v :: vs, h => by
    obtain ⟨i, t, rfl⟩ := h v List.mem_cons_self
    obtain ⟨ns, hn⟩ := ints_of_all (fun u hu => h u (List.mem_cons_of_mem _ hu))
    exact ⟨i :: ns, .cons _ _ hn⟩
theorem pick_ints {items : Array Value} {lo hi st : Option Int} (h : ∀ v ∈ items.toList, ∃ i t, v = Value.int i t) : ∀ v ∈ (slicePick items lo hi st).toList, ∃ i t, v = Value.int i t := fun v hv => h v (pick_mem hv)

/-- sum of a list of ints, told by the heap's keeping alone -/
theorem sum_any {prog : Program} {w : World} {A : Around} {E : Value → Shared → Prop} {s : Shared} {l : Addr} {items : Array Value} {Q : Value → Shared → Prop} (hh : A.handled = none) (hl : s.heap.IsList l items) (hi : ∀ v ∈ items.toList, ∃ i t, v = Value.int i t)
    (h : ∀ h' tk i t', (∀ b o, s.heap.get? b = some o → h'.get? b = some o) → Q (.int i t') { s with heap := h', toks := tk }) : wpAny (model prog w) A (call (.builtin "sum") [.ref l]) Q E s := by
  obtain ⟨ns, hns⟩ := ints_of_all hi
  obtain ⟨xs, hx⟩ := hns.allInts.items
  have hl' : s.heap.IsList l (intItems xs) := by
    have : items = intItems xs := by rw [← hx]
    exact this ▸ hl
  exact sum_intListG hh hl' fun h' tk t' hk => h h' tk _ t' hk
end Mine
end

section
theorem Mine.offDzLadd : True := by
  w_top off
  trivial
open PySem PySem.W PyProof.Rows PySem.Calls
set_option Elab.async false
namespace Mine

set_option maxRecDepth 100000 in
set_option maxHeartbeats 8000000 in
theorem ladders_call {w : World} {A : Around} {s s₀ : Shared} {mg mb : Str → Option Value} {E : Value → Shared → Prop} {Q : Value → Shared → Prop}
  {c : Addr} {vs : List Value} {ns : List Int}
  (X : (hd.heap_39 w.params).In s.heap) (T : Top hd.view_39 (looseW hd.view_39 []) (ExcName.means s₀.heap) mg mb s.heap) (hA : A.depth ≤ 690) (hu : A.units ≤ 500) (hh : A.handled = none)
  (hL : s.heap.IsList c vs.toArray) (hI : IntsAre vs ns) (hn : ns.length ≤ 63)
  (hQ : ∀ D h' tk n lads, (∀ b o, s.heap.get? b = some o → h'.get? b = some o) → s.heap.get? D = none → h'.get? D = some (listOf (lads.map fun p => Value.ref p.1).toArray n) → (∀ p ∈ lads, h'.get? p.1 = some p.2 ∧ s.heap.get? p.1 = none) → LadsAre (ns.take 63).sum lads → 2 ≤ lads.length → lads.length ≤ 4 → Q (.ref D) { s with heap := h', toks := tk }) :
  wpAny (model PySem.Challenge.rw_dz0121_01.row.prog w) A (call (.ref 33) [.ref c]) Q E s := by
  revert X; k_fill; intro X
  refine wpAny_call ?_
  refine codeRC X T (by k_is) (by k_is) (by show A.depth < 1000; omega) (by exact BindsTo.of_eq rfl) (by rfl) (by decide +kernel) ?_
  intro h1 tk1 cells F1 N1 Y1
  dsimp only at F1
  k_cells Y1
  generalize hL' : s.heap.objs.size = L' at *
  refine wpAny_noRaise ?_
  repeat' (first | (fail_if_success (with_reducible show wpAny _ _ (call (Value.builtin "sum") _) _ _ _)); first | walk1 | (dsimp only; walk1))
  rename_i F2 N2 hi2 _ _ l2
  refine LSm.sum_ints F2 N2 hh ⟨_, (N2 _ (.head _)).1, rfl, _, rfl⟩ hi2 ?_
  intro h3 tk3 t3 F3 N3
  clear F2 N2
  repeat' (first | (fail_if_success (with_reducible show wpAny _ _ (exec (Stmt.Assign [Expr.Name _ _] (Expr.ListComp _ _ _ _) _) _) _ _ _)); first | walk1 | (dsimp only; walk1))
  (with_reducible rename Fr _ _ _ _ => F4)
  (with_reducible rename News _ _ _ _ => N4)
  have hnl : ∃ n : Nat, n ≤ 4 ∧ (n : Int) = (if (ns.length : Int) < 4 then (ns.length : Int) else 4) := by
    by_cases h : (ns.length : Int) < 4
    · exact ⟨ns.length, by omega, by rw [if_pos h]⟩
    · exact ⟨4, by omega, by rw [if_neg h]; rfl⟩
  obtain ⟨nn, hn4, hnn⟩ := hnl
  refine assignAny (n := nn) (cl := [("script", L' + 1)]) hh (by omega) (by rfl) (by rfl) (by decide) (by rfl) (by decide) (by rfl) (by rfl) (by rfl) F4.ns ?it ?elt ?go
  case it =>
    intro Q' E' hq
    repeat' (first | (fail_if_success (with_reducible show wpAny _ _ (call (Value.builtin "min") _) _ _ _)); first | walk1 | (dsimp only; walk1))
    refine min_two_ints hh fun h6 tk6 k6 => ?_
    have ev : ∀ ta tb, ∃ tt, (if (ns.length : Int) < 4 then Value.int (ns.length : Int) ta else Value.int 4 tb) = Value.int nn tt := by
      intro ta tb
      by_cases hc : (ns.length : Int) < 4
      · rw [if_pos hc] at hnn ⊢; exact ⟨ta, by rw [hnn]⟩
      · rw [if_neg hc] at hnn ⊢; exact ⟨tb, by rw [hnn]⟩
    obtain ⟨tt, ett⟩ := ev (tk + 1 + 1) tk
    rw [ett]
    repeat' (first | (fail_if_success (with_reducible show wpAny _ _ (call (Value.type _) _) _ _ _)); first | walk1 | (dsimp only; walk1))
    refine call_range_1 ?_
    exact hq _ _ _ _ _ _ (fun b o e => Heap.get?_push_of_some _ (k6 b o e)) (Heap.get?_push_size _ rfl)
  case elt =>
    intro C s₃ m k t Q' E' hns hm hk h0 h1 hq
    have hsc : s₃.heap.IsList c vs.toArray := hL.at fun o e => hk _ o (F4.keep _ o e)
    have hvl := hI.length
    have hva : ∀ v ∈ vs.toArray.toList, ∃ i t, v = Value.int i t := fun v hv => by
      obtain ⟨y, t, e, _⟩ := ints_mem hI v (by simpa using hv)
      exact ⟨y, t, e⟩
    repeat' (first | (fail_if_success (with_reducible show wpAny _ _ (subscriptTail _ _ _ _) _ _ _)); first | walk1)
    refine tail_any (T := "list") (hsc.push _).typeIs list_getitem_lookup (wpAny_getItem_list_slice (lo := none) (hi := some 63) (st := none) (hsc.push _) (Heap.IsSliceOf.new ..) .none (.int _ _) .none (by simp) ?_ (by rw [sizeLine_eq, List.size_toArray]; omega)) (by with_unfolding_all rfl)
    dsimp only
    generalize hh5 : (s₃.heap.push { cls := .type "slice", data := .fields #[.none, .int 63 s₃.toks, .none] }) = h5
    generalize hD6 : h5.objs.size = D6
    generalize hh6 : h5.push { cls := .type "list", data := .seq (slicePick vs.toArray none (some 63) none) } = h6
    have k5 : ∀ b o, s₃.heap.get? b = some o → h6.get? b = some o := fun b o e => hh6 ▸ Heap.get?_push_of_some _ (hh5 ▸ Heap.get?_push_of_some _ e)
    have g6 : h6.IsList D6 (slicePick vs.toArray none (some 63) none) := ⟨_, by rw [← hh6, ← hD6]; exact Heap.get?_push_size _ rfl, rfl, _, rfl⟩
    have sz6 := slicePick_size_le vs.toArray none (some 63) none
    refine wpAny_Slice ?_
    refine nmL (hns.keeps k5) hm ?_
    repeat' (first | (fail_if_success (with_reducible show wpAny _ _ (subscriptTail _ _ _ _) _ _ _)); first | walk1 | (dsimp only; walk1))
    refine tail_any (T := "list") (g6.push _).typeIs list_getitem_lookup (wpAny_getItem_list_slice (lo := some k) (hi := none) (st := some 4) (g6.push _) (Heap.IsSliceOf.new ..) (.int _ _) .none (.int _ _) (by simp) ?_ (by rw [sizeLine_eq]; rw [show vs.toArray.size = vs.length from by simp] at sz6; omega)) (by with_unfolding_all rfl)
    repeat' (first | (fail_if_success (with_reducible show wpAny _ _ (call (Value.builtin "sum") _) _ _ _)); first | walk1 | (dsimp only; walk1))
    refine sum_any hh ⟨_, Heap.get?_push_size _ rfl, rfl, _, rfl⟩ (pick_ints (pick_ints hva)) ?_
    intro h9 tk9 i9 t9 k9
    exact hq h9 tk9 i9 t9 fun b o e => k9 b o (Heap.get?_push_of_some _ (Heap.get?_push_of_some _ (k5 b o e)))
  case go =>
    intro D h' tk vs4 ms n' hD hg hi hml hns hk
    have F5 := frSet F4 hns hk
    have N5 := newsSet F4 N4 hk hD hg
    have ne5 := newsNe N4 hD
    clear F4 N4
    dsimp only
    repeat' (first | (fail_if_success (with_reducible show wpAny _ _ (eval (Expr.ListComp _ _ _ _) _) _ _ _)); first | walk1 | (dsimp only; walk1))
    · (with_reducible rename Fr _ _ _ _ => F6)
      (with_reducible rename News _ _ _ _ => N6)
      refine compLads (B := (ns.take 63).sum) (cl := [("base", L' + 1 + 1)]) (ns := ms ++ [3, 7]) hh (by rw [List.length_append, hml]; simp; omega) ⟨_, (N6 _ (.head _)).1, rfl, _, rfl⟩ (by assumption) (by rfl) (by decide) (by rfl) (by decide) (by rfl) ?it2 ?elt2 ?go2
      case it2 =>
        intro Q' E' hq
        repeat' (first | walk1 | (dsimp only; walk1))
        exact hq
      case elt2 =>
        intro C h tk m k t Q' E' hns hm hk hq
        repeat' (first | (fail_if_success (with_reducible show wpAny _ _ (newList _) _ _ _)); first | walk1 | (dsimp only; walk1))
        have f1 := fmod_lo (k.fdiv 3) (n := 4) (by omega)
        have f2 := fmod_hi (k.fdiv 3) (n := 4) (by omega)
        have f3 := fmod_lo (k.fdiv 108) (n := 12) (by omega)
        have f4 := fmod_hi (k.fdiv 108) (n := 12) (by omega)
        have f5 := fmod_lo k (n := 3) (by omega)
        have f6 := fmod_hi k (n := 3) (by omega)
        have f7 := fmod_lo (k.fdiv 12) (n := 9) (by omega)
        have f8 := fmod_hi (k.fdiv 12) (n := 9) (by omega)
        refine wpAny_newObj_type ?_
        exact hq _ _ _ _ _ _ _ _ ⟨⟨_, _, _, _, rfl⟩, by omega, by omega, by omega, by omega, by omega, by omega, by omega, by omega⟩ (fun b o e => Heap.get?_push_of_some _ e) (Heap.get?_none_of_le (Nat.le_refl _)) (Heap.get?_push_size _ rfl)
      case go2 =>
        intro D9 h9 tk9 n9 lads k9 hD9 hg9 hp9 hla9 hle9
        simp only [List.length_append, List.length_cons, List.length_nil] at hle9
        exact hQ D9 h9 tk9 n9 lads (fun b o e => k9 b o (F6.keep b o e)) (none_down F6.keep hD9) hg9 (fun p hp => ⟨(hp9 p hp).1, none_down F6.keep (hp9 p hp).2⟩) hla9 (by omega) (by omega)
    · (with_reducible rename Fr _ _ _ _ => F6)
      (with_reducible rename News _ _ _ _ => N6)
      refine compLads (B := (ns.take 63).sum) (cl := [("base", L' + 1 + 1)]) (ns := ms) hh (by omega) ⟨_, (N6 _ (.head _)).1, rfl, _, rfl⟩ (by assumption) (by rfl) (by decide) (by rfl) (by decide) (by rfl) ?it2 ?elt2 ?go2
      case it2 =>
        intro Q' E' hq
        repeat' (first | walk1 | (dsimp only; walk1))
        exact hq
      case elt2 =>
        intro C h tk m k t Q' E' hns hm hk hq
        repeat' (first | (fail_if_success (with_reducible show wpAny _ _ (newList _) _ _ _)); first | walk1 | (dsimp only; walk1))
        have f1 := fmod_lo (k.fdiv 3) (n := 4) (by omega)
        have f2 := fmod_hi (k.fdiv 3) (n := 4) (by omega)
        have f3 := fmod_lo (k.fdiv 108) (n := 12) (by omega)
        have f4 := fmod_hi (k.fdiv 108) (n := 12) (by omega)
        have f5 := fmod_lo k (n := 3) (by omega)
        have f6 := fmod_hi k (n := 3) (by omega)
        have f7 := fmod_lo (k.fdiv 12) (n := 9) (by omega)
        have f8 := fmod_hi (k.fdiv 12) (n := 9) (by omega)
        refine wpAny_newObj_type ?_
        exact hq _ _ _ _ _ _ _ _ ⟨⟨_, _, _, _, rfl⟩, by omega, by omega, by omega, by omega, by omega, by omega, by omega, by omega⟩ (fun b o e => Heap.get?_push_of_some _ e) (Heap.get?_none_of_le (Nat.le_refl _)) (Heap.get?_push_size _ rfl)
      case go2 =>
        intro D9 h9 tk9 n9 lads k9 hD9 hg9 hp9 hla9 hle9
        exact hQ D9 h9 tk9 n9 lads (fun b o e => k9 b o (F6.keep b o e)) (none_down F6.keep hD9) hg9 (fun p hp => ⟨(hp9 p hp).1, none_down F6.keep (hp9 p hp).2⟩) hla9 (by omega) (by omega)
end Mine
end

section
theorem Mine.offDzS : True := by
  w_top off
  trivial
open PySem PySem.W PyProof.Rows PySem.Calls
set_option Elab.async false
namespace Mine

def sldP : List Int → List Int → List Int × List Int
  | [], ys => ([], ys)
  | x :: xs, [] => (x :: xs, [])
  | x :: xs, y :: ys =>
    if x < y then (x :: (sldP (xs.dropWhile (· == x)) (y :: ys)).1, (sldP (xs.dropWhile (· == x)) (y :: ys)).2)
    else if y < x then ((sldP (x :: xs) (ys.dropWhile (· == y))).1, y :: (sldP (x :: xs) (ys.dropWhile (· == y))).2)
    else sldP (xs.dropWhile (· == x)) (ys.dropWhile (· == y))
termination_by xs ys => xs.length + ys.length
decreasing_by
  all_goals (simp only [List.length_cons]; first
    | (have := (List.dropWhile_suffix (· == x) (l := xs)).length_le; have := (List.dropWhile_suffix (· == y) (l := ys)).length_le; omega)
    | (have := (List.dropWhile_suffix (· == x) (l := xs)).length_le; omega)
    | (have := (List.dropWhile_suffix (· == y) (l := ys)).length_le; omega))

theorem sldP_nil_left (ys : List Int) : sldP [] ys = ([], ys) := by rw [sldP]
theorem sldP_nil_right (xs : List Int) : sldP xs [] = (xs, []) := by
  cases xs with
  | nil => rw [sldP]
  | cons x xs => rw [sldP]

theorem skip_map {m₀ uu : Str → Option Value} {kx sx vx : Str} {v1 v2 v3 : Value} (h2 : m₀ sx = some v2) (h3 : m₀ vx = some v3) :
    kstB (fun z => if ([] : List Str).contains z = true then uu z else m₀ z) [(kx, v1), (sx, v2), (vx, v3)] = fun y => if y = kx then some v1 else m₀ y := by
  funext y
  show (if y = kx then some v1 else if y = sx then some v2 else if y = vx then some v3 else (if ([] : List Str).contains y = true then uu y else m₀ y)) = _
  by_cases e1 : y = kx
  · rw [if_pos e1, if_pos e1]
  · rw [if_neg e1, if_neg e1]
    by_cases e2 : y = sx
    · rw [if_pos e2, e2, h2]
    · rw [if_neg e2]
      by_cases e3 : y = vx
      · rw [if_pos e3, e3, h3]
      · rw [if_neg e3]; rfl
theorem pullT {h₀ h : Heap} {L : Addr} {x : Str} {v : Int} {tt : Tok} {r : Str → Option Value} (F : Fr h₀ L h (fun y => if y = x then some (.int v tt) else r y)) : ∃ t, Fr h₀ L h (fun y => if y = x then some (.int v t) else r y) := ⟨tt, F⟩
theorem init_tok {h₀ h : Heap} {L : Addr} {x1 x2 x3 x4 : Str} {v1 v2 : Option Value} {k1 k2 : Int} {t1 t2 : Tok} {r : Str → Option Value} (F : Fr h₀ L h (fun y => if y = x1 then v1 else if y = x2 then v2 else if y = x3 then some (.int k1 t1) else if y = x4 then some (.int k2 t2) else r y)) :
    ∃ t1 t2, Fr h₀ L h (fun y => if y = x1 then v1 else if y = x2 then v2 else if y = x3 then some (.int k1 t1) else if y = x4 then some (.int k2 t2) else r y) := ⟨t1, t2, F⟩
theorem drop_hit {xs : List Int} {k : Nat} (hk : k < xs.length) : (xs.drop k).dropWhile (· == xs[k]) = (xs.drop (k + 1)).dropWhile (· == xs[k]) := by
  rw [List.drop_eq_getElem_cons hk, List.dropWhile_cons]
  simp
theorem drop_miss {xs : List Int} {k : Nat} {e : Int} (hk : k < xs.length) (hne : xs[k] ≠ e) : (xs.drop k).dropWhile (· == e) = xs.drop k := by
  rw [List.drop_eq_getElem_cons hk, List.dropWhile_cons]
  simp [hne]

structure SSt where
  i : Nat
  j : Nat
  ti : Tok
  tj : Tok
  us : List Value
  ws : List Value
  zs1 : List Int
  zs2 : List Int
  n3 : Nat
  n4 : Nat
  sl : Array (Option Value)

structure SSt.Ok (z : SSt) (xs ys : List Int) : Prop where
  hi : z.i ≤ xs.length
  hj : z.j ≤ ys.length
  e1 : z.zs1 ++ (sldP (xs.drop z.i) (ys.drop z.j)).1 = (sldP xs ys).1
  e2 : z.zs2 ++ (sldP (xs.drop z.i) (ys.drop z.j)).2 = (sldP xs ys).2
  l1 : z.zs1.length ≤ z.i
  l2 : z.zs2.length ≤ z.j

/-- the state at which an exception left the try -/
structure Held (g : Heap) (L' L : Addr) (oL : Obj) (a b c' d' : Addr) (xs ys : List Int) (z : SSt) (m' : Str → Option Value) (h : Heap) : Prop where
  at' : At g L' L oL m' h
  news : News g L' h [(d', W.listOf z.ws.toArray z.n4), (c', W.listOf z.us.toArray z.n3)]
  mi : m' "i" = some (.int z.i z.ti)
  mj : m' "j" = some (.int z.j z.tj)
  me : m' "expected" = some (.ref a)
  ma : m' "actual" = some (.ref b)
  mm : m' "missing" = some (.ref c')
  mu : m' "unexpected" = some (.ref d')
  i1 : IntsAre z.us z.zs1
  i2 : IntsAre z.ws z.zs2
  hi : z.i ≤ xs.length
  hj : z.j ≤ ys.length
  e1 : z.zs1 ++ xs.drop z.i = (sldP xs ys).1
  e2 : z.zs2 ++ ys.drop z.j = (sldP xs ys).2
  l1 : z.zs1.length ≤ z.i
  l2 : z.zs2.length ≤ z.j

def Thrown (g : Heap) (L' L : Addr) (oL : Obj) (a b c' d' : Addr) (xs ys : List Int) (s : Shared) (ev : Value) (s' : Shared) : Prop :=
  ∃ h tk z m' e t f0 c, s' = { s with heap := h, toks := tk } ∧ ev = .ref e ∧ Held g L' L oL a b c' d' xs ys z m' h ∧ h.get? e = some (xo "IndexError" t f0 c) ∧ g.get? e = none ∧
    (f0 = .none ∨ ∃ tb, f0 = .ref tb ∧ TB h tb (rawInt L') ∧ g.get? tb = none ∧ tb ≠ e) ∧
    (c = .none ∨ ∃ e1 o1 vs1, c = .ref e1 ∧ e1 ≠ e ∧ f0 ≠ .ref e1 ∧ h.get? e1 = some o1 ∧ o1.data = .fields vs1 ∧ vs1[2]? = some .none ∧ g.get? e1 = none)

theorem catch_ledger {g h1 h2 : Heap} {L' L a b c' d' e : Addr} {oL : Obj} {xs ys : List Int} {z : SSt} {m1 : Str → Option Value} {t f0 f c : Value} (H : Held g L' L oL a b c' d' xs ys z m1 h1)
    (hcL : c' ≠ L) (hdL : d' ≠ L) (he : h1.get? e = some (xo "IndexError" t f0 c)) (heg : g.get? e = none) (hf0 : f0 = .none ∨ ∃ tb, f0 = .ref tb ∧ TB h1 tb (rawInt L') ∧ g.get? tb = none ∧ tb ≠ e)
    (hc : c = .none ∨ ∃ e1 o1 vs1, c = .ref e1 ∧ e1 ≠ e ∧ f0 ≠ .ref e1 ∧ h1.get? e1 = some o1 ∧ o1.data = .fields vs1 ∧ vs1[2]? = some .none ∧ g.get? e1 = none)
    (a2 : At g L' L oL m1 h2) (he2 : h2.get? e = some (xo "IndexError" t f c)) (kk : ∀ q o, q ≠ L' → q ≠ L → q ≠ e → f0 ≠ .ref q → h1.get? q = some o → h2.get? q = some o) :
    ∃ sl rest, News g L' h2 ((d', W.listOf z.ws.toArray z.n4) :: (c', W.listOf z.us.toArray z.n3) :: (L, { oL with slots := sl }) :: rest) ∧ (∀ (A : Around) (h : Heap), A.handled = some (.ref e) → News g L' h rest → HandOk A h) ∧
      (∀ p ∈ (L, { oL with slots := sl }) :: rest, p.1 ≠ c' ∧ p.1 ≠ d') := by
  obtain ⟨sl, hL⟩ := a2.up
  obtain ⟨d1, d2, d3⟩ := H.news _ (.head _)
  obtain ⟨c1, c2, c3⟩ := H.news _ (.tail _ (.head _))
  have lf : ∀ {q o o' vs} , h1.get? q = some o → (∀ vs, o.data ≠ .fields vs) → ∀ {q'}, h1.get? q' = some o' → o'.data = .fields vs → q ≠ q' := by
    intro q o o' vs e1 n q' e2 d z
    rw [z, e2] at e1; cases e1; exact n _ d
  have nf : ∀ {q o}, h1.get? q = some o → (∀ vs, o.data ≠ .fields vs) → f0 ≠ .ref q := by
    intro q o e1 n z
    rcases hf0 with hf0 | ⟨tb, hf0, ⟨o', tvs, g1, g2, g3⟩, _⟩
    · rw [hf0] at z; cases z
    · rw [hf0] at z; cases z
      exact lf e1 n g1 g2 rfl
  have kd := kk d' _ d2 hdL (lf d1 (fun _ q => by cases q) he rfl) (nf d1 (fun _ q => by cases q)) d1
  have kc := kk c' _ c2 hcL (lf c1 (fun _ q => by cases q) he rfl) (nf c1 (fun _ q => by cases q)) c1
  have eL' : e ≠ L' := fun q => by
    obtain ⟨oF, es, ep, hF, hFd, _⟩ := a2.fr.ns
    rw [← q, he2] at hF
    have := congrArg Obj.data (Option.some.inj hF)
    rw [hFd] at this; cases this
  have ne : ((e, xo "IndexError" t f c) : Addr × Obj).1 ≠ c' ∧ e ≠ d' := ⟨Ne.symm (lf c1 (fun _ q => by cases q) he rfl), Ne.symm (lf d1 (fun _ q => by cases q) he rfl)⟩
  rcases hc with rfl | ⟨e1, o1, vs1, rfl, q1, q2, q3, q4, q5, q6⟩
  · refine ⟨sl, [(e, xo "IndexError" t f .none)], ?_, ?_, ?_⟩
    · intro p hp
      simp only [List.mem_cons, List.not_mem_nil, or_false] at hp
      rcases hp with rfl | rfl | rfl | rfl
      · exact ⟨kd, d2, d3⟩
      · exact ⟨kc, c2, c3⟩
      · exact ⟨hL, a2.ne, a2.out⟩
      · exact ⟨he2, eL', heg⟩
    · intro A h hA N
      exact .inr ⟨e, hA, _, _, .none, (N _ (.head _)).1, rfl, rfl, .inl rfl⟩
    · intro p hp
      simp only [List.mem_cons, List.not_mem_nil, or_false] at hp
      rcases hp with rfl | rfl
      · exact ⟨Ne.symm hcL, Ne.symm hdL⟩
      · exact ne
  · have e1L : e1 ≠ L' := fun q => by
      obtain ⟨oF, es, ep, hF, hFd, _⟩ := H.at'.fr.ns
      rw [← q, q3] at hF
      have := congrArg Obj.data (Option.some.inj hF)
      rw [hFd, q4] at this; cases this
    have e1L2 : e1 ≠ L := fun q => by
      obtain ⟨sl1, hL1⟩ := H.at'.up
      rw [← q, q3] at hL1
      have := congrArg Obj.data (Option.some.inj hL1)
      exact H.at'.nd _ (this.symm.trans q4)
    have k1 := kk e1 _ e1L e1L2 q1 q2 q3
    refine ⟨sl, [(e, xo "IndexError" t f (.ref e1)), (e1, o1)], ?_, ?_, ?_⟩
    · intro p hp
      simp only [List.mem_cons, List.not_mem_nil, or_false] at hp
      rcases hp with rfl | rfl | rfl | rfl | rfl
      · exact ⟨kd, d2, d3⟩
      · exact ⟨kc, c2, c3⟩
      · exact ⟨hL, a2.ne, a2.out⟩
      · exact ⟨he2, eL', heg⟩
      · exact ⟨k1, e1L, q6⟩
    · intro A h hA N
      exact .inr ⟨e, hA, _, _, .ref e1, (N _ (.head _)).1, rfl, rfl, .inr ⟨e1, o1, vs1, rfl, q1, (N _ (.tail _ (.head _))).1, q4, q5⟩⟩
    · intro p hp
      simp only [List.mem_cons, List.not_mem_nil, or_false] at hp
      rcases hp with rfl | rfl | rfl
      · exact ⟨Ne.symm hcL, Ne.symm hdL⟩
      · exact ne
      · exact ⟨Ne.symm (lf c1 (fun _ q => by cases q) q3 q4), Ne.symm (lf d1 (fun _ q => by cases q) q3 q4)⟩

theorem frBut {h₀ h h' : Heap} {L x : Addr} {m : Str → Option Value} (F : Fr h₀ L h m) (hx : x ≠ L) (hg : h₀.get? x = none) (k : ∀ q o, q ≠ x → h.get? q = some o → h'.get? q = some o) : Fr h₀ L h' m := by
  obtain ⟨o, es, ep, h1, h2⟩ := F.ns
  exact ⟨⟨o, es, ep, k _ _ (Ne.symm hx) h1, h2⟩, fun b o e => k b o (fun z => by rw [z, hg] at e; cases e) (F.keep b o e), F.above⟩
theorem newsBut {h₀ h h' : Heap} {L x : Addr} {news : List (Addr × Obj)} (N : News h₀ L h news) (hn : ∀ p ∈ news, p.1 ≠ x) (k : ∀ q o, q ≠ x → h.get? q = some o → h'.get? q = some o) : News h₀ L h' news :=
  fun p hp => ⟨k _ _ (hn p hp) (N p hp).1, (N p hp).2⟩

theorem thrown_new {g h h2 : Heap} {L' L a b c' d' x : Addr} {oL : Obj} {xs ys : List Int} {s : Shared} {tk2 : Nat} {m' : Str → Option Value} {c : Value} {sl : Array (Option Value)} {rest : List (Addr × Obj)} (z : SSt)
    (F : Fr g L' h m') (N : News g L' h ((d', W.listOf z.ws.toArray z.n4) :: (c', W.listOf z.us.toArray z.n3) :: (L, { oL with slots := sl }) :: rest)) (hnd : ∀ vs, oL.data ≠ .fields vs) (nx : NewX "IndexError" h h2 x c)
    (hc : c = .none ∨ ∃ e1 o1 vs1, c = .ref e1 ∧ h.get? e1 = some o1 ∧ o1.data = .fields vs1 ∧ vs1[2]? = some .none ∧ g.get? e1 = none)
    (mi : m' "i" = some (.int z.i z.ti)) (mj : m' "j" = some (.int z.j z.tj)) (me : m' "expected" = some (.ref a)) (ma : m' "actual" = some (.ref b)) (mm : m' "missing" = some (.ref c')) (mu : m' "unexpected" = some (.ref d'))
    (i1 : IntsAre z.us z.zs1) (i2 : IntsAre z.ws z.zs2) (hi : z.i ≤ xs.length) (hj : z.j ≤ ys.length) (e1 : z.zs1 ++ xs.drop z.i = (sldP xs ys).1) (e2 : z.zs2 ++ ys.drop z.j = (sldP xs ys).2) (l1 : z.zs1.length ≤ z.i) (l2 : z.zs2.length ≤ z.j) :
    Thrown g L' L oL a b c' d' xs ys s (.ref x) { s with heap := h2, toks := tk2 } := by
  obtain ⟨kp, nw, t, ht⟩ := nx
  have NL := N _ (.tail _ (.tail _ (.head _)))
  refine ⟨h2, tk2, z, m', x, t, .none, c, rfl, rfl, ⟨⟨frUp F kp, ⟨sl, kp _ _ NL.1⟩, NL.2.1, NL.2.2, hnd⟩, ?_, mi, mj, me, ma, mm, mu, i1, i2, hi, hj, e1, e2, l1, l2⟩, ht, none_down F.keep nw, .inl rfl, ?_⟩
  · intro p hp
    simp only [List.mem_cons, List.not_mem_nil, or_false] at hp
    rcases hp with rfl | rfl
    · exact newsUp N kp _ (.head _)
    · exact newsUp N kp _ (.tail _ (.head _))
  · rcases hc with hc | ⟨e1, o1, vs1, q1, q2, q3, q4, q5⟩
    · exact .inl hc
    · have n1 : e1 ≠ x := fun q => by rw [q, nw] at q2; cases q2
      have n2 : Value.none ≠ Value.ref e1 := fun q => by cases q
      exact .inr ⟨e1, o1, vs1, q1, n1, n2, kp _ _ q2, q3, q4, q5⟩

theorem step_lt {xs ys zs : List Int} {i j : Nat} (hi : i < xs.length) (hj : j < ys.length) (hlt : xs[i] < ys[j]) (e : zs = (xs.drop (i + 1)).dropWhile (· == xs[i])) :
    (sldP (xs.drop i) (ys.drop j)).1 = xs[i] :: (sldP zs (ys.drop j)).1 ∧ (sldP (xs.drop i) (ys.drop j)).2 = (sldP zs (ys.drop j)).2 := by
  rw [List.drop_eq_getElem_cons hi, List.drop_eq_getElem_cons hj, sldP, if_pos hlt, ← e]
  exact ⟨rfl, rfl⟩
theorem step_gt {xs ys zs : List Int} {i j : Nat} (hi : i < xs.length) (hj : j < ys.length) (hlt : ys[j] < xs[i]) (e : zs = (ys.drop (j + 1)).dropWhile (· == ys[j])) :
    (sldP (xs.drop i) (ys.drop j)).1 = (sldP (xs.drop i) zs).1 ∧ (sldP (xs.drop i) (ys.drop j)).2 = ys[j] :: (sldP (xs.drop i) zs).2 := by
  rw [List.drop_eq_getElem_cons hi, List.drop_eq_getElem_cons hj, sldP, if_neg (by omega), if_pos hlt, ← e]
  exact ⟨rfl, rfl⟩
theorem step_eq {xs ys zs zs' : List Int} {i j : Nat} (hi : i < xs.length) (hj : j < ys.length) (h1 : ¬ xs[i] < ys[j]) (h2 : ¬ ys[j] < xs[i]) (e : zs = (xs.drop (i + 1)).dropWhile (· == xs[i])) (e' : zs' = (ys.drop (j + 1)).dropWhile (· == ys[j])) :
    sldP (xs.drop i) (ys.drop j) = sldP zs zs' := by
  rw [List.drop_eq_getElem_cons hi, List.drop_eq_getElem_cons hj, sldP, if_neg h1, if_neg h2, ← e, ← e']

theorem try_shape {M : Model} {A : Around} {t : Sem Flow} {Q : Flow → Shared → Prop} {Eb : Value → Shared → Prop} {s : Shared} (ER : Value → Shared → Prop) (h1 : ∀ e s', ER e s' → Eb e s') (h2 : (∀ e s', ER e s' → Eb e s') → wpAny M A t Q Eb s) : wpAny M A t Q Eb s := h2 h1

set_option maxRecDepth 100000 in
set_option maxHeartbeats 8000000 in
theorem sld_call {w : World} {h₀ : Heap} {L al : Addr} {m : Str → Option Value} {cn : Str} {cs : Scope} {ccd : Value} {s s₀ : Shared} {mg mb : Str → Option Value} {E : Value → Shared → Prop}
  {a b : Addr} {xs ys : List Int} {Q : Value → Shared → Prop}
  (F : Fr h₀ L s.heap m) (X₀ : (hd.heap_39 w.params).In h₀) (T : Top hd.view_39 (looseW hd.view_39 []) (ExcName.means s₀.heap) mg mb h₀) (hck : cs.kind = .function)
  (Ra : RowAt s.heap a xs) (Rb : RowAt s.heap b ys) (hlx : xs.length ≤ 100) (hly : ys.length ≤ 100)
  (hQ : ∀ h' tk d c1 c2 us ws n1 n2, Fr h₀ L h' m → h'.get? d = some { cls := .type "tuple", data := .seq #[.ref c1, .ref c2] } → h'.get? c1 = some (W.listOf us.toArray n1) → h'.get? c2 = some (W.listOf ws.toArray n2) →
    IntsAre us (sldP xs ys).1 → IntsAre ws (sldP xs ys).2 → s.heap.get? d = none → s.heap.get? c1 = none → s.heap.get? c2 = none →
    (∀ q o, s.heap.get? q = some o → q ≠ L → h'.get? q = some o) → Q (.ref d) { s with heap := h', toks := tk }) :
  wpAny (model PySem.Challenge.rw_dz0121_01.row.prog w) (callerA.deeper (envOf cn cs L al ccd)) (call (.ref 21) [.ref a, .ref b]) Q E s := by
  revert X₀; k_fill; intro X₀
  refine wpAny_call ?_
  refine codeF (cn := cn) (cs := cs) (ccd := ccd) (a := al) (part := []) F X₀ News.nil T (by k_is) (by k_is) (by k_room) (by exact BindsTo.of_eq rfl) (locs rfl) ?_ hck
  intro g oL' h' X' T' tiC' tiF' tiE' F' N' hg'
  dsimp only at F'
  replace F' := fr2 (x1 := "expected") (v1 := .ref a) (x2 := "actual") (v2 := .ref b) F'
  simp only [List.nil_append] at N'
  generalize hL' : s.heap.objs.size = L' at *
  clear T X₀
  refine wpAny_noRaise ?_
  repeat' (first | (fail_if_success (with_reducible show wpAny _ _ (exec (Stmt.While _ _ _ _) _) _ _ _)); first | walk1)
  rename_i c' _ lc _ _ d' _ ld _ FF NN
  have hga : ∀ q o, s.heap.get? q = some o → q ≠ L → g.get? q = some o := fun q o e n => hg' q o e n (fun p hp => nomatch hp)
  have hLs : s.heap.get? L ≠ none := by
    obtain ⟨oL, _, _, hL, _⟩ := F.ns
    rw [hL]; intro q; cases q
  have hrow : ∀ {D zs}, RowAt s.heap D zs → RowAt g D zs := by
    intro D zs R
    obtain ⟨oL, es, ep, hL, hLd, _⟩ := F.ns
    have ne : ∀ o, s.heap.get? D = some o → (∀ es ep, o.data ≠ .dict es ep) → D ≠ L := fun o e n q => by
      rw [q, hL] at e; cases e; exact n _ _ hLd
    rcases R with ⟨vs, n, h1, h2⟩ | ⟨b, st, ct, t, u', v, h1, h2⟩
    · exact .inl ⟨vs, n, hga _ _ h1 (ne _ h1 (fun _ _ q => by cases q)), h2⟩
    · exact .inr ⟨b, st, ct, t, u', v, hga _ _ h1 (ne _ h1 (fun _ _ q => by cases q)), h2⟩
  have Ga := hrow Ra
  have Gb := hrow Rb
  generalize hsc : envOf _ _ L' 21 (Value.ref 20) = env
  have skip1 : ∀ (p1 p2 p3 p4 p5 p6 p7 p8 p9 : Pos) (A : Around) (news : List (Addr × Obj)) (m₀ : Str → Option Value) (e : Int) (te t0 : Tok) (i : Nat) (s1 : Shared) (E' : Value → Shared → Prop) (Q' : Flow → Shared → Prop),
      (∀ h, News g L' h news → HandOk A h) → Fr g L' s1.heap m₀ → News g L' s1.heap news → m₀ "expected" = some (.ref a) → m₀ "e" = some (.int e te) → m₀ "i" = some (.int i t0) → i ≤ xs.length →
      PassesOwn (model PySem.Challenge.rw_dz0121_01.row.prog w) A env E' →
      (∀ (i1 : Nat) (t1 : Tok) (h : Heap) (tk : Nat), i ≤ i1 → i1 < xs.length → xs.drop i1 = (xs.drop i).dropWhile (· == e) → Fr g L' h (fun y => if y = "i" then some (.int i1 t1) else m₀ y) → News g L' h news → Q' .next { s1 with heap := h, toks := tk }) →
      (∀ (t1 : Tok) (h h2 : Heap) (tk2 : Nat) (x : Addr), [] = (xs.drop i).dropWhile (· == e) → Fr g L' h (fun y => if y = "i" then some (.int xs.length t1) else m₀ y) → News g L' h news → NewX "IndexError" h h2 x (ctxOf A) → E' (.ref x) { s1 with heap := h2, toks := tk2 }) →
      wpAny (model PySem.Challenge.rw_dz0121_01.row.prog w) A (exec (Stmt.While (Expr.Compare (Expr.Subscript (Expr.Name "expected" p1) (Expr.Name "i" p2) p3) [CmpOp.Eq] [Expr.Name "e" p4] p5)
        [Stmt.AugAssign (Expr.Name "i" p6) Operator.Add (Expr.Constant (Const.int 1) 0 p7) p8] [] p9) env) Q' E' s1 := by
    intro p1 p2 p3 p4 p5 p6 p7 p8 p9 A news m₀ e te t0 i s1 E' Q' hA F1 N1 me1 me2 me3 hi hE kq ke
    subst hsc
    refine ksw_while (σ := Nat × Tok) (fun z => news) (fun z => [("i", .int z.1 z.2), ("expected", .ref a), ("e", .int e te)])
      (fun z => True) [] (fun z => i ≤ z.1 ∧ z.1 ≤ xs.length ∧ (xs.drop z.1).dropWhile (· == e) = (xs.drop i).dropWhile (· == e)) (fun z => xs.length - z.1)
      (i, t0) F1 N1 trivial ?hk ⟨Nat.le_refl _, hi, rfl⟩ ?turn hE
    case hk =>
      intro p hp
      simp only [List.mem_cons, List.not_mem_nil, or_false] at hp
      rcases hp with rfl | rfl | rfl
      · exact me3
      · exact me1
      · exact me2
    intro z uu h tk hf hp F2 N2
    obtain ⟨q1, q2, q3⟩ := hp
    repeat' (first | (fail_if_success (with_reducible show wpAny _ _ (subscriptTail _ _ _ _) _ _ _)); first | walk1 | (dsimp only; walk1))
    have em := skip_map (uu := uu) (kx := "i") (v1 := .int z.1 z.2) me1 me2
    by_cases hz : z.1 < xs.length
    · refine row_item (Ga.keeps F2.keep) hz hlx ?_
      intro t2 tk2
      repeat' (first | (fail_if_success (with_reducible show KswEnd _ _ _ _ _ _ _ _ _ _ _ _)); first | walk1 | (dsimp only; walk1))
      · rename_i hxe h3 F3 N3
        rw [em] at F3
        obtain ⟨tt, F4⟩ := pullT F3
        refine ksw_end (z.1 + 1, tt) F4 N3 (fun p hp => hp) trivial ?_ ?_ ⟨by show i ≤ z.1 + 1; omega, by show z.1 + 1 ≤ xs.length; omega, ?_⟩ (by show xs.length - (z.1 + 1) < xs.length - z.1; omega)
        · intro p hp
          simp only [List.mem_cons, List.not_mem_nil, or_false] at hp
          rcases hp with rfl | rfl | rfl
          · simp only [if_pos]; push_cast; rfl
          · have n1 : (Str.ofString "expected") ≠ Str.ofString "i" := by decide
            simp only [if_neg n1]
            exact me1
          · have n1 : (Str.ofString "e") ≠ Str.ofString "i" := by decide
            simp only [if_neg n1]
            exact me2
        · intro y hy hst
          have n1 : y ≠ Str.ofString "i" := hy _ (.head _)
          simp only [if_neg n1]
        · show (xs.drop (z.1 + 1)).dropWhile (· == e) = _
          rw [← q3, ← hxe]
          exact (drop_hit hz).symm
      · rename_i hxe
        refine kq z.1 z.2 h _ q1 hz ?_ ?_ N2
        · rw [← q3]
          exact (drop_miss hz hxe).symm
        · rw [em] at F2
          exact F2
    · have hz' : z.1 = xs.length := by omega
      refine row_out (hA _ N2) (Ga.keeps F2.keep) (by omega) (by omega) ?_
      intro h2 tk2 x nx
      refine ke z.2 h h2 tk2 x ?_ ?_ N2 nx
      · rw [← q3, hz']; simp
      · rw [em, hz'] at F2
        exact F2
  have skip2 : ∀ (p1 p2 p3 p4 p5 p6 p7 p8 p9 : Pos) (A : Around) (news : List (Addr × Obj)) (m₀ : Str → Option Value) (e : Int) (te t0 : Tok) (i : Nat) (s1 : Shared) (E' : Value → Shared → Prop) (Q' : Flow → Shared → Prop),
      (∀ h, News g L' h news → HandOk A h) → Fr g L' s1.heap m₀ → News g L' s1.heap news → m₀ "actual" = some (.ref b) → m₀ "a" = some (.int e te) → m₀ "j" = some (.int i t0) → i ≤ ys.length →
      PassesOwn (model PySem.Challenge.rw_dz0121_01.row.prog w) A env E' →
      (∀ (i1 : Nat) (t1 : Tok) (h : Heap) (tk : Nat), i ≤ i1 → i1 < ys.length → ys.drop i1 = (ys.drop i).dropWhile (· == e) → Fr g L' h (fun y => if y = "j" then some (.int i1 t1) else m₀ y) → News g L' h news → Q' .next { s1 with heap := h, toks := tk }) →
      (∀ (t1 : Tok) (h h2 : Heap) (tk2 : Nat) (x : Addr), [] = (ys.drop i).dropWhile (· == e) → Fr g L' h (fun y => if y = "j" then some (.int ys.length t1) else m₀ y) → News g L' h news → NewX "IndexError" h h2 x (ctxOf A) → E' (.ref x) { s1 with heap := h2, toks := tk2 }) →
      wpAny (model PySem.Challenge.rw_dz0121_01.row.prog w) A (exec (Stmt.While (Expr.Compare (Expr.Subscript (Expr.Name "actual" p1) (Expr.Name "j" p2) p3) [CmpOp.Eq] [Expr.Name "a" p4] p5)
        [Stmt.AugAssign (Expr.Name "j" p6) Operator.Add (Expr.Constant (Const.int 1) 0 p7) p8] [] p9) env) Q' E' s1 := by
    intro p1 p2 p3 p4 p5 p6 p7 p8 p9 A news m₀ e te t0 i s1 E' Q' hA F1 N1 me1 me2 me3 hi hE kq ke
    subst hsc
    clear skip1
    refine ksw_while (σ := Nat × Tok) (fun z => news) (fun z => [("j", .int z.1 z.2), ("actual", .ref b), ("a", .int e te)])
      (fun z => True) [] (fun z => i ≤ z.1 ∧ z.1 ≤ ys.length ∧ (ys.drop z.1).dropWhile (· == e) = (ys.drop i).dropWhile (· == e)) (fun z => ys.length - z.1)
      (i, t0) F1 N1 trivial ?hk2 ⟨Nat.le_refl _, hi, rfl⟩ ?turn2 hE
    case hk2 =>
      intro p hp
      simp only [List.mem_cons, List.not_mem_nil, or_false] at hp
      rcases hp with rfl | rfl | rfl
      · exact me3
      · exact me1
      · exact me2
    intro z uu h tk hf hp F2 N2
    obtain ⟨q1, q2, q3⟩ := hp
    repeat' (first | (fail_if_success (with_reducible show wpAny _ _ (subscriptTail _ _ _ _) _ _ _)); first | walk1 | (dsimp only; walk1))
    have em := skip_map (uu := uu) (kx := "j") (v1 := .int z.1 z.2) me1 me2
    by_cases hz : z.1 < ys.length
    · refine row_item (Gb.keeps F2.keep) hz hly ?_
      intro t2 tk2
      repeat' (first | (fail_if_success (with_reducible show KswEnd _ _ _ _ _ _ _ _ _ _ _ _)); first | walk1 | (dsimp only; walk1))
      · rename_i hxe h3 F3 N3
        rw [em] at F3
        obtain ⟨tt, F4⟩ := pullT F3
        refine ksw_end (z.1 + 1, tt) F4 N3 (fun p hp => hp) trivial ?_ ?_ ⟨by show i ≤ z.1 + 1; omega, by show z.1 + 1 ≤ ys.length; omega, ?_⟩ (by show ys.length - (z.1 + 1) < ys.length - z.1; omega)
        · intro p hp
          simp only [List.mem_cons, List.not_mem_nil, or_false] at hp
          rcases hp with rfl | rfl | rfl
          · simp only [if_pos]; push_cast; rfl
          · have n1 : (Str.ofString "actual") ≠ Str.ofString "j" := by decide
            simp only [if_neg n1]
            exact me1
          · have n1 : (Str.ofString "a") ≠ Str.ofString "j" := by decide
            simp only [if_neg n1]
            exact me2
        · intro y hy hst
          have n1 : y ≠ Str.ofString "j" := hy _ (.head _)
          simp only [if_neg n1]
        · show (ys.drop (z.1 + 1)).dropWhile (· == e) = _
          rw [← q3, ← hxe]
          exact (drop_hit hz).symm
      · rename_i hxe
        refine kq z.1 z.2 h _ q1 hz ?_ ?_ N2
        · rw [← q3]
          exact (drop_miss hz hxe).symm
        · rw [em] at F2
          exact F2
    · have hz' : z.1 = ys.length := by omega
      refine row_out (hA _ N2) (Gb.keeps F2.keep) (by omega) (by omega) ?_
      intro h2 tk2 x nx
      refine ke z.2 h h2 tk2 x ?_ ?_ N2 nx
      · rw [← q3, hz']; simp
      · rw [em, hz'] at F2
        exact F2
  refine wpAny_mono (Q := fun f s' => f = .next ∧ ∃ h tk m' us ws n3 n4 sl, s' = { s with heap := h, toks := tk } ∧ Fr g L' h m' ∧ News g L' h [(d', W.listOf (List.toArray ws) n4), (c', W.listOf (List.toArray us) n3), (L, { oL' with slots := sl })] ∧
    m' "missing" = some (.ref c') ∧ m' "unexpected" = some (.ref d') ∧ IntsAre us (sldP xs ys).1 ∧ IntsAre ws (sldP xs ys).2) ?loop ?fin (fun _ _ x => x)
  case fin =>
    clear skip1 skip2
    rintro f s' ⟨rfl, h, tk, m', us, ws, n3, n4, sl, rfl, F2, N2, me1, me2, i1, i2⟩
    subst hsc
    dsimp only
    have em : kstB m' [("missing", .ref c'), ("unexpected", .ref d')] = m' := by
      funext y
      refine kstB_eq (m₁ := m') ?_ fun _ => rfl
      intro p hp
      simp only [List.mem_cons, List.not_mem_nil, or_false] at hp
      rcases hp with rfl | rfl <;> assumption
    rw [← em] at F2
    clear FF NN
    repeat' (first | (fail_if_success (with_reducible show TI.LeaveI _ _)); first | walk1 | (dsimp only; walk1))
    rename_i D h9 F9 N9 l9
    refine leaveF (part := []) (new := [(D, { cls := .type "tuple", data := .seq #[.ref c', .ref d'] }), (d', W.listOf ws.toArray n4), (c', W.listOf us.toArray n3)]) F News.nil tiC' hg' F9 N9 ?_ ?_
    · exact TLgL.allNe_of (by
        intro p hp
        simp only [List.mem_cons, List.not_mem_nil, or_false] at hp
        rcases hp with rfl | rfl | rfl
        · exact neN (by dsimp only; omega)
        · exact neN (by dsimp only; omega)
        · exact neN (by dsimp only; omega))
    intro F3 N3 hk3
    have fr : ∀ x, g.get? x = none → x ≠ L → s.heap.get? x = none := fun x hx hn => freshF hg' hx hn (fun q hq => nomatch hq)
    exact hQ h9 tk D c' d' us ws n3 n4 F3 (N3 _ (.head _)).1 (N3 _ (.tail _ (.tail _ (.head _)))).1 (N3 _ (.tail _ (.head _))).1 i1 i2
      (fr _ (N9 _ (.head _)).2.2 (neN (by omega))) (fr _ (N9 _ (.tail _ (.tail _ (.head _)))).2.2 (neN (by omega))) (fr _ (N9 _ (.tail _ (.head _))).2.2 (neN (by omega)))
      fun q o hq hn => hk3 q o hq hn (fun p hp => nomatch hp)
  case loop =>
    have hneL : L ≠ L' := (NN _ (.tail _ (.tail _ (.head _)))).2.1
    have houtL : g.get? L = none := (NN _ (.tail _ (.tail _ (.head _)))).2.2
    have hndL : ∀ vs, oL'.data ≠ .fields vs := by
      obtain ⟨es, ep, hd⟩ := tiC'.dict
      intro vs q; rw [hd] at q; cases q
    obtain ⟨tj0, ti0, FF⟩ := init_tok FF
    refine ksw_while (σ := SSt) (fun z => [(d', W.listOf z.ws.toArray z.n4), (c', W.listOf z.us.toArray z.n3), (L, { oL' with slots := z.sl })])
      (fun z => [("i", .int z.i z.ti), ("j", .int z.j z.tj), ("missing", .ref c'), ("unexpected", .ref d'), ("expected", .ref a), ("actual", .ref b)])
      (fun z => IntsAre z.us z.zs1 ∧ IntsAre z.ws z.zs2) ["e", "a"] (fun z => z.Ok xs ys) (fun z => (xs.length - z.i) + (ys.length - z.j))
      { i := 0, j := 0, ti := ti0, tj := tj0, us := [], ws := [], zs1 := [], zs2 := [], n3 := 0, n4 := 0, sl := oL'.slots } FF NN ⟨.nil, .nil⟩ ?hk3 ⟨by simp, by simp, by simp, by simp, by simp, by simp⟩ ?turn3 PassesOwn.never
    case hk3 =>
      intro p hp
      simp only [List.mem_cons, List.not_mem_nil, or_false] at hp
      rcases hp with rfl | rfl | rfl | rfl | rfl | rfl <;> rfl
    intro z u h tk hf hp F1 N1
    obtain ⟨f1, f2⟩ := hf
    obtain ⟨o1, o2, o3, o4, o5, o6⟩ := hp
    have lu := f1.length
    have lw := f2.length
    subst hsc
    clear FF NN
    repeat' (first | (fail_if_success (with_reducible show wpAny _ _ (exec (Stmt.Try _ _ _ _ _) _) _ _ _)); first | walk1 | (dsimp only; walk1))
    refine wpAny_Try_except ?_
    refine try_shape (Thrown g L' L oL' a b c' d' xs ys s) ?ctch ?_
    case ctch =>
      clear skip1 skip2
      rintro ev s' ⟨h1, tk1, z1, m1, e, te, f0, c0, rfl, rfl, H, he, heg, hf0, hc0⟩
      refine caught_any (A₀ := callerA.deeper (envOf cn cs L al ccd)) (envC := envOf cn cs L al ccd) (L := L) (L' := L') rfl rfl ?_ H.at' T' (by decide +kernel) (by decide +kernel) (by decide +kernel) (by decide +kernel) (by decide +kernel) rfl rfl he heg hf0 ?_
      · show cs.kind ≠ .module
        rw [hck]; decide
      intro h2 f a2 he2 kk2
      obtain ⟨sl2, rest, N2, hA2, hr2⟩ := catch_ledger H (neN (by omega)) (neN (by omega)) he heg hf0 hc0 a2 he2 kk2
      have F2 := a2.fr
      have em : kstB m1 [("i", .int z1.i z1.ti), ("j", .int z1.j z1.tj), ("expected", .ref a), ("actual", .ref b), ("missing", .ref c'), ("unexpected", .ref d')] = m1 := by
        funext y
        refine kstB_eq (m₁ := m1) ?_ fun _ => rfl
        intro p hp
        simp only [List.mem_cons, List.not_mem_nil, or_false] at hp
        rcases hp with rfl | rfl | rfl | rfl | rfl | rfl
        · exact H.mi
        · exact H.mj
        · exact H.me
        · exact H.ma
        · exact H.mm
        · exact H.mu
      rw [← em] at F2
      obtain ⟨_, _, _, _, _, _, _, _, g1, g2, g3, g4, g5, g6, g7, g8⟩ := H
      clear F1 N1 a2 he2 kk2 he hf0 hc0 o1 o2 o3 o4 o5 o6 lu lw f1 f2
      repeat' (first | (fail_if_success (with_reducible show wpAny _ _ (subscriptTail _ _ _ _) _ _ _)); first | walk1 | (dsimp only; walk1))
      refine row_slice (s := { s with heap := h2, toks := tk1 }) (k := z1.i) (Ga.keeps F2.keep) g3 hlx ?_
      intro h3 tk3 R3 k3
      have F3 := frUp F2 k3
      have N3 := newsUp N2 k3
      clear F2 N2
      repeat' (first | (fail_if_success (with_reducible show wpAny _ _ (call (Value.builtin _) _) _ _ _)); first | walk1 | (dsimp only; walk1))
      refine row_extend (hA2 _ _ rfl (fun p hp => N3 p (.tail _ (.tail _ (.tail _ hp))))) R3 (by rw [List.length_drop]; omega) (N3 _ (.tail _ (.head _))).1 (by rw [g1.length]; omega) ?_
      intro h4 tk4 zs4 c4 k4 hS4 i4
      have nd' := N3 _ (.head _)
      have nc' := N3 _ (.tail _ (.head _))
      have hcd : c' ≠ d' := neN (by omega)
      have hdc : d' ≠ c' := neN (by omega)
      have F4 := frBut F3 nc'.2.1 nc'.2.2 k4
      have N4 : News g L' h4 ((d', W.listOf z1.ws.toArray z1.n4) :: (c', W.listOf (z1.us ++ zs4).toArray c4) :: (L, { oL' with slots := sl2 }) :: rest) := by
        intro p hp
        rcases List.mem_cons.mp hp with rfl | hp
        · exact ⟨k4 _ _ hdc nd'.1, nd'.2⟩
        · rcases List.mem_cons.mp hp with rfl | hp
          · exact ⟨hS4, nc'.2⟩
          · exact ⟨k4 _ _ (hr2 p hp).1 (N3 p (.tail _ (.tail _ hp))).1, (N3 p (.tail _ (.tail _ hp))).2⟩
      clear F3 N3 nd' nc' k4 hS4 R3 k3
      repeat' (first | (fail_if_success (with_reducible show wpAny _ _ (subscriptTail _ _ _ _) _ _ _)); first | walk1 | (dsimp only; walk1))
      refine row_slice (s := { s with heap := h4, toks := tk4 }) (k := z1.j) (Gb.keeps F4.keep) g4 hly ?_
      intro h5 tk5 R5 k5
      have F5 := frUp F4 k5
      have N5 := newsUp N4 k5
      clear F4 N4
      repeat' (first | (fail_if_success (with_reducible show wpAny _ _ (call (Value.builtin _) _) _ _ _)); first | walk1 | (dsimp only; walk1))
      refine row_extend (hA2 _ _ rfl (fun p hp => N5 p (.tail _ (.tail _ (.tail _ hp))))) R5 (by rw [List.length_drop]; omega) (N5 _ (.head _)).1 (by rw [g2.length]; omega) ?_
      intro h6 tk6 zs6 c6 k6 hS6 i6
      have nd' := N5 _ (.head _)
      have nc' := N5 _ (.tail _ (.head _))
      have F6 := frBut F5 nd'.2.1 nd'.2.2 k6
      have N6 : News g L' h6 [(d', W.listOf (z1.ws ++ zs6).toArray c6), (c', W.listOf (z1.us ++ zs4).toArray c4), (L, { oL' with slots := sl2 })] := by
        intro p hp
        rcases List.mem_cons.mp hp with rfl | hp
        · exact ⟨hS6, nd'.2⟩
        · rcases List.mem_cons.mp hp with rfl | hp
          · exact ⟨k6 _ _ hcd nc'.1, nc'.2⟩
          · rcases List.mem_cons.mp hp with rfl | hp
            · exact ⟨k6 _ _ (hr2 _ (.head _)).2 (N5 _ (.tail _ (.tail _ (.head _)))).1, (N5 _ (.tail _ (.tail _ (.head _)))).2⟩
            · exact nomatch hp
      clear F5 N5 nd' nc' k6 hS6 R5 k5
      repeat' (first | (fail_if_success (with_reducible show _ = _ ∧ _)); first | walk1 | (dsimp only; walk1))
      refine ⟨rfl, h6, tk6, _, _, _, _, _, _, rfl, F6, N6, rfl, rfl, ?_, ?_⟩
      · rw [← g5]; exact g1.append i4
      · rw [← g6]; exact g2.append i6
    intro hcatch
    repeat' (first | (fail_if_success (with_reducible show wpAny _ _ (subscriptTail _ _ _ _) _ _ _)); first | walk1 | (dsimp only; walk1))
    by_cases hzi : z.i < xs.length
    case neg =>
      refine row_out (.inl rfl) (Ga.keeps F1.keep) (by omega) (by omega) ?_
      intro h2 tk2 x nx
      have ez : xs.drop z.i = [] := List.drop_eq_nil_of_le (by omega)
      rw [ez, sldP_nil_left] at o3 o4
      exact hcatch _ _ (thrown_new z F1 N1 hndL nx (.inl rfl) rfl rfl rfl rfl rfl rfl f1 f2 o1 o2 (by rw [ez]; exact o3) o4 o5 o6)
    refine row_item (Ga.keeps F1.keep) hzi hlx ?_
    intro t2 tk2
    repeat' (first | (fail_if_success (with_reducible show wpAny _ _ (subscriptTail _ _ _ _) _ _ _)); first | walk1 | (dsimp only; walk1))
    rename_i h2 F2 N2
    by_cases hzj : z.j < ys.length
    case neg =>
      refine row_out (.inl rfl) (Gb.keeps F2.keep) (by omega) (by omega) ?_
      intro h3 tk3 x nx
      have ez : ys.drop z.j = [] := List.drop_eq_nil_of_le (by omega)
      rw [ez, sldP_nil_right] at o3 o4
      exact hcatch _ _ (thrown_new z F2 N2 hndL nx (.inl rfl) rfl rfl rfl rfl rfl rfl f1 f2 o1 o2 o3 (by rw [ez]; exact o4) o5 o6)
    refine row_item (Gb.keeps F2.keep) hzj hly ?_
    intro t3 tk3
    repeat' (first | (fail_if_success (with_reducible show wpAny _ _ (exec (Stmt.Try _ _ _ _ _) _) _ _ _)); (fail_if_success (with_reducible show wpAny _ _ (exec (Stmt.While _ _ _ _) _) _ _ _)); first | walk1 | (dsimp only; walk1))
    · -- e < a
      rename_i h4 F4 N4
      rename xs[z.i] < ys[z.j] => hlt
      simp only [List.push_toArray] at N4
      obtain ⟨t4, F4⟩ := pullT F4
      have st := fun {zs} e => step_lt (zs := zs) hzi hzj hlt e
      refine skip1 _ _ _ _ _ _ _ _ _ _ _ _ xs[z.i] t2 t4 (z.i + 1) _ _ _ (fun h _ => .inl rfl) F4 N4 rfl rfl rfl (by omega) (by passes_own) ?_ ?_
      · intro i1 t5 h5 tk5 q1 q2 q3 F5 N5
        obtain ⟨s1, s2⟩ := st q3
        repeat' (first | (fail_if_success (with_reducible show KswEnd _ _ _ _ _ _ _ _ _ _ _ _)); first | walk1 | (dsimp only; walk1))
        refine ksw_end { z with i := i1, ti := t5, us := z.us ++ [.int xs[z.i] t2], zs1 := z.zs1 ++ [xs[z.i]], n3 := z.n3 + 1 } F5 N5 (fun p hp => hp) ⟨f1.append (.cons _ _ .nil), f2⟩ ?_ ?_ ⟨by show i1 ≤ xs.length; omega, o2, ?_, ?_, ?_, o6⟩ (by show xs.length - i1 + (ys.length - z.j) < xs.length - z.i + (ys.length - z.j); omega)
        · intro p hp
          simp only [List.mem_cons, List.not_mem_nil, or_false] at hp
          rcases hp with rfl | rfl | rfl | rfl | rfl | rfl <;> rfl
        · intro y hy hst
          have n1 : y ≠ Str.ofString "i" := hy _ (.head _)
          have n2 : y ≠ Str.ofString "a" := by
            intro e; subst e; exact absurd hst (by decide)
          have n3 : y ≠ Str.ofString "e" := by
            intro e; subst e; exact absurd hst (by decide)
          have k1 : y ≠ Str.ofString "i" := hy _ (.head _)
          have k2 : y ≠ Str.ofString "j" := hy _ (.tail _ (.head _))
          have k3 : y ≠ Str.ofString "missing" := hy _ (.tail _ (.tail _ (.head _)))
          have k4 : y ≠ Str.ofString "unexpected" := hy _ (.tail _ (.tail _ (.tail _ (.head _))))
          have k5 : y ≠ Str.ofString "expected" := hy _ (.tail _ (.tail _ (.tail _ (.tail _ (.head _)))))
          have k6 : y ≠ Str.ofString "actual" := hy _ (.tail _ (.tail _ (.tail _ (.tail _ (.tail _ (.head _))))))
          rw [if_neg n1, if_neg n1, if_neg n2, if_neg n3]
          rw [kstB_of_ne (fun p hp => by
            simp only [List.mem_cons, List.not_mem_nil, or_false] at hp
            rcases hp with rfl | rfl | rfl | rfl | rfl | rfl <;> assumption)]
          simp only [hst, Bool.false_eq_true, if_false]
        · show (z.zs1 ++ [xs[z.i]]) ++ (sldP (xs.drop i1) (ys.drop z.j)).1 = _
          rw [List.append_assoc, List.singleton_append, ← s1]; exact o3
        · show z.zs2 ++ (sldP (xs.drop i1) (ys.drop z.j)).2 = _
          rw [← s2]; exact o4
        · show (z.zs1 ++ [xs[z.i]]).length ≤ i1
          rw [List.length_append, List.length_singleton]; omega
      · intro t5 h5 h6 tk6 x q F5 N5 nx
        obtain ⟨s1, s2⟩ := st q
        rw [sldP_nil_left] at s1 s2
        refine hcatch _ _ (thrown_new { z with i := xs.length, ti := t5, us := z.us ++ [.int xs[z.i] t2], zs1 := z.zs1 ++ [xs[z.i]], n3 := z.n3 + 1 } F5 N5 hndL nx (.inl rfl) rfl rfl rfl rfl rfl rfl (f1.append (.cons _ _ .nil)) f2 (Nat.le_refl _) o2 ?_ ?_ ?_ o6)
        · show (z.zs1 ++ [xs[z.i]]) ++ xs.drop xs.length = _
          rw [List.drop_length, List.append_nil, ← o3, s1]
        · show z.zs2 ++ ys.drop z.j = _
          rw [← o4, s2]
        · show (z.zs1 ++ [xs[z.i]]).length ≤ xs.length
          rw [List.length_append, List.length_singleton]; omega
    · -- e > a
      rename_i h4 F4 N4
      rename ys[z.j] < xs[z.i] => hlt
      simp only [List.push_toArray] at N4
      obtain ⟨t4, F4⟩ := pullT F4
      have st := fun {zs} e => step_gt (zs := zs) hzi hzj hlt e
      refine skip2 _ _ _ _ _ _ _ _ _ _ _ _ ys[z.j] t3 t4 (z.j + 1) _ _ _ (fun h _ => .inl rfl) F4 N4 rfl rfl rfl (by omega) (by passes_own) ?_ ?_
      · intro i1 t5 h5 tk5 q1 q2 q3 F5 N5
        obtain ⟨s1, s2⟩ := st q3
        repeat' (first | (fail_if_success (with_reducible show KswEnd _ _ _ _ _ _ _ _ _ _ _ _)); first | walk1 | (dsimp only; walk1))
        refine ksw_end { z with j := i1, tj := t5, ws := z.ws ++ [.int ys[z.j] t3], zs2 := z.zs2 ++ [ys[z.j]], n4 := z.n4 + 1 } F5 N5 (fun p hp => hp) ⟨f1, f2.append (.cons _ _ .nil)⟩ ?_ ?_ ⟨o1, by show i1 ≤ ys.length; omega, ?_, ?_, o5, ?_⟩ (by show xs.length - z.i + (ys.length - i1) < xs.length - z.i + (ys.length - z.j); omega)
        · intro p hp
          simp only [List.mem_cons, List.not_mem_nil, or_false] at hp
          rcases hp with rfl | rfl | rfl | rfl | rfl | rfl <;> rfl
        · intro y hy hst
          have n1 : y ≠ Str.ofString "j" := hy _ (.tail _ (.head _))
          have n2 : y ≠ Str.ofString "a" := by
            intro e; subst e; exact absurd hst (by decide)
          have n3 : y ≠ Str.ofString "e" := by
            intro e; subst e; exact absurd hst (by decide)
          have k1 : y ≠ Str.ofString "i" := hy _ (.head _)
          have k2 : y ≠ Str.ofString "j" := hy _ (.tail _ (.head _))
          have k3 : y ≠ Str.ofString "missing" := hy _ (.tail _ (.tail _ (.head _)))
          have k4 : y ≠ Str.ofString "unexpected" := hy _ (.tail _ (.tail _ (.tail _ (.head _))))
          have k5 : y ≠ Str.ofString "expected" := hy _ (.tail _ (.tail _ (.tail _ (.tail _ (.head _)))))
          have k6 : y ≠ Str.ofString "actual" := hy _ (.tail _ (.tail _ (.tail _ (.tail _ (.tail _ (.head _))))))
          rw [if_neg n1, if_neg n1, if_neg n2, if_neg n3]
          rw [kstB_of_ne (fun p hp => by
            simp only [List.mem_cons, List.not_mem_nil, or_false] at hp
            rcases hp with rfl | rfl | rfl | rfl | rfl | rfl <;> assumption)]
          simp only [hst, Bool.false_eq_true, if_false]
        · show z.zs1 ++ (sldP (xs.drop z.i) (ys.drop i1)).1 = _
          rw [← s1]; exact o3
        · show (z.zs2 ++ [ys[z.j]]) ++ (sldP (xs.drop z.i) (ys.drop i1)).2 = _
          rw [List.append_assoc, List.singleton_append, ← s2]; exact o4
        · show (z.zs2 ++ [ys[z.j]]).length ≤ i1
          rw [List.length_append, List.length_singleton]; omega
      · intro t5 h5 h6 tk6 x q F5 N5 nx
        obtain ⟨s1, s2⟩ := st q
        rw [sldP_nil_right] at s1 s2
        refine hcatch _ _ (thrown_new { z with j := ys.length, tj := t5, ws := z.ws ++ [.int ys[z.j] t3], zs2 := z.zs2 ++ [ys[z.j]], n4 := z.n4 + 1 } F5 N5 hndL nx (.inl rfl) rfl rfl rfl rfl rfl rfl f1 (f2.append (.cons _ _ .nil)) o1 (Nat.le_refl _) ?_ ?_ o5 ?_)
        · show z.zs1 ++ xs.drop z.i = _
          rw [← o3, s1]
        · show (z.zs2 ++ [ys[z.j]]) ++ ys.drop ys.length = _
          rw [List.drop_length, List.append_nil, ← o4, s2]
        · show (z.zs2 ++ [ys[z.j]]).length ≤ ys.length
          rw [List.length_append, List.length_singleton]; omega
    · -- equal
      rename_i h4 F4 N4
      rename ¬ xs[z.i] < ys[z.j] => hlt0
      rename ¬ ys[z.j] < xs[z.i] => hlt1
      obtain ⟨t4, F4⟩ := pullT F4
      have st := fun {zs zs'} e e' => step_eq (zs := zs) (zs' := zs') hzi hzj hlt0 hlt1 e e'
      refine wpAny_Try_finally ?_
      repeat' (first | (fail_if_success (with_reducible show wpAny _ _ (exec (Stmt.While _ _ _ _) _) _ _ _)); first | walk1 | (dsimp only; walk1))
      refine skip1 _ _ _ _ _ _ _ _ _ _ _ _ xs[z.i] t2 t4 (z.i + 1) _ _ _ (fun h _ => .inl rfl) F4 N4 rfl rfl rfl (by omega) (by passes_own) ?_ ?_
      · intro i1 t5 h5 tk5 q1 q2 q3 F5 N5
        clear F4 N4
        dsimp only
        repeat' (first | (fail_if_success (with_reducible show wpAny _ _ (execs (_ :: _) _) _ _ _)); first | walk1 | (dsimp only; walk1))
        refine wpAny_passesOwn (by passes_own) ?_
        repeat' (first | (fail_if_success (with_reducible show wpAny _ _ (exec (Stmt.While _ _ _ _) _) _ _ _)); first | walk1 | (dsimp only; walk1))
        rename_i h6 F6 N6
        obtain ⟨t6, F6⟩ := pullT F6
        refine skip2 _ _ _ _ _ _ _ _ _ _ _ _ ys[z.j] t3 t6 (z.j + 1) _ _ _ (fun h _ => .inl rfl) F6 N6 rfl rfl rfl (by omega) (by passes_own) ?_ ?_
        · intro j1 t7 h7 tk7 r1 r2 r3 F7 N7
          have s0 := st q3 r3
          repeat' (first | (fail_if_success (with_reducible show KswEnd _ _ _ _ _ _ _ _ _ _ _ _)); first | walk1 | (dsimp only; walk1))
          refine ksw_end { z with i := i1, ti := t5, j := j1, tj := t7 } F7 N7 (fun p hp => hp) ⟨f1, f2⟩ ?_ ?_ ⟨by show i1 ≤ xs.length; omega, by show j1 ≤ ys.length; omega, ?_, ?_, by show z.zs1.length ≤ i1; omega, by show z.zs2.length ≤ j1; omega⟩ (by show xs.length - i1 + (ys.length - j1) < xs.length - z.i + (ys.length - z.j); omega)
          · intro p hp
            simp only [List.mem_cons, List.not_mem_nil, or_false] at hp
            rcases hp with rfl | rfl | rfl | rfl | rfl | rfl <;> rfl
          · intro y hy hst
            have n2 : y ≠ Str.ofString "a" := by
              intro e; subst e; exact absurd hst (by decide)
            have n3 : y ≠ Str.ofString "e" := by
              intro e; subst e; exact absurd hst (by decide)
            have k1 : y ≠ Str.ofString "i" := hy _ (.head _)
            have k2 : y ≠ Str.ofString "j" := hy _ (.tail _ (.head _))
            have k3 : y ≠ Str.ofString "missing" := hy _ (.tail _ (.tail _ (.head _)))
            have k4 : y ≠ Str.ofString "unexpected" := hy _ (.tail _ (.tail _ (.tail _ (.head _))))
            have k5 : y ≠ Str.ofString "expected" := hy _ (.tail _ (.tail _ (.tail _ (.tail _ (.head _)))))
            have k6 : y ≠ Str.ofString "actual" := hy _ (.tail _ (.tail _ (.tail _ (.tail _ (.tail _ (.head _))))))
            rw [if_neg k2, if_neg k2, if_neg k1, if_neg k1, if_neg n2, if_neg n3]
            rw [kstB_of_ne (fun p hp => by
              simp only [List.mem_cons, List.not_mem_nil, or_false] at hp
              rcases hp with rfl | rfl | rfl | rfl | rfl | rfl <;> assumption)]
            simp only [hst, Bool.false_eq_true, if_false]
          · show z.zs1 ++ (sldP (xs.drop i1) (ys.drop j1)).1 = _
            rw [← s0]; exact o3
          · show z.zs2 ++ (sldP (xs.drop i1) (ys.drop j1)).2 = _
            rw [← s0]; exact o4
        · intro t7 h7 h8 tk8 x q F7 N7 nx
          have s0 := st q3 q
          rw [sldP_nil_right] at s0
          rw [s0] at o3 o4
          refine hcatch _ _ (thrown_new { z with i := i1, ti := t5, j := ys.length, tj := t7 } F7 N7 hndL nx (.inl rfl) rfl rfl rfl rfl rfl rfl f1 f2 (by show i1 ≤ xs.length; omega) (Nat.le_refl _) o3 ?_ (by show z.zs1.length ≤ i1; omega) (by show z.zs2.length ≤ ys.length; omega))
          show z.zs2 ++ ys.drop ys.length = _
          rw [List.drop_length]; exact o4
      · intro t5 h5 h6 tk6 x q F5 N5 nx
        clear F4 N4
        obtain ⟨kp, nw, t, ht⟩ := nx
        have ht' : h6.get? x = some (xo "IndexError" t .none .none) := ht
        have nd5 := N5 _ (.head _)
        have nc5 := N5 _ (.tail _ (.head _))
        have nL5 := N5 _ (.tail _ (.tail _ (.head _)))
        have hgx : g.get? x = none := none_down F5.keep nw
        refine fin_raised (A₀ := callerA.deeper (envOf cn cs L al ccd)) (envC := envOf cn cs L al ccd) (L := L) (oL := oL') rfl rfl ?_ ⟨frUp F5 kp, ⟨z.sl, kp _ _ nL5.1⟩, hneL, houtL, hndL⟩ rfl ht' hgx ?_
        · show cs.kind ≠ .module
          rw [hck]; decide
        intro h7 tb a7 he7 B7 htb kk7
        obtain ⟨sl7, hL7⟩ := a7.up
        obtain ⟨otb, tvs, b1, b2, b3⟩ := id B7
        have hgtb : g.get? tb = none := none_down (fun q o e => kp _ _ (F5.keep q o e)) htb
        have dx : d' ≠ x := fun q => by rw [q, nw] at nd5; cases nd5.1
        have cx : c' ≠ x := fun q => by rw [q, nw] at nc5; cases nc5.1
        have dL : d' ≠ L := neN (by omega)
        have cL : c' ≠ L := neN (by omega)
        have xL' : x ≠ L' := fun q => by
          obtain ⟨oF, es, ep, hF, hFd, _⟩ := a7.fr.ns
          rw [← q, he7] at hF
          have := congrArg Obj.data (Option.some.inj hF)
          rw [hFd] at this; cases this
        have tL' : tb ≠ L' := fun q => by
          obtain ⟨oF, es, ep, hF, hFd, _⟩ := a7.fr.ns
          rw [← q, b1] at hF
          have := congrArg Obj.data (Option.some.inj hF)
          rw [hFd, b2] at this; cases this
        have tx : tb ≠ x := fun q => by rw [q, ht'] at htb; cases htb
        have td : d' ≠ tb := fun q => by rw [← q, kp _ _ nd5.1] at htb; cases htb
        have tc : c' ≠ tb := fun q => by rw [← q, kp _ _ nc5.1] at htb; cases htb
        have N7 : News g L' h7 [(d', W.listOf z.ws.toArray z.n4), (c', W.listOf z.us.toArray z.n3), (L, { oL' with slots := sl7 }), (x, xo "IndexError" t (.ref tb) .none), (tb, otb)] := by
          intro p hp
          simp only [List.mem_cons, List.not_mem_nil, or_false] at hp
          rcases hp with rfl | rfl | rfl | rfl | rfl
          · exact ⟨kk7 _ _ nd5.2.1 dL dx (kp _ _ nd5.1), nd5.2⟩
          · exact ⟨kk7 _ _ nc5.2.1 cL cx (kp _ _ nc5.1), nc5.2⟩
          · exact ⟨hL7, nL5.2⟩
          · exact ⟨he7, xL', hgx⟩
          · exact ⟨b1, tL', hgtb⟩
        have F7 := a7.fr
        clear F5 N5 nd5 nc5 nL5
        refine wpAny_passesOwnAt (by passes_own) ?_
        repeat' (first | (fail_if_success (with_reducible show wpAny _ _ (exec (Stmt.While _ _ _ _) _) _ _ _)); first | walk1 | (dsimp only; walk1))
        rename_i h8 F8 N8
        obtain ⟨t8, F8⟩ := pullT F8
        refine skip2 _ _ _ _ _ _ _ _ _ _ _ _ ys[z.j] t3 t8 (z.j + 1) _ _ _ (fun h N => .inr ⟨x, rfl, _, _, .none, (N _ (.tail _ (.tail _ (.tail _ (.head _))))).1, rfl, rfl, .inl rfl⟩) F8 N8 rfl rfl rfl (by omega) (PassesOwnAt.lookingOf (SameStack.mark _ _)) ?_ ?_
        · intro j1 t9 h9 tk9 r1 r2 r3 F9 N9
          have s0 := st q r3
          rw [sldP_nil_left] at s0
          rw [s0] at o3 o4
          dsimp only
          have a9 : At g L' L oL' _ h9 := ⟨F9, ⟨sl7, (N9 _ (.tail _ (.tail _ (.head _)))).1⟩, hneL, houtL, hndL⟩
          have he9 : h9.get? x = some (xo "IndexError" t (.ref tb) .none) := (N9 _ (.tail _ (.tail _ (.tail _ (.head _))))).1
          have B9 : TB h9 tb .none := ⟨otb, tvs, (N9 _ (.tail _ (.tail _ (.tail _ (.tail _ (.head _)))))).1, b2, b3⟩
          refine wpAny_execs_nil ?_
          dsimp only
          refine pass_on (s := { s with heap := h9, toks := tk9 }) a9 he9 B9 hgtb tx ?_
          intro h10 a10 he10 B10 k10
          refine hcatch _ _ ⟨h10, _, { z with i := xs.length, ti := t5, j := j1, tj := t9 }, _, x, t, .ref tb, .none, rfl, rfl, ⟨a10, ?_, rfl, rfl, rfl, rfl, rfl, rfl, f1, f2, Nat.le_refl _, by show j1 ≤ ys.length; omega, ?_, o4, by show z.zs1.length ≤ xs.length; omega, by show z.zs2.length ≤ j1; omega⟩, he10, hgx, .inr ⟨tb, rfl, B10, hgtb, tx⟩, .inl rfl⟩
          · intro p hp
            simp only [List.mem_cons, List.not_mem_nil, or_false] at hp
            rcases hp with rfl | rfl
            · exact ⟨k10 _ _ td (N9 _ (.head _)).1, (N9 _ (.head _)).2⟩
            · exact ⟨k10 _ _ tc (N9 _ (.tail _ (.head _))).1, (N9 _ (.tail _ (.head _))).2⟩
          · show z.zs1 ++ xs.drop xs.length = _
            rw [List.drop_length]; exact o3
        · intro t9 h9 h10 tk10 x2 q2 F9 N9 nx2
          have s0 := st q q2
          rw [sldP_nil_left] at s0
          rw [s0] at o3 o4
          refine hcatch _ _ (thrown_new { z with i := xs.length, ti := t5, j := ys.length, tj := t9 } F9 N9 hndL nx2 (.inr ⟨x, _, _, rfl, (N9 _ (.tail _ (.tail _ (.tail _ (.head _))))).1, rfl, rfl, hgx⟩) rfl rfl rfl rfl rfl rfl f1 f2 (Nat.le_refl _) (Nat.le_refl _) ?_ ?_ (by show z.zs1.length ≤ xs.length; omega) (by show z.zs2.length ≤ ys.length; omega))
          · show z.zs1 ++ xs.drop xs.length = _
            rw [List.drop_length]; exact o3
          · show z.zs2 ++ ys.drop ys.length = _
            rw [List.drop_length]; exact o4
end Mine
end

section
theorem Mine.offDzPure : True := by
  w_top off
  trivial
open PySem PySem.W PyProof.Rows PySem.Calls
set_option Elab.async false
namespace Mine

/-- blocks: each key y stands c y times -/
def blk (c : Int → Nat) (ks : List Int) : List Int := ks.flatMap fun y => List.replicate (c y) y
theorem blk_nil (c : Int → Nat) : blk c [] = [] := rfl
theorem blk_cons (c : Int → Nat) (x : Int) (ks : List Int) : blk c (x :: ks) = List.replicate (c x) x ++ blk c ks := by simp [blk]
theorem blk_congr {c c' : Int → Nat} : ∀ {ks : List Int}, (∀ y ∈ ks, c y = c' y) → blk c ks = blk c' ks
  | [], _ => rfl
  | x :: ks, h => by rw [blk_cons, blk_cons, h x (.head _), blk_congr fun y hy => h y (.tail _ hy)]
theorem mem_blk {c : Int → Nat} {ks : List Int} {x : Int} : x ∈ blk c ks ↔ x ∈ ks ∧ 0 < c x := by
  unfold blk
  rw [List.mem_flatMap]
  constructor
  · rintro ⟨y, hy, hx⟩
    rw [List.mem_replicate] at hx
    obtain ⟨h1, rfl⟩ := hx
    exact ⟨hy, by omega⟩
  · rintro ⟨h1, h2⟩
    exact ⟨x, h1, by rw [List.mem_replicate]; exact ⟨by omega, rfl⟩⟩
theorem blk_reverse (c : Int → Nat) (ks : List Int) : (blk c ks).reverse = blk c ks.reverse := by
  induction ks with
  | nil => rfl
  | cons x ks ih =>
    rw [blk_cons, List.reverse_append, ih, List.reverse_replicate, List.reverse_cons]
    unfold blk
    rw [List.flatMap_append]
    simp

def dec (c : Int → Nat) (x : Int) (m : Nat) : Int → Nat := fun y => if y = x then c y - m else c y
theorem blk_dec_notin {c : Int → Nat} {x : Int} {m : Nat} {ks : List Int} (h : x ∉ ks) : blk (dec c x m) ks = blk c ks := by
  refine blk_congr fun y hy => ?_
  unfold dec
  have hne : y ≠ x := fun q => h (q ▸ hy)
  rw [if_neg hne]
theorem blk_erase {c : Int → Nat} {x : Int} : ∀ {ks : List Int}, ks.Nodup → x ∈ ks → 0 < c x → (blk c ks).erase x = blk (dec c x 1) ks
  | [], _, h, _ => nomatch h
  | k :: ks, hn, hx, hc => by
    rw [List.nodup_cons] at hn
    rw [blk_cons, blk_cons]
    by_cases hk : k = x
    · subst hk
      have h1 : dec c k 1 k = c k - 1 := by simp [dec]
      have h2 : List.replicate (c k) k = k :: List.replicate (c k - 1) k := by
        rw [← List.replicate_succ]; congr 1; omega
      rw [h1, h2, List.cons_append, List.erase_cons_head, blk_dec_notin hn.1]
    · have hx' : x ∈ ks := by
        rcases List.mem_cons.mp hx with e | e
        · exact absurd e.symm hk
        · exact e
      have h1 : dec c x 1 k = c k := by simp [dec, hk]
      rw [h1, List.erase_append_right _ (by rw [List.mem_replicate]; exact fun q => hk q.2.symm), blk_erase hn.2 hx' hc]

theorem ustep_blk {c : Int → Nat} {x : Int} {ks zs : List Int} (hn : ks.Nodup) :
    uStep x (blk c ks, zs) = (blk (dec c x 1) ks, zs ++ List.replicate (1 - (if x ∈ ks then c x else 0)) x) := by
  unfold uStep
  by_cases hx : x ∈ ks
  · by_cases hc : 0 < c x
    · have : x ∈ blk c ks := mem_blk.mpr ⟨hx, hc⟩
      rw [if_pos this, blk_erase hn hx hc, if_pos hx]
      have : 1 - c x = 0 := by omega
      rw [this]; simp
    · have : x ∉ blk c ks := fun q => hc (mem_blk.mp q).2
      rw [if_neg this, if_pos hx]
      have e : c x = 0 := by omega
      have : blk (dec c x 1) ks = blk c ks := blk_congr fun y _ => by
        unfold dec
        by_cases hy : y = x
        · rw [if_pos hy, hy, e]
        · rw [if_neg hy]
      rw [this, e]; simp
  · have : x ∉ blk c ks := fun q => hx (mem_blk.mp q).1
    rw [if_neg this, if_neg hx, blk_dec_notin hx]; simp

theorem ublock {x : Int} {ks : List Int} (hn : ks.Nodup) : ∀ (m : Nat) {c : Int → Nat} {zs : List Int},
    (List.replicate m x).foldr uStep (blk c ks, zs) = (blk (dec c x m) ks, zs ++ List.replicate (m - (if x ∈ ks then c x else 0)) x)
  | 0, c, zs => by
    have : dec c x 0 = c := by
      funext y; unfold dec; split <;> simp
    rw [this]; simp
  | m + 1, c, zs => by
    rw [List.replicate_succ, List.foldr_cons, ublock hn m, ustep_blk hn]
    have e1 : dec (dec c x m) x 1 = dec c x (m + 1) := by
      funext y; unfold dec
      by_cases hy : y = x
      · simp only [hy, if_true]; omega
      · simp only [hy, if_false]
    rw [e1, List.append_assoc, List.replicate_append_replicate]
    congr 3
    have e2 : dec c x m x = c x - m := by simp [dec]
    rw [e2]
    split <;> omega

theorem uld_blk {a c : Int → Nat} {K2 : List Int} (h2 : K2.Nodup) : ∀ {K1 : List Int} (_ : K1.Nodup) (zs : List Int),
    uldF (blk a K1) (blk c K2) zs = (blk (fun y => c y - (if y ∈ K1 then a y else 0)) K2, zs ++ (blk (fun y => a y - (if y ∈ K2 then c y else 0)) K1).reverse)
  | [], _, zs => by
    simp [uldF, blk_nil]
  | x :: K, h1, zs => by
    rw [List.nodup_cons] at h1
    have ih := uld_blk (a := a) (c := c) h2 h1.2 zs
    unfold uldF at ih ⊢
    rw [blk_cons, List.foldr_append, ih, ublock h2]
    refine Prod.ext ?_ ?_
    · refine blk_congr fun y hy => ?_
      unfold dec
      by_cases hyx : y = x
      · subst hyx
        simp only [if_true, if_neg h1.1, List.mem_cons, true_or]; omega
      · simp only [hyx, if_false, List.mem_cons, false_or]
    · show _ ++ _ = zs ++ (blk _ (x :: K)).reverse
      rw [blk_cons, List.reverse_append, List.reverse_replicate, List.append_assoc]
      congr 3
      simp only [if_neg h1.1, Nat.sub_zero]

/-- the answer of sorted_list_difference on one side -/
def offC (a : Int → Nat) (K2 : List Int) : Int → Nat := fun y => if y ∈ K2 then 0 else if ∃ z ∈ K2, y < z then 1 else a y

theorem dropWhile_blk {c : Int → Nat} {x : Int} : ∀ {ks : List Int} (n : Nat), (∀ y ∈ ks, x < y) → (List.replicate n x ++ blk c ks).dropWhile (· == x) = blk c ks
  | ks, 0, h => by
    rw [List.replicate_zero, List.nil_append]
    cases hb : blk c ks with
    | nil => rfl
    | cons z zs =>
      have : z ∈ blk c ks := by rw [hb]; exact .head _
      have := h z (mem_blk.mp this).1
      rw [List.dropWhile_cons]
      have e : (z == x) = false := by
        rw [beq_eq_false_iff_ne]; omega
      rw [e]; rfl
  | ks, n + 1, h => by
    rw [List.replicate_succ, List.cons_append, List.dropWhile_cons]
    simp only [beq_self_eq_true, if_true]
    exact dropWhile_blk n h

theorem sld_blk {a c : Int → Nat} : ∀ (n : Nat) {K1 K2 : List Int}, K1.length + K2.length ≤ n → K1.Pairwise (· < ·) → K2.Pairwise (· < ·) → (∀ y ∈ K1, 0 < a y) → (∀ y ∈ K2, 0 < c y) →
    sldP (blk a K1) (blk c K2) = (blk (offC a K2) K1, blk (offC c K1) K2)
  | n, [], K2, _, _, _, _, _ => by
    rw [blk_nil, sldP_nil_left]
    refine Prod.ext rfl (blk_congr fun y hy => ?_)
    simp [offC]
  | n, x :: K1, [], _, _, _, _, _ => by
    rw [blk_nil, sldP_nil_right]
    refine Prod.ext (blk_congr fun y hy => ?_) rfl
    simp [offC]
  | 0, x :: K1, y :: K2, hl, _, _, _, _ => by simp at hl
  | n + 1, x :: K1, y :: K2, hl, h1, h2, ha, hc => by
    have g1 := List.pairwise_cons.mp h1
    have g2 := List.pairwise_cons.mp h2
    have e1 : blk a (x :: K1) = x :: (List.replicate (a x - 1) x ++ blk a K1) := by
      rw [blk_cons, ← List.cons_append, ← List.replicate_succ]; congr 2; have := ha x (.head _); omega
    have e2 : blk c (y :: K2) = y :: (List.replicate (c y - 1) y ++ blk c K2) := by
      rw [blk_cons, ← List.cons_append, ← List.replicate_succ]; congr 2; have := hc y (.head _); omega
    simp only [List.length_cons] at hl
    by_cases hxy : x < y
    · have ih := sld_blk (a := a) (c := c) n (K1 := K1) (K2 := y :: K2) (by simp only [List.length_cons]; omega) g1.2 h2 (fun z hz => ha z (.tail _ hz)) hc
      rw [e2] at ih
      rw [e1, e2, sldP, if_pos hxy, dropWhile_blk _ g1.1, ih]
      have hx : x ∉ y :: K2 := fun q => by
        rcases List.mem_cons.mp q with q | q
        · omega
        · have := g2.1 x q; omega
      refine Prod.ext ?_ ?_
      · show x :: blk _ K1 = blk _ (x :: K1)
        rw [blk_cons]
        have : offC a (y :: K2) x = 1 := by
          unfold offC
          rw [if_neg hx, if_pos ⟨y, .head _, hxy⟩]
        rw [this]; rfl
      · refine blk_congr fun z hz => ?_
        have hzx : x < z := by
          rcases List.mem_cons.mp hz with rfl | q
          · exact hxy
          · have := g2.1 z q; omega
        unfold offC
        have m1 : (z ∈ x :: K1) ↔ z ∈ K1 := by
          rw [List.mem_cons]; constructor
          · rintro (q | q)
            · omega
            · exact q
          · exact .inr
        have m2 : (∃ w ∈ x :: K1, z < w) ↔ ∃ w ∈ K1, z < w := by
          constructor
          · rintro ⟨w, hw, q⟩
            rcases List.mem_cons.mp hw with rfl | hw
            · omega
            · exact ⟨w, hw, q⟩
          · rintro ⟨w, hw, q⟩
            exact ⟨w, .tail _ hw, q⟩
        simp only [m1, m2]
    · by_cases hyx : y < x
      · have ih := sld_blk (a := a) (c := c) n (K1 := x :: K1) (K2 := K2) (by simp only [List.length_cons]; omega) h1 g2.2 ha (fun z hz => hc z (.tail _ hz))
        rw [e1] at ih
        rw [e1, e2, sldP, if_neg hxy, if_pos hyx, dropWhile_blk _ g2.1, ih]
        have hy : y ∉ x :: K1 := fun q => by
          rcases List.mem_cons.mp q with q | q
          · omega
          · have := g1.1 y q; omega
        refine Prod.ext ?_ ?_
        · refine blk_congr fun z hz => ?_
          have hzx : y < z := by
            rcases List.mem_cons.mp hz with rfl | q
            · exact hyx
            · have := g1.1 z q; omega
          unfold offC
          have m1 : (z ∈ y :: K2) ↔ z ∈ K2 := by
            rw [List.mem_cons]; constructor
            · rintro (q | q)
              · omega
              · exact q
            · exact .inr
          have m2 : (∃ w ∈ y :: K2, z < w) ↔ ∃ w ∈ K2, z < w := by
            constructor
            · rintro ⟨w, hw, q⟩
              rcases List.mem_cons.mp hw with rfl | hw
              · omega
              · exact ⟨w, hw, q⟩
            · rintro ⟨w, hw, q⟩
              exact ⟨w, .tail _ hw, q⟩
          simp only [m1, m2]
        · show y :: blk _ K2 = blk _ (y :: K2)
          rw [blk_cons]
          have : offC c (x :: K1) y = 1 := by
            unfold offC
            rw [if_neg hy, if_pos ⟨x, .head _, hyx⟩]
          rw [this]; rfl
      · have hxe : x = y := by omega
        subst hxe
        have ih := sld_blk (a := a) (c := c) n (K1 := K1) (K2 := K2) (by omega) g1.2 g2.2 (fun z hz => ha z (.tail _ hz)) (fun z hz => hc z (.tail _ hz))
        rw [e1, e2, sldP, if_neg hxy, if_neg hyx, dropWhile_blk _ g1.1, dropWhile_blk _ g2.1, ih]
        have key : ∀ (K K' : List Int) (d : Int → Nat), (∀ z ∈ K, x < z) → blk (offC d K') K = blk (offC d (x :: K')) (x :: K) := by
          intro K K' d hK
          rw [blk_cons]
          have : offC d (x :: K') x = 0 := by
            unfold offC
            rw [if_pos (.head _)]
          rw [this, List.replicate_zero, List.nil_append]
          refine blk_congr fun z hz => ?_
          have hzx := hK z hz
          unfold offC
          have m1 : (z ∈ x :: K') ↔ z ∈ K' := by
            rw [List.mem_cons]; constructor
            · rintro (q | q)
              · omega
              · exact q
            · exact .inr
          have m2 : (∃ w ∈ x :: K', z < w) ↔ ∃ w ∈ K', z < w := by
            constructor
            · rintro ⟨w, hw, q⟩
              rcases List.mem_cons.mp hw with rfl | hw
              · omega
              · exact ⟨w, hw, q⟩
            · rintro ⟨w, hw, q⟩
              exact ⟨w, .tail _ hw, q⟩
          simp only [m1, m2]
        exact Prod.ext (key K1 K2 a g1.1) (key K2 K1 c g2.1)
end Mine
end

section
theorem Mine.offDzPure2 : True := by
  w_top off
  trivial
open PySem PySem.W PyProof.Rows PySem.Calls
set_option Elab.async false
namespace Mine

def keys (b st : Int) (n : Nat) : List Int := (List.range n).map fun (k : Nat) => b + (k : Int) * st

theorem keys_mem {b st x : Int} {n : Nat} : x ∈ keys b st n ↔ ∃ k : Nat, k < n ∧ x = b + (k : Int) * st := by
  unfold keys
  rw [List.mem_map]
  constructor
  · rintro ⟨k, hk, rfl⟩
    exact ⟨k, List.mem_range.mp hk, rfl⟩
  · rintro ⟨k, hk, rfl⟩
    exact ⟨k, List.mem_range.mpr hk, rfl⟩
theorem keys_on {b st ct x : Int} (hst : 0 < st) (hct : 0 ≤ ct) : x ∈ keys b st ct.toNat ↔ onB b st ct x = true := by
  rw [keys_mem]
  unfold onB
  simp only [Bool.and_eq_true, decide_eq_true_eq]
  rw [Int.fmod_eq_emod_of_nonneg _ (by omega), Int.fdiv_eq_ediv_of_nonneg _ (by omega)]
  constructor
  · rintro ⟨k, hk, rfl⟩
    have e : b + (k : Int) * st - b = (k : Int) * st := by omega
    have h0 : 0 ≤ (k : Int) * st := Int.mul_nonneg (by omega) (by omega)
    rw [e, Int.mul_emod_left, Int.mul_ediv_cancel _ (by omega)]
    exact ⟨by omega, rfl, by omega⟩
  · rintro ⟨h1, h2, h3⟩
    have h4 : 0 ≤ (x - b) / st := Int.ediv_nonneg (by omega) (by omega)
    refine ⟨((x - b) / st).toNat, by omega, ?_⟩
    have h5 : (((x - b) / st).toNat : Int) = (x - b) / st := Int.toNat_of_nonneg h4
    rw [h5]
    have := Int.mul_ediv_add_emod (x - b) st
    rw [h2, Int.mul_comm] at this
    omega
theorem keys_lt {b st : Int} (hst : 0 < st) : ∀ n, (keys b st n).Pairwise (· < ·) := by
  intro n
  unfold keys
  rw [List.pairwise_map]
  refine List.Pairwise.imp ?_ List.pairwise_lt_range
  intro a c h
  have : (a : Int) * st < (c : Int) * st := Int.mul_lt_mul_of_pos_right (by omega) hst
  omega
theorem keys_nodup {b st : Int} (hst : 0 < st) (n : Nat) : (keys b st n).Nodup :=
  (keys_lt hst n).imp fun h q => by omega
theorem bag_blk (b st ct o : Int) : bagI b st ct o = blk (fun _ => o.toNat) (keys b st ct.toNat) := by
  unfold bagI flatOf blk keys
  rw [List.flatMap_map]
theorem pieces_blk {g : Int → List Int} {c : Int → Nat} (hg : ∀ y, g y = List.replicate (c y) y) (b st : Int) (n : Nat) : pieces g b st n = blk c (keys b st n) := by
  unfold pieces blk keys
  rw [List.flatMap_map]
  simp only [hg]
theorem keys_above {b st ct y : Int} (hst : 0 < st) (hct : 0 ≤ ct) : (∃ z ∈ keys b st ct.toNat, y < z) ↔ (0 < ct ∧ y < b + (ct - 1) * st) := by
  constructor
  · rintro ⟨z, hz, h⟩
    obtain ⟨k, hk, rfl⟩ := keys_mem.mp hz
    have : (k : Int) * st ≤ (ct - 1) * st := Int.mul_le_mul_of_nonneg_right (by omega) (by omega)
    exact ⟨by omega, by omega⟩
  · rintro ⟨h1, h2⟩
    refine ⟨b + (ct - 1) * st, keys_mem.mpr ⟨(ct - 1).toNat, by omega, ?_⟩, h2⟩
    rw [Int.toNat_of_nonneg (by omega)]

/-- the ladder (b',st',ct') holds just what both ladders hold -/
def Both (b st ct b2 st2 ct2 b' st' ct' : Int) : Prop := ∀ x, onB b' st' ct' x = true ↔ onB b st ct x = true ∧ onB b2 st2 ct2 x = true
theorem Both.symm {b st ct b2 st2 ct2 b' st' ct' : Int} (h : Both b st ct b2 st2 ct2 b' st' ct') : Both b2 st2 ct2 b st ct b' st' ct' := fun x => (h x).trans And.comm

section
variable {b st ct o b2 st2 ct2 o2 b' st' ct' : Int} (hB : Both b st ct b2 st2 ct2 b' st' ct') (hst : 0 < st) (hct : 0 ≤ ct) (ho : 1 ≤ o) (hst2 : 0 < st2) (hct2 : 0 ≤ ct2) (ho2 : 1 ≤ o2)
include hB hst hct hst2 hct2

theorem off_side : blk (offC (fun _ => o.toNat) (keys b2 st2 ct2.toNat)) (keys b st ct.toNat) = pieces (offG o b' st' ct' b2 st2 ct2) b st ct.toNat := by
  rw [pieces_blk (c := fun y => if onB b' st' ct' y = true then 0 else (if 0 < ct2 ∧ y < b2 + (ct2 - 1) * st2 then 1 else o.toNat))]
  · refine blk_congr fun y hy => ?_
    unfold offC
    have h1 : onB b st ct y = true := (keys_on hst hct).mp hy
    have h2 : (y ∈ keys b2 st2 ct2.toNat) ↔ onB b' st' ct' y = true := by
      rw [keys_on hst2 hct2, hB y]
      exact ⟨fun h => ⟨h1, h⟩, fun h => h.2⟩
    have h3 := keys_above (y := y) (b := b2) hst2 hct2
    by_cases q : onB b' st' ct' y = true
    · rw [if_pos (h2.mpr q), if_pos q]
    · rw [if_neg (fun z => q (h2.mp z)), if_neg q]
      by_cases r : (0 < ct2 ∧ y < b2 + (ct2 - 1) * st2)
      · rw [if_pos (h3.mpr r), if_pos r]
      · rw [if_neg (fun z => r (h3.mp z)), if_neg r]
  · intro y
    unfold offG
    by_cases q : onB b' st' ct' y = true
    · rw [if_pos q, if_pos q]; rfl
    · rw [if_neg q, if_neg q]

include ho ho2 in
theorem sld_law : sldP (bagI b st ct o) (bagI b2 st2 ct2 o2) = (pieces (offG o b' st' ct' b2 st2 ct2) b st ct.toNat, pieces (offG o2 b' st' ct' b st ct) b2 st2 ct2.toNat) := by
  rw [bag_blk, bag_blk, sld_blk _ (Nat.le_refl _) (keys_lt hst _) (keys_lt hst2 _) (fun _ _ => by omega) (fun _ _ => by omega)]
  exact Prod.ext (off_side hB hst hct hst2 hct2) (off_side hB.symm hst2 hct2 hst hct)

omit hst2 in
theorem more_side (hst2 : 0 < st2) (ho : 1 ≤ o) (ho2 : 1 ≤ o2) : blk (fun y => o.toNat - (if y ∈ keys b2 st2 ct2.toNat then o2.toNat else 0)) (keys b st ct.toNat) = pieces (moreG o o2 b' st' ct') b st ct.toNat := by
  rw [pieces_blk (c := fun y => if onB b' st' ct' y = true then (max 0 (o - o2)).toNat else o.toNat)]
  · refine blk_congr fun y hy => ?_
    have h1 : onB b st ct y = true := (keys_on hst hct).mp hy
    have h2 : (y ∈ keys b2 st2 ct2.toNat) ↔ onB b' st' ct' y = true := by
      rw [keys_on hst2 hct2, hB y]
      exact ⟨fun h => ⟨h1, h⟩, fun h => h.2⟩
    by_cases q : onB b' st' ct' y = true
    · rw [if_pos (h2.mpr q), if_pos q]; omega
    · rw [if_neg (fun z => q (h2.mp z)), if_neg q]; omega
  · intro y
    rfl

include ho ho2 in
theorem uld_law : uldF (bagI b st ct o) (bagI b2 st2 ct2 o2) [] = (pieces (moreG o2 o b' st' ct') b2 st2 ct2.toNat, (pieces (moreG o o2 b' st' ct') b st ct.toNat).reverse) := by
  rw [bag_blk, bag_blk, uld_blk (keys_nodup hst2 _) (keys_nodup hst _), more_side hB hst hct hct2 hst2 ho ho2, more_side hB.symm hst2 hct2 hct hst ho2 ho]
  rfl

end

theorem sorted_ext : ∀ {l1 l2 : List Int}, l1.Pairwise (· < ·) → l2.Pairwise (· < ·) → (∀ x, x ∈ l1 ↔ x ∈ l2) → l1 = l2
  | [], [], _, _, _ => rfl
  | [], y :: l2, _, _, h => absurd ((h y).mpr (.head _)) (by simp)
  | x :: l1, [], _, _, h => absurd ((h x).mp (.head _)) (by simp)
  | x :: l1, y :: l2, h1, h2, h => by
    have g1 := List.pairwise_cons.mp h1
    have g2 := List.pairwise_cons.mp h2
    have hxy : x = y := by
      rcases List.mem_cons.mp ((h x).mp (.head _)) with q | q
      · exact q
      · rcases List.mem_cons.mp ((h y).mpr (.head _)) with r | r
        · exact r.symm
        · have := g1.1 y r; have := g2.1 x q; omega
    subst hxy
    refine congrArg _ (sorted_ext g1.2 g2.2 fun z => ?_)
    constructor
    · intro hz
      rcases List.mem_cons.mp ((h z).mp (.tail _ hz)) with q | q
      · have := g1.1 z hz; omega
      · exact q
    · intro hz
      rcases List.mem_cons.mp ((h z).mpr (.tail _ hz)) with q | q
      · have := g2.1 z hz; omega
      · exact q

theorem blk_filter (p : Int → Bool) (n : Nat) : ∀ ks : List Int, blk (fun y => if p y = true then n else 0) ks = blk (fun _ => n) (ks.filter p)
  | [] => rfl
  | x :: ks => by
    rw [blk_cons, blk_filter p n ks]
    by_cases h : p x = true
    · rw [if_pos h, List.filter_cons_of_pos h, blk_cons]
    · rw [if_neg h, List.filter_cons_of_neg h]; simp

/-- taking away what is more leaves the common bag -/
theorem rest_law {b st ct o b2 st2 ct2 o2 b' st' ct' o' : Int} (hB : Both b st ct b2 st2 ct2 b' st' ct') (hst : 0 < st) (hct : 0 ≤ ct) (ho : 1 ≤ o) (ho2 : 1 ≤ o2) (hst' : 0 < st') (hct' : 0 ≤ ct') (ho' : o' = if o2 < o then o2 else o) :
    uldF (bagI b st ct o) (pieces (moreG o o2 b' st' ct') b st ct.toNat).reverse [] = ([], (bagI b' st' ct' o').reverse) := by
  have hm : pieces (moreG o o2 b' st' ct') b st ct.toNat = blk (fun y => if onB b' st' ct' y = true then (max 0 (o - o2)).toNat else o.toNat) (keys b st ct.toNat) := pieces_blk (fun y => rfl) _ _ _
  rw [hm, blk_reverse, bag_blk, uld_blk (by rw [List.Nodup, List.pairwise_reverse]; exact (keys_nodup hst _).imp Ne.symm) (keys_nodup hst _)]
  refine Prod.ext ?_ ?_
  · show blk _ _ = []
    have : blk (fun y => (if onB b' st' ct' y = true then (max 0 (o - o2)).toNat else o.toNat) - (if y ∈ keys b st ct.toNat then o.toNat else 0)) (keys b st ct.toNat).reverse = blk (fun _ => 0) (keys b st ct.toNat).reverse := by
      refine blk_congr fun y hy => ?_
      rw [List.mem_reverse] at hy
      rw [if_pos hy]
      split <;> omega
    rw [this]
    unfold blk
    simp
  · show [] ++ _ = _
    rw [List.nil_append]
    congr 1
    have h1 : blk (fun y => o.toNat - (if y ∈ (keys b st ct.toNat).reverse then (if onB b' st' ct' y = true then (max 0 (o - o2)).toNat else o.toNat) else 0)) (keys b st ct.toNat) = blk (fun y => if onB b' st' ct' y = true then o'.toNat else 0) (keys b st ct.toNat) := by
      refine blk_congr fun y hy => ?_
      rw [if_pos (List.mem_reverse.mpr hy)]
      by_cases q : onB b' st' ct' y = true
      · rw [if_pos q, if_pos q, ho']
        split <;> omega
      · rw [if_neg q, if_neg q]; omega
    rw [h1, blk_filter, bag_blk]
    congr 1
    refine sorted_ext ((keys_lt hst _).filter _) (keys_lt hst' _) fun x => ?_
    rw [List.mem_filter, keys_on hst hct, keys_on hst' hct']
    exact ⟨fun h => h.2, fun h => ⟨((hB x).mp h).1, h⟩⟩
end Mine
end

section
theorem Mine.offDzPure3 : True := by
  w_top off
  trivial
open PySem PySem.W PyProof.Rows PySem.Calls
set_option Elab.async false
namespace Mine

theorem intsF_zero (a : Int) : intsFrom a 0 = [] := rfl
theorem intsF_succ (a : Int) (n : Nat) : intsFrom a (n + 1) = a :: intsFrom (a + 1) n := by
  unfold intsFrom
  rw [List.range_succ_eq_map, List.map_cons, List.map_map]
  congr 1
  · simp
  · refine List.map_congr_left fun j _ => ?_
    simp only [Function.comp_apply]
    push_cast
    omega

theorem head_min (p : Int → Bool) : ∀ (n : Nat) (a : Int), (intsFrom a n).filter p ≠ [] →
    p (((intsFrom a n).filter p).headD 0) = true ∧ a ≤ ((intsFrom a n).filter p).headD 0 ∧ ((intsFrom a n).filter p).headD 0 < a + n ∧ ∀ k, a ≤ k → k < ((intsFrom a n).filter p).headD 0 → p k = false
  | 0, a, h => absurd rfl h
  | n + 1, a, h => by
    rw [intsF_succ] at h ⊢
    by_cases hp : p a = true
    · rw [List.filter_cons_of_pos hp]
      exact ⟨hp, Int.le_refl _, by simp only [List.headD_cons]; omega, fun k h1 h2 => by simp only [List.headD_cons] at h2; omega⟩
    · rw [List.filter_cons_of_neg hp] at h ⊢
      obtain ⟨h1, h2, h3, h4⟩ := head_min p n (a + 1) h
      refine ⟨h1, by omega, by push_cast; omega, fun k q1 q2 => ?_⟩
      by_cases hk : k = a
      · subst hk; simpa using hp
      · exact h4 k (by omega) q2
theorem nil_none (p : Int → Bool) {n : Nat} {a : Int} (h : (intsFrom a n).filter p = []) {k : Int} (h1 : a ≤ k) (h2 : k < a + n) : p k = false := by
  have hm : k ∈ intsFrom a n := by
    unfold intsFrom
    rw [List.mem_map]
    exact ⟨(k - a).toNat, List.mem_range.mpr (by omega), by omega⟩
  rw [List.filter_eq_nil_iff] at h
  simpa using h k hm

theorem fmod_zero {x n : Int} (hn : 0 < n) : (Int.fmod x n == 0) = true ↔ n ∣ x := by
  rw [Int.fmod_eq_emod_of_nonneg _ (by omega), beq_iff_eq]
  exact ⟨Int.dvd_of_emod_eq_zero, Int.emod_eq_zero_of_dvd⟩

theorem on_iff {b st ct x : Int} (hst : 0 < st) (hct : 0 ≤ ct) : onB b st ct x = true ↔ ∃ k : Int, 0 ≤ k ∧ k < ct ∧ x = b + k * st := by
  rw [← keys_on hst hct, keys_mem]
  constructor
  · rintro ⟨k, hk, e⟩
    exact ⟨k, by omega, by omega, e⟩
  · rintro ⟨k, h0, h1, e⟩
    exact ⟨k.toNat, by omega, by rw [Int.toNat_of_nonneg h0]; exact e⟩

section
variable {b st b2 st2 hit turn0 : Int} (hst : 0 < st) (hst2 : 0 < st2)
  (H1 : st2 ∣ b + hit * st - b2) (H2 : ∀ k, 0 ≤ k → k < hit → ¬ st2 ∣ b + k * st - b2) (H0 : 0 ≤ hit)
  (T1 : st2 ∣ turn0 * st) (T2 : ∀ k, 1 ≤ k → k < turn0 → ¬ st2 ∣ k * st) (T0 : 1 ≤ turn0)
include H1 T1 T0 in
theorem hit_of {j : Int} : st2 ∣ b + (hit + j * turn0) * st - b2 := by
  have e : b + (hit + j * turn0) * st - b2 = (b + hit * st - b2) + j * (turn0 * st) := by
    rw [Int.add_mul, Int.mul_assoc]; omega
  rw [e]
  exact Int.dvd_add H1 (Int.dvd_mul_of_dvd_right T1)
include H1 H2 H0 T1 T2 T0 in
theorem hit_lt : hit < turn0 := by
  apply Int.not_le.mp
  intro h
  refine H2 (hit - turn0) (by omega) (by omega) ?_
  have := hit_of (j := -1) H1 T1 T0
  have e : hit + -1 * turn0 = hit - turn0 := by omega
  rw [e] at this
  exact this
include H1 H2 H0 T1 T2 T0 in
theorem hit_form {k : Int} (hk : 0 ≤ k) (h : st2 ∣ b + k * st - b2) : ∃ j, 0 ≤ j ∧ k = hit + j * turn0 := by
  have hlt := hit_lt H1 H2 H0 T1 T2 T0
  have d1 : st2 ∣ (k - hit) * st := by
    have e : (k - hit) * st = (b + k * st - b2) - (b + hit * st - b2) := by rw [Int.sub_mul]; omega
    rw [e]
    exact Int.dvd_sub h H1
  have hm := Int.mul_ediv_add_emod (k - hit) turn0
  have r0 : 0 ≤ (k - hit) % turn0 := Int.emod_nonneg _ (by omega)
  have r1 : (k - hit) % turn0 < turn0 := Int.emod_lt_of_pos _ (by omega)
  have d2 : st2 ∣ ((k - hit) % turn0) * st := by
    have e : ((k - hit) % turn0) * st = (k - hit) * st - ((k - hit) / turn0) * (turn0 * st) := by
      have : (k - hit) % turn0 = (k - hit) - ((k - hit) / turn0) * turn0 := by rw [Int.mul_comm] at hm; omega
      rw [this, Int.sub_mul, Int.mul_assoc]
    rw [e]
    exact Int.dvd_sub d1 (Int.dvd_mul_of_dvd_right T1)
  have rz : (k - hit) % turn0 = 0 := by
    by_cases hz : (k - hit) % turn0 = 0
    · exact hz
    · exact absurd d2 (T2 _ (by omega) r1)
  refine ⟨(k - hit) / turn0, ?_, ?_⟩
  · apply Int.not_lt.mp
    intro hneg
    have : (k - hit) / turn0 ≤ -1 := by omega
    have h3 : turn0 * ((k - hit) / turn0) ≤ turn0 * (-1) := Int.mul_le_mul_of_nonneg_left this (by omega)
    omega
  · rw [Int.mul_comm]; omega
end

theorem firstI_spec {f b2 turn : Int} (ht : 0 < turn) : ∃ j, 0 ≤ j ∧ firstI f b2 turn = f + j * turn ∧ b2 ≤ firstI f b2 turn ∧ (∀ i, 0 ≤ i → b2 ≤ f + i * turn → j ≤ i) ∧ firstI f b2 turn ≤ (if f < b2 then b2 + turn else f) := by
  unfold firstI
  by_cases h : f < b2
  · rw [if_pos h, if_pos h, Int.fdiv_eq_ediv_of_nonneg _ (by omega)]
    have hm := Int.mul_ediv_add_emod (b2 - f + turn - 1) turn
    have r0 : 0 ≤ (b2 - f + turn - 1) % turn := Int.emod_nonneg _ (by omega)
    have r1 : (b2 - f + turn - 1) % turn < turn := Int.emod_lt_of_pos _ ht
    have hq : 0 ≤ (b2 - f + turn - 1) / turn := Int.ediv_nonneg (by omega) (by omega)
    generalize (b2 - f + turn - 1) / turn = q at *
    rw [Int.mul_comm] at hm
    refine ⟨q, hq, rfl, by omega, fun i hi hb => ?_, by omega⟩
    apply Int.not_lt.mp
    intro hlt
    have : i * turn ≤ (q - 1) * turn := Int.mul_le_mul_of_nonneg_right (by omega) (by omega)
    rw [Int.sub_mul, Int.one_mul] at this
    omega
  · rw [if_neg h, if_neg h]
    exact ⟨0, Int.le_refl _, by omega, by omega, fun i hi _ => hi, Int.le_refl _⟩

structure ComOk (b st ct o b2 st2 ct2 o2 : Int) (r : Int × Int × Int × Int) : Prop where
  both : Both b st ct b2 st2 ct2 r.1 r.2.1 r.2.2.1
  s0 : 0 < r.2.1
  s1 : r.2.1 ≤ 4 * st
  c0 : 0 ≤ r.2.2.1
  c1 : r.2.2.1 ≤ 12
  b0 : b ≤ r.1
  b1 : r.1 ≤ b + 4 * st ∨ r.1 ≤ b2 + 4 * st
  o0 : 1 ≤ r.2.2.2
  o1 : r.2.2.2 ≤ 3
  fin : ct ≠ 0 → hitsI b st b2 st2 ≠ [] → r.2.2.2 = if o2 < o then o2 else o
  zero : r.2.2.1 = 0 ∨ r.2.2.2 = if o2 < o then o2 else o

theorem common_law {b st ct o b2 st2 ct2 o2 : Int} (hst : 0 < st) (hct : 0 ≤ ct) (hct12 : ct ≤ 12) (ho : 1 ≤ o) (ho3 : o ≤ 3) (hst2 : 0 < st2) (hst24 : st2 ≤ 4) (hct2 : 1 ≤ ct2) (ho2 : 1 ≤ o2) (ho23 : o2 ≤ 3) :
    ComOk b st ct o b2 st2 ct2 o2 (commonI b st ct o b2 st2 ct2 o2) := by
  unfold commonI
  by_cases hc : hitsI b st b2 st2 = [] ∨ ct = 0
  · rw [if_pos hc]
    refine ⟨?_, by show (0 : Int) < 1; decide, by show (1 : Int) ≤ 4 * st; omega, by show (0 : Int) ≤ 0; decide, by show (0 : Int) ≤ 12; decide, Int.le_refl _, .inl (by show b ≤ b + 4 * st; omega), by show (1 : Int) ≤ 1; decide, by show (1 : Int) ≤ 3; decide, ?_, .inl rfl⟩
    · intro x
      show onB b 1 0 x = true ↔ _
      rw [on_iff (by decide) (by decide), on_iff hst hct, on_iff hst2 (by omega)]
      constructor
      · rintro ⟨k, h1, h2, _⟩
        have h2' : k < 0 := h2
        omega
      · rintro ⟨⟨k, h1, h2, e⟩, ⟨k2, h3, h4, e2⟩⟩
        exfalso
        rcases hc with hc | hc
        · have hd : st2 ∣ b + k * st - b2 := ⟨k2, by rw [Int.mul_comm st2]; omega⟩
          have r0 : 0 ≤ k % st2 := Int.emod_nonneg _ (by omega)
          have r1 : k % st2 < st2 := Int.emod_lt_of_pos _ hst2
          have hm := Int.mul_ediv_add_emod k st2
          have hd2 : st2 ∣ b + (k % st2) * st - b2 := by
            have e' : b + (k % st2) * st - b2 = (b + k * st - b2) - st2 * ((k / st2) * st) := by
              have : k % st2 = k - st2 * (k / st2) := by omega
              rw [this, Int.sub_mul, Int.mul_assoc]; omega
            rw [e']
            exact Int.dvd_sub hd (Int.dvd_mul_right _ _)
          have hn := nil_none (fun k => Int.fmod (b + k * st - b2) st2 == 0) hc (k := k % st2) r0 (by omega)
          have := (fmod_zero hst2).mpr hd2
          rw [this] at hn; cases hn
        · omega
    · intro h1 h2
      rcases hc with hc | hc
      · exact absurd hc h2
      · exact absurd hc h1
  · rw [if_neg hc]
    have hh : hitsI b st b2 st2 ≠ [] := fun q => hc (.inl q)
    have hct0 : ct ≠ 0 := fun q => hc (.inr q)
    obtain ⟨p1, p2, p3, p4⟩ := head_min (fun k => Int.fmod (b + k * st - b2) st2 == 0) st2.toNat 0 hh
    obtain ⟨t1, t2, t3, t4⟩ := head_min (fun k => Int.fmod (k * st) st2 == 0) st2.toNat 1 (turnsI_ne st st2 hst2 hst24)
    change (Int.fmod (b + (hitsI b st b2 st2).headD 0 * st - b2) st2 == 0) = true at p1
    change 0 ≤ (hitsI b st b2 st2).headD 0 at p2
    change (hitsI b st b2 st2).headD 0 < 0 + (st2.toNat : Int) at p3
    change ∀ k, 0 ≤ k → k < (hitsI b st b2 st2).headD 0 → (Int.fmod (b + k * st - b2) st2 == 0) = false at p4
    change (Int.fmod ((turnsI st st2).headD 0 * st) st2 == 0) = true at t1
    change 1 ≤ (turnsI st st2).headD 0 at t2
    change (turnsI st st2).headD 0 < 1 + (st2.toNat : Int) at t3
    change ∀ k, 1 ≤ k → k < (turnsI st st2).headD 0 → (Int.fmod (k * st) st2 == 0) = false at t4
    generalize (hitsI b st b2 st2).headD 0 = hit at *
    generalize (turnsI st st2).headD 0 = turn0 at *
    have H1 : st2 ∣ b + hit * st - b2 := (fmod_zero hst2).mp p1
    have H2 : ∀ k, 0 ≤ k → k < hit → ¬ st2 ∣ b + k * st - b2 := fun k h0 h1 hd => by
      have := p4 k h0 h1
      rw [(fmod_zero hst2).mpr hd] at this; cases this
    have T1 : st2 ∣ turn0 * st := (fmod_zero hst2).mp t1
    have T2 : ∀ k, 1 ≤ k → k < turn0 → ¬ st2 ∣ k * st := fun k h0 h1 hd => by
      have := t4 k h0 h1
      rw [(fmod_zero hst2).mpr hd] at this; cases this
    have hturn : st ≤ st * turn0 := by
      have : st * 1 ≤ st * turn0 := Int.mul_le_mul_of_nonneg_left t2 (by omega)
      omega
    have hturn4 : st * turn0 ≤ 4 * st := by
      have : st * turn0 ≤ st * 4 := Int.mul_le_mul_of_nonneg_left (by omega) (by omega)
      omega
    have hhit : hit * st ≤ 3 * st := Int.mul_le_mul_of_nonneg_right (by omega) (by omega)
    have hhit0 : 0 ≤ hit * st := Int.mul_nonneg p2 (by omega)
    obtain ⟨j, j0, j1, j2, j3, j4⟩ := firstI_spec (f := b + hit * st) (b2 := b2) (turn := st * turn0) (by omega)
    have hjt : 0 ≤ j * (st * turn0) := Int.mul_nonneg j0 (by omega)
    dsimp only
    generalize hF : firstI (b + hit * st) b2 (st * turn0) = first at *
    generalize hT : st * turn0 = turn at *
    have htpos : 0 < turn := by omega
    generalize he : (if b2 + (ct2 - 1) * st2 < b + (ct - 1) * st then b2 + (ct2 - 1) * st2 else b + (ct - 1) * st) = e at *
    have he1 : e ≤ b + (ct - 1) * st ∧ e ≤ b2 + (ct2 - 1) * st2 ∧ (e = b + (ct - 1) * st ∨ e = b2 + (ct2 - 1) * st2) := by
      rw [← he]; split
      · exact ⟨by omega, by omega, .inr rfl⟩
      · exact ⟨by omega, by omega, .inl rfl⟩
    rw [Int.fdiv_eq_ediv_of_nonneg _ (by omega)]
    have hm := Int.mul_ediv_add_emod (e - first) turn
    have r0 : 0 ≤ (e - first) % turn := Int.emod_nonneg _ (by omega)
    have r1 : (e - first) % turn < turn := Int.emod_lt_of_pos _ htpos
    generalize (e - first) / turn = q at *
    rw [Int.mul_comm] at hm
    have hq : q ≤ ct - 1 := by
      apply Int.not_lt.mp
      intro h
      have h1 : ct * turn ≤ q * turn := Int.mul_le_mul_of_nonneg_right (by omega) (by omega)
      have h2 : ct * st ≤ ct * turn := Int.mul_le_mul_of_nonneg_left (by omega) (by omega)
      have h3 : (ct - 1) * st = ct * st - st := by rw [Int.sub_mul, Int.one_mul]
      omega
    refine ⟨?_, htpos, by show turn ≤ 4 * st; omega, by show 0 ≤ (if q + 1 > 0 then q + 1 else 0); split <;> omega, by show (if q + 1 > 0 then q + 1 else 0) ≤ 12; split <;> omega, by show b ≤ first; omega, ?_, by show 1 ≤ (if o2 < o then o2 else o); split <;> omega, by show (if o2 < o then o2 else o) ≤ 3; split <;> omega, fun _ _ => rfl, .inr rfl⟩
    · intro x
      show onB first turn (if q + 1 > 0 then q + 1 else 0) x = true ↔ _
      rw [on_iff htpos (by split <;> omega), on_iff hst hct, on_iff hst2 (by omega)]
      constructor
      · rintro ⟨i, i0, i1, ex⟩
        have iq : i ≤ q := by
          by_cases hq1 : q + 1 > 0
          · rw [if_pos hq1] at i1; omega
          · rw [if_neg hq1] at i1; omega
        have hix : i * turn ≤ q * turn := Int.mul_le_mul_of_nonneg_right iq (by omega)
        have hxe : x ≤ e := by omega
        have hi0 : 0 ≤ i * turn := Int.mul_nonneg i0 (by omega)
        have form : x = b + (hit + (j + i) * turn0) * st := by
          rw [ex, j1, Int.add_mul, Int.add_mul (j) i, Int.add_mul, ← hT]
          have e1 : j * (st * turn0) = j * turn0 * st := by rw [Int.mul_assoc, Int.mul_comm st]
          have e2 : i * (st * turn0) = i * turn0 * st := by rw [Int.mul_assoc, Int.mul_comm st]
          omega
        have hd : st2 ∣ x - b2 := by
          rw [form]
          exact hit_of (j := j + i) H1 T1 (by omega)
        constructor
        · refine ⟨hit + (j + i) * turn0, ?_, ?_, form⟩
          · have : 0 ≤ (j + i) * turn0 := Int.mul_nonneg (by omega) (by omega)
            omega
          · apply Int.not_le.mp
            intro hge
            have : ct * st ≤ (hit + (j + i) * turn0) * st := Int.mul_le_mul_of_nonneg_right hge (by omega)
            have h3 : (ct - 1) * st = ct * st - st := by rw [Int.sub_mul, Int.one_mul]
            omega
        · obtain ⟨k2, hk2⟩ := hd
          refine ⟨k2, ?_, ?_, by rw [Int.mul_comm]; omega⟩
          · apply Int.not_lt.mp
            intro hneg
            have : st2 * k2 ≤ st2 * (-1) := Int.mul_le_mul_of_nonneg_left (by omega) (by omega)
            omega
          · apply Int.not_le.mp
            intro hge
            have : st2 * ct2 ≤ st2 * k2 := Int.mul_le_mul_of_nonneg_left hge (by omega)
            have h3 : (ct2 - 1) * st2 = st2 * ct2 - st2 := by rw [Int.sub_mul, Int.one_mul, Int.mul_comm]
            omega
      · rintro ⟨⟨k, k0, k1, e1⟩, ⟨k2, k20, k21, e2⟩⟩
        have hd : st2 ∣ b + k * st - b2 := ⟨k2, by rw [Int.mul_comm st2]; omega⟩
        obtain ⟨i, i0, ei⟩ := hit_form H1 H2 p2 T1 T2 t2 k0 hd
        have hk2 : 0 ≤ k2 * st2 := Int.mul_nonneg k20 (by omega)
        have form : x = b + hit * st + i * turn := by
          rw [e1, ei, Int.add_mul, ← hT]
          have e3 : i * (st * turn0) = i * turn0 * st := by rw [Int.mul_assoc, Int.mul_comm st]
          omega
        have hji : j ≤ i := j3 i i0 (by omega)
        have hxe : x ≤ e := by
          have h1 : k * st ≤ (ct - 1) * st := Int.mul_le_mul_of_nonneg_right (by omega) (by omega)
          have h2 : k2 * st2 ≤ (ct2 - 1) * st2 := Int.mul_le_mul_of_nonneg_right (by omega) (by omega)
          rcases he1.2.2 with h | h <;> omega
        have ex : x = first + (i - j) * turn := by rw [form, j1, Int.sub_mul]; omega
        have hiq : i - j ≤ q := by
          apply Int.not_lt.mp
          intro h
          have : (q + 1) * turn ≤ (i - j) * turn := Int.mul_le_mul_of_nonneg_right (by omega) (by omega)
          rw [Int.add_mul, Int.one_mul] at this
          omega
        refine ⟨i - j, by omega, ?_, ex⟩
        rw [if_pos (by omega)]; omega
    · show first ≤ b + 4 * st ∨ first ≤ b2 + 4 * st
      by_cases h : b + hit * st < b2
      · rw [if_pos h] at j4
        exact .inr (by omega)
      · rw [if_neg h] at j4
        exact .inl (by omega)
end Mine
end

section
theorem Mine.offDzFit : True := by
  w_top off
  trivial
open PySem PySem.W PyProof.Rows PySem.Calls
set_option Elab.async false
namespace Mine

def FitB (B : Int) : Prop := (B.natAbs + 4000000).log2 < bitsLine
theorem FitB.near {B b : Int} (h : FitB B) (h1 : B - 3000000 ≤ b) (h2 : b ≤ B + 3000000) : Fits b := by
  unfold FitB at h
  unfold Fits
  generalize bitsLine = K at h ⊢
  have h3 : b.natAbs + 1000000 ≤ B.natAbs + 4000000 := by omega
  have h4 : (b.natAbs + 1000000).log2 ≤ (B.natAbs + 4000000).log2 := by
    rw [Nat.le_log2 (by omega)]
    exact Nat.le_trans (Nat.log2_self_le (by omega)) h3
  omega

theorem weight_mem : ∀ {xs : List PyData} {x : PyData}, x ∈ xs → PyData.weight x ≤ PyData.weightAll xs
  | [], _, h => nomatch h
  | y :: ys, x, h => by
    rw [PyData.weightAll]
    rcases List.mem_cons.mp h with rfl | h
    · omega
    · have := weight_mem h; omega

theorem natAbs_lt_of_weight {n : Int} {W : Nat} (h : PyData.weight (.int n) ≤ W) : n.natAbs < 2 ^ W := by
  rw [PyData.weight] at h
  by_cases hz : n = 0
  · subst hz; exact Nat.two_pow_pos W
  · have hb : (n == 0) = false := by simpa using hz
    rw [hb] at h
    simp only [Bool.false_eq_true, if_false] at h
    have : n.natAbs.log2 < W := by omega
    exact (Nat.log2_lt (by omega)).mp this

theorem sum_abs {K : Nat} : ∀ {ns : List Int}, (∀ n ∈ ns, n.natAbs < K) → ns.sum.natAbs ≤ ns.length * K
  | [], _ => by simp
  | n :: ns, h => by
    have h1 := sum_abs (ns := ns) fun m hm => h m (.tail _ hm)
    have h2 := h n (.head _)
    rw [List.sum_cons, List.length_cons, Nat.add_mul, Nat.one_mul]
    omega

theorem fits_base {ns : List Int} (h : PyData.layable0 (.list (ns.map .int)) = true) : FitB (ns.take 63).sum := by
  have hw : PyData.weight (.list (ns.map .int)) ≤ 2 ^ 20 := by
    unfold PyData.layable0 at h
    simp only [Bool.and_eq_true, decide_eq_true_eq] at h
    exact h.2
  rw [PyData.weight] at hw
  have h8 : 2 ^ 20 + 8 < bitsLine := by unfold bitsLine; decide
  have h21 : 21 ≤ 2 ^ 20 := by decide
  generalize (2 : Nat) ^ 20 = W at hw h8 h21
  have hn : ∀ n ∈ ns.take 63, n.natAbs < 2 ^ W := fun n hn => natAbs_lt_of_weight (Nat.le_trans (weight_mem (List.mem_map_of_mem (List.mem_of_mem_take hn))) hw)
  have hs := sum_abs hn
  have hl : (ns.take 63).length ≤ 63 := by rw [List.length_take]; omega
  have h4 : 4000000 ≤ 2 * 2 ^ W := by
    have : (2 : Nat) ^ 21 ≤ 2 ^ W := Nat.pow_le_pow_right (by decide) h21
    have e : (2 : Nat) ^ 21 = 2097152 := by decide
    omega
  have h5 : (ns.take 63).length * 2 ^ W ≤ 63 * 2 ^ W := Nat.mul_le_mul_right _ hl
  unfold FitB
  have h6 : (ns.take 63).sum.natAbs + 4000000 < 2 ^ (W + 8) := by
    rw [Nat.pow_add]
    have : (2 : Nat) ^ 8 = 256 := by decide
    omega
  have h7 : ((ns.take 63).sum.natAbs + 4000000).log2 < W + 8 := (Nat.log2_lt (by omega)).mpr h6
  omega
end Mine
end

section
theorem Mine.offDzLoop : True := by
  w_top off
  trivial
open PySem PySem.W PyProof.Rows PySem.Calls
set_option Elab.async false
namespace Mine

/-- a for over a list of any values -/
theorem iter_refs {prog : Program} {w : World} {A : Around} {E : Value → Shared → Prop} {s : Shared} {env : Env} {h₀ : Heap} {x : Str} {body : List Stmt} {Q : Flow → Shared → Prop} {ax : Addr} {items : List Value} {m : Str → Option Value} {news : List (Addr × Obj)}
    (hh : A.handled = none) (hl : s.heap.IsList ax items.toArray) (F : Fr h₀ env.locals s.heap m) (N : News h₀ env.locals s.heap news) (hax : h₀.get? ax = none) (haL : ax ≠ env.locals)
    (J : Nat → (Str → Option Value) → List (Addr × Obj) → Prop) (h0 : J 0 m news)
    (step : ∀ i v m₁ news₁ h tk own oI oa, items[i]? = some v → J i m₁ news₁ → (s.heap.objs.size, oI) ∈ own → (ax, oa) ∈ own → (∀ p ∈ own, p.1 = s.heap.objs.size ∨ p.1 = ax) → (∀ p ∈ news₁, p.1 ≠ s.heap.objs.size) →
      Fr h₀ env.locals h (fun y => if y = x then some v else m₁ y) → News h₀ env.locals h (own ++ news₁) →
      wpAny (model prog w) A (execs body env) (fun f s₂ => f = .next ∧ ∃ h' tk' m' news', s₂ = { s with heap := h', toks := tk' } ∧ Fr h₀ env.locals h' m' ∧ News h₀ env.locals h' (own ++ news') ∧ (∀ p ∈ news', p.1 ≠ s.heap.objs.size) ∧ J (i + 1) m' news') E { s with heap := h, toks := tk })
    (done : ∀ h tk m' news', Fr h₀ env.locals h m' → News h₀ env.locals h news' → J items.length m' news' → Q .next { s with heap := h, toks := tk }) :
    wpAny (model prog w) A (pyIter (.ref ax)) (fun it s₂ => LoopAtV prog w A h₀ env x body Q E it s₂) E s := by
  refine wpAny_pyIter_list hl ?_
  obtain ⟨oa, ha, har⟩ := id hl
  have hne : ax ≠ s.heap.objs.size := Nat.ne_of_lt (Heap.lt_size ha)
  have hLne : env.locals ≠ s.heap.objs.size := by
    obtain ⟨oL, _, _, hL, _⟩ := F.ns
    exact Nat.ne_of_lt (Heap.lt_size hL)
  have hIn : h₀.get? s.heap.objs.size = none := none_down F.keep (Heap.get?_none_of_le (Nat.le_refl _))
  refine ⟨s.heap.objs.size, [s.heap.objs.size, ax], [s.heap.objs.size], items.toArray.size, (fun i v => items.toArray[i]? = some v), (fun i h => h.IsListIter s.heap.objs.size ax i ∧ h.IsList ax items.toArray), m, news, J, rfl, Walks.list hh _ _ hne _, ?_, ?_, ?_, ?_, ?_, ?_, h0, ?_, ?_⟩
  · intro q
    simp only [List.mem_cons, List.not_mem_nil, or_false] at q
    rcases q with q | q
    · exact hLne q
    · exact haL q.symm
  · intro b hb
    simp only [List.mem_cons, List.not_mem_nil, or_false] at hb
    rw [hb]; exact hIn
  · intro p hp q
    simp only [List.mem_cons, List.not_mem_nil, or_false] at q
    exact absurd (Heap.lt_size (N p hp).1) (by rw [q]; exact Nat.lt_irrefl _)
  · exact ⟨⟨_, Heap.get?_push_size _ rfl, rfl, rfl⟩, ⟨oa, Heap.get?_push_of_some _ ha, har⟩⟩
  · exact frUp F fun q o e => Heap.get?_push_of_some _ e
  · exact newsUp N fun q o e => Heap.get?_push_of_some _ e
  · rintro i v m₁ news₁ s₁ own ⟨h, tk, rfl⟩ hi hv hJ hnw hown hown2 hfp hst F₁ N₁
    obtain ⟨⟨oI, gI, _⟩, ⟨ob, gb, _⟩⟩ := hst
    refine wpAny_mono (step i v m₁ news₁ h tk own oI ob (by simpa using hv) hJ (hfp _ (.head _) hIn _ gI) (hfp _ (.tail _ (.head _)) hax _ gb) (fun p hp => by simpa using hown p hp) (fun p hp q => hnw p hp (by rw [q]; exact .head _)) F₁ N₁) (fun f s₂ p => ?_) fun _ _ x => x
    obtain ⟨rfl, h', tk', m', news', rfl, F', N', hn', hJ'⟩ := p
    exact ⟨rfl, h', tk', m', news', rfl, F', N', (fun p hp q => hn' p hp (by simpa using q)), hJ'⟩
  · intro h' tk m' news' F' N' _ hJ
    rw [List.size_toArray] at hJ
    exact done h' tk m' news' F' N' hJ
end Mine
end

section
theorem Mine.offDzCmp : True := by
  w_top off
  trivial
open PySem PySem.W PyProof.Rows PySem.Calls PySem.SeqAt
set_option Elab.async false
namespace Mine

section
variable {prog : Program} {w : World} {A : Around} {E : Value → Shared → Prop} {s : Shared} {Q : Value → Shared → Prop}

theorem shaped_two (xs ys : List Int) : shaped (.tuple [.list (xs.map PyData.int), .list (ys.map PyData.int)]) = true := by
  have h1 := W.depthAll_ints xs
  have h2 := W.depthAll_ints ys
  show (PyData.canLay0 (.tuple [.list (xs.map PyData.int), .list (ys.map PyData.int)]) && decide (PyData.depth (.tuple [.list (xs.map PyData.int), .list (ys.map PyData.int)]) ≤ 64)) = true
  rw [Bool.and_eq_true]
  constructor
  · simp [PyData.canLay0, PyData.canLayAll0, canLayAll0_ints]
  · apply decide_eq_true
    simp only [PyData.depth, PyData.depthAll]
    omega

/-- two tuples of two int lists each, alike -/
theorem ne_two {d d' a1 a2 b1 b2 : Addr} {us ws us' ws' : List Value} {n1 n2 n3 n4 n5 n6 : Nat} {xs ys : List Int}
    (hd : s.heap.get? d = some { cls := .type "tuple", data := .seq #[.ref a1, .ref a2] n5 }) (hd' : s.heap.get? d' = some { cls := .type "tuple", data := .seq #[.ref b1, .ref b2] n6 })
    (h1 : s.heap.get? a1 = some (W.listOf us.toArray n1)) (h2 : s.heap.get? a2 = some (W.listOf ws.toArray n2)) (h3 : s.heap.get? b1 = some (W.listOf us'.toArray n3)) (h4 : s.heap.get? b2 = some (W.listOf ws'.toArray n4))
    (i1 : IntsAre us xs) (i2 : IntsAre ws ys) (i3 : IntsAre us' xs) (i4 : IntsAre ws' ys) (hu : A.units + 64 < cLine) (h : Q (.bool false) s) :
    wpAny (model prog w) A (compareOp .NotEq (.ref d) (.ref d')) Q E s := by
  have r1 : Reads s.heap (.ref d) (.tuple [.list (xs.map PyData.int), .list (ys.map PyData.int)]) ([a1] ++ ([a2] ++ [])) :=
    Reads.tuple hd rfl rfl (.cons (reads_of_ints ⟨_, h1, rfl, _, rfl⟩ i1) (.cons (reads_of_ints ⟨_, h2, rfl, _, rfl⟩ i2) .nil))
  have r2 : Reads s.heap (.ref d') (.tuple [.list (xs.map PyData.int), .list (ys.map PyData.int)]) ([b1] ++ ([b2] ++ [])) :=
    Reads.tuple hd' rfl rfl (.cons (reads_of_ints ⟨_, h3, rfl, _, rfl⟩ i3) (.cons (reads_of_ints ⟨_, h4, rfl, _, rfl⟩ i4) .nil))
  refine ne_dataH_same r1 r2 (shaped_two xs ys) (shaped_two xs ys) hu ?_ ?_
  · simp only [noMix, noMixAll, noMix_ints, Bool.and_self, Bool.and_true]
  · have e : PySem.Spec.same (.tuple [.list (xs.map PyData.int), .list (ys.map PyData.int)]) (.tuple [.list (xs.map PyData.int), .list (ys.map PyData.int)]) = true := by
      simp only [PySem.Spec.same, PySem.Spec.sameAll, same_ints]
      simp
    rw [e]
    exact h

/-- list(row) -/
theorem list_row {D : Addr} {xs : List Int} (hA : A.handled = none) (R : RowAt s.heap D xs) (hl : xs.length ≤ 100)
    (hQ : ∀ h' tk D' vs n, (∀ q o, s.heap.get? q = some o → h'.get? q = some o) → s.heap.get? D' = none → h'.get? D' = some (W.listOf (List.toArray vs) n) → IntsAre vs xs → Q (.ref D') { s with heap := h', toks := tk }) :
    wpAny (model prog w) A (call (.type "list") [.ref D]) Q E s := by
  rcases R with ⟨vs, n, h1, h2⟩ | ⟨b, st, ct, t, u', v, h1, h2, h3, h4, h5, h6, rfl⟩
  · have hlen := h2.length
    refine call_list_seq D (.inl rfl) h1 rfl rfl ?_ (by rw [sizeLine_eq]; simp; omega)
    intro h' c' k hg
    exact hQ h' _ _ vs c' k (Heap.get?_none_of_le (Nat.le_refl _)) hg h2
  · refine list_range (n := ct.toNat) hA h1 (by rw [rsz h2 h4]; omega) (by omega) ?_
    intro h' tk zs c' k hg hz
    exact hQ h' tk _ zs c' k (Heap.get?_none_of_le (Nat.le_refl _)) hg (by rw [bag1]; exact hz)
end
end Mine
end

section
theorem Mine.offDzLaw : True := by
  w_top off
  trivial
open PySem PySem.W PyProof.Rows PySem.Calls
set_option Elab.async false
namespace Mine

structure LadI (B : Int) (i : Nat) (b st ct o : Int) : Prop where
  s0 : 0 < st
  s1 : st ≤ 4 ^ (i + 1)
  c0 : 0 ≤ ct
  c1 : ct ≤ 12
  o0 : 1 ≤ o
  o1 : o ≤ 3
  b0 : B ≤ b
  b1 : b ≤ B + 8 + 1000 * i

def LawJ (B : Int) (lads : List (Addr × Obj)) (ax : Addr) (i : Nat) (m : Str → Option Value) (news : List (Addr × Obj)) : Prop :=
  ∃ c1 bg b st ct o u1 u2 u3 u4 nl bvs bn, news = (bg, W.listOf (List.toArray bvs) bn) :: (c1, lad b st ct o u1 u2 u3 u4 nl) :: lads ∧ m "one" = some (.ref c1) ∧ m "bag" = some (.ref bg) ∧
    IntsAre bvs (bagI b st ct o) ∧ LadI B i b st ct o ∧ (∀ p ∈ (c1, lad b st ct o u1 u2 u3 u4 nl) :: lads, p.1 ≠ bg) ∧ bg ≠ ax

theorem newsAdd {h₀ h h' : Heap} {L D : Addr} {news : List (Addr × Obj)} {m : Str → Option Value} {o : Obj} (F : Fr h₀ L h m) (N : News h₀ L h news) (k : ∀ q o, h.get? q = some o → h'.get? q = some o) (hD : h.get? D = none) (hg : h'.get? D = some o) : News h₀ L h' ((D, o) :: news) :=
  newsSet F N (fun q o _ e => k q o e) hD hg

theorem newsKeepL {h₀ h h' : Heap} {L : Addr} {news : List (Addr × Obj)} (N : News h₀ L h news) (k : ∀ q o, h.get? q = some o → q ≠ L → h'.get? q = some o) : News h₀ L h' news :=
  fun p hp => ⟨k _ _ (N p hp).1 (N p hp).2.1, (N p hp).2⟩
theorem newFact {h₀ h h' : Heap} {L D : Addr} {m : Str → Option Value} {o : Obj} (F : Fr h₀ L h m) (hD : h.get? D = none) (hg : h'.get? D = some o) : h'.get? D = some o ∧ D ≠ L ∧ h₀.get? D = none := by
  refine ⟨hg, fun q => ?_, none_down F.keep hD⟩
  obtain ⟨oL, _, _, hL, _⟩ := F.ns
  rw [← q, hD] at hL; cases hL
theorem newsCons {h₀ h : Heap} {L D : Addr} {o : Obj} {news : List (Addr × Obj)} (f : h.get? D = some o ∧ D ≠ L ∧ h₀.get? D = none) (N : News h₀ L h news) : News h₀ L h ((D, o) :: news) := by
  intro p hp
  rcases List.mem_cons.mp hp with rfl | hp
  · exact f
  · exact N p hp
theorem bag_len {b st ct o : Int} (hc : ct ≤ 12) (ho : o ≤ 3) : (bagI b st ct o).length ≤ 36 := by
  unfold bagI
  rw [flatOf_length]
  have : ct.toNat * o.toNat ≤ 12 * 3 := Nat.mul_le_mul (by omega) (by omega)
  omega

theorem rev_any {prog : Program} {w : World} {A : Around} {E : Value → Shared → Prop} {s : Shared} {h₀ : Heap} {L l : Addr} {m : Str → Option Value} {news : List (Addr × Obj)} {value slice : PySem.Expr} {vs : List Value} {ns : List Int} {tk : Tok} {ops : List Value} {Q : Value → Shared → Prop}
    (F : Fr h₀ L s.heap m) (N : News h₀ L s.heap news) (hl : s.heap.IsList l vs.toArray) (hi : IntsAre vs ns)
    (h : ∀ D ws h', Fr h₀ L h' m → News h₀ L h' ((D, W.listOf (List.toArray ws) 0) :: news) → (∀ p ∈ news, p.1 ≠ D) → IntsAre ws ns.reverse → Q (.ref D) { s with heap := h' })
    (hs : subscripted slice false (.ref l) (.ref s.heap.objs.size) = operate ops (getItem (.ref l) (.ref s.heap.objs.size))) (hz : vs.length ≤ 1000) :
    wpAny (model prog w) A (subscriptTail value slice (.ref l) (.ref s.heap.objs.size)) Q E { s with heap := s.heap.push { cls := .type "slice", data := .fields #[.none, .none, .int (-1) tk] } } := by
  refine tail_any (T := "list") (Heap.IsList.typeIs (s := { s with heap := s.heap.push { cls := .type "slice", data := .fields #[.none, .none, .int (-1) tk] } }) (hl.push _)) list_getitem_lookup (wpAny_getItem_list_slice (lo := none) (hi := none) (st := some (-1)) (hl.push _) (Heap.IsSliceOf.new ..) .none .none (.int _ _) (by simp) ?_ (by rw [sizeLine_eq, List.size_toArray]; omega)) hs
  rw [krv_pick]
  have k : ∀ (o1 o2 : Obj) q o, s.heap.get? q = some o → ((s.heap.push o1).push o2).get? q = some o := fun o1 o2 q o e => Heap.get?_push_of_some _ (Heap.get?_push_of_some _ e)
  have hn : s.heap.get? (s.heap.push { cls := .type "slice", data := .fields #[.none, .none, .int (-1) tk] }).objs.size = none := by
    rw [Heap.size_push]
    exact Heap.get?_none_of_le (Nat.le_succ _)
  have e : vs.toArray.toList.reverse = vs.reverse := rfl
  rw [e]
  exact h _ vs.reverse _ (frUp F (k _ _)) (newsAdd F N (k _ _) hn (Heap.get?_push_size _ rfl)) (newsNe N hn) hi.reverse

theorem RowAt.obj {h : Heap} {D : Addr} {xs : List Int} (R : RowAt h D xs) : ∃ oR, h.get? D = some oR ∧ (∀ es ep, oR.data ≠ .dict es ep) ∧ ∀ h' : Heap, h'.get? D = some oR → RowAt h' D xs := by
  rcases R with ⟨vs, n, h1, h2⟩ | ⟨b, st, ct, t, u, v, h1, h2⟩
  · exact ⟨_, h1, (fun _ _ q => by cases q), fun h' e => .inl ⟨vs, n, e, h2⟩⟩
  · exact ⟨_, h1, (fun _ _ q => by cases q), fun h' e => .inr ⟨b, st, ct, t, u, v, e, h2⟩⟩

set_option maxRecDepth 100000 in
set_option maxHeartbeats 8000000 in
theorem law_t : PySem.Challenge.rw_dz0121_01.Holds := hd (by
  k_go0
  all_goals try k_fold
  repeat' (first | (fail_if_success (with_reducible show wpAny _ _ (call (Value.ref _) _) _ _ _)); first | walk1)
  (with_reducible rename Frag.In _ _ => KX)
  (with_reducible rename Top _ _ _ _ _ _ => T)
  (with_reducible rename IntsAre _ _ => hI)
  (with_reducible rename Heap.IsList _ _ _ => hL)
  (with_reducible rename Fr _ _ _ _ => F)
  (with_reducible rename News _ _ _ _ => N0)
  (with_reducible rename PyData.layable0 _ = true => hlay)
  (with_reducible rename ¬ _ < _ => hlen)
  rename List Int => ns
  rename World => w
  have hfit := fits_base hlay
  refine ladders_call (KX.keeps F.keep) (T.keeps F.keep) (by show callerA.depth + 1 ≤ 690; decide) (by show callerA.units + 3 ≤ 500; decide) rfl (hL.at fun o e => F.keep _ o e) hI (by omega) ?_
  intro D h2 tk2 n2 lads k2 hD hg hlads hla hl2 hl4
  have F2 := frUp F k2
  rename Shared => s1
  have N2 : News s1.heap s1.heap.objs.size h2 ((D, W.listOf (lads.map fun p => Value.ref p.1).toArray n2) :: lads) := by
    obtain ⟨oL, es, ep, hLL, hLd, _⟩ := F.ns
    intro p hp
    rcases List.mem_cons.mp hp with rfl | hp
    · have hne : D ≠ s1.heap.objs.size := fun q => by
        dsimp only at hD
        rw [q, hLL] at hD; cases hD
      exact ⟨hg, hne, none_down F.keep hD⟩
    · have h3 := (hlads p hp).2
      have hne : p.1 ≠ s1.heap.objs.size := fun q => by
        dsimp only at h3
        rw [q, hLL] at h3; cases h3
      exact ⟨(hlads p hp).1, hne, none_down F.keep h3⟩
  obtain ⟨p0, rest, rfl⟩ : ∃ p0 rest, lads = p0 :: rest := by
    cases lads with
    | nil => simp at hl2
    | cons p r => exact ⟨p, r, rfl⟩
  replace F2 := fr1 (x1 := "script") (v1 := .ref _) F2
  dsimp only at k2 hD hlads ⊢
  clear N0
  refine wpAny_noRaise ?_
  repeat' (first | (fail_if_success (with_reducible show wpAny _ _ (subscriptTail _ _ _ _) _ _ _)); first | walk1 | (dsimp only; walk1))
  refine item_list (x := .ref p0.1) ⟨_, (by assumption : News _ _ _ _) _ (.head _) |>.1, rfl, _, rfl⟩ (by decide) (by decide) (by simp) ?_
  obtain ⟨b0, st0, ct0, o0, ⟨⟨t1, t2, t3, t4, el⟩, s1a, s1b, s1c, s1d, s1e, s1f, s1g, s1h⟩⟩ := hla p0 (.head _)
  repeat' (first | (fail_if_success (with_reducible show wpAny _ _ (call (Value.ref _) _) _ _ _)); first | walk1 | (dsimp only; walk1))
  (with_reducible rename Fr _ _ _ _ => F3)
  (with_reducible rename News _ _ _ _ => N3)
  have l0 := (N3 _ (.tail _ (.head _))).1
  rw [el] at l0
  refine bag_call (KX.keeps F3.keep) (T.keeps F3.keep) (by show callerA.depth + 1 ≤ 700; decide) rfl l0 (by omega) (by omega) (by omega) (by omega) (by omega) (by omega) ?_
  intro bg h4 tk4 bvs bn k4 hbg gbg bi
  have F4 := frUp F3 k4
  have N4 : News s1.heap s1.heap.objs.size h4 ((bg, W.listOf bvs.toArray bn) :: (p0.1, lad b0 st0 ct0 o0 t1 t2 t3 t4 0) :: (D, W.listOf (List.map (fun p => Value.ref p.fst) (p0 :: rest)).toArray n2) :: p0 :: rest) := by
    intro p hp
    rcases List.mem_cons.mp hp with rfl | hp
    · exact newsSet F3 N3 (fun q o _ e => k4 q o e) hbg gbg _ (.head _)
    · rcases List.mem_cons.mp hp with rfl | hp
      · have := N3 _ (.tail _ (.head _))
        exact ⟨k4 _ _ l0, this.2⟩
      · exact newsUp N3 k4 p hp
  have nbg : ∀ p ∈ (D, W.listOf (List.map (fun p => Value.ref p.fst) (p0 :: rest)).toArray n2) :: p0 :: rest, p.1 ≠ bg := newsNe N3 hbg
  clear F3 N3
  repeat' (first | (fail_if_success (with_reducible show wpAny _ _ (exec (Stmt.For _ _ _ _ _) _) _ _ _)); first | walk1 | (dsimp only; walk1))
  refine For_invV s1.heap rfl rfl ?_
  repeat' (first | (fail_if_success (with_reducible show wpAny _ _ (subscriptTail _ _ _ _) _ _ _)); first | walk1 | (dsimp only; walk1))
  (with_reducible rename Fr _ _ _ _ => F5)
  (with_reducible rename News _ _ _ _ => N5)
  refine kmk_slice F5 N5 (its := (List.map (fun p => Value.ref p.fst) (p0 :: rest)).toArray) (lo := some 1) (hi := none) ⟨_, (N5 _ (.tail _ (.tail _ (.head _)))).1, rfl, _, rfl⟩ (.int _ _) .none ?_ (by with_unfolding_all rfl) (by intro _; with_unfolding_all rfl) (by rw [sizeLine_eq]; simp at hl4 ⊢; omega)
  intro ax h6 F6 N6 hax
  have esl : slicePick (List.map (fun p => Value.ref p.fst) (p0 :: rest)).toArray (some 1) none none = (List.map (fun p => Value.ref p.fst) rest).toArray := by
    have := slicePick_from' (List.map (fun p => Value.ref p.fst) (p0 :: rest)).toArray 1
    rw [show ((1 : Nat) : Int) = 1 from rfl] at this
    rw [this]
    simp
  rw [esl] at N6
  have nax := N6 _ (.head _)
  have laxbg : bg ≠ ax := Nat.ne_of_lt (hax _ (.head _))
  have N6' : News s1.heap s1.heap.objs.size h6 ((bg, W.listOf bvs.toArray bn) :: (p0.1, lad b0 st0 ct0 o0 t1 t2 t3 t4 0) :: p0 :: rest) := by
    intro p hp
    rcases List.mem_cons.mp hp with rfl | hp
    · exact N6 _ (.tail _ (.head _))
    · rcases List.mem_cons.mp hp with rfl | hp
      · exact N6 _ (.tail _ (.tail _ (.head _)))
      · exact N6 _ (.tail _ (.tail _ (.tail _ (.tail _ hp))))
  refine iter_refs (items := List.map (fun p => Value.ref p.fst) rest) rfl ⟨_, nax.1, rfl, _, rfl⟩ F6 N6' nax.2.2 nax.2.1 (LawJ (List.take 63 ns).sum (p0 :: rest) ax) ?j0 ?step ?done
  case j0 =>
    refine ⟨p0.1, bg, b0, st0, ct0, o0, t1, t2, t3, t4, 0, bvs, bn, rfl, rfl, rfl, bi, ⟨by omega, by simpa using s1b, by omega, by omega, by omega, by omega, by omega, by simpa using s1h⟩, ?_, laxbg⟩
    intro p hp
    rcases List.mem_cons.mp hp with rfl | hp
    · exact nbg p0 (.tail _ (.head _))
    · exact nbg _ (.tail _ hp)
  case done =>
    intro h tk m' news' F8 N8 hJ8
    change Fr s1.heap s1.heap.objs.size h m' at F8
    change News s1.heap s1.heap.objs.size h news' at N8
    repeat' (first | walk1)
    dsimp only
    first | (w_end; refine goodW_bool (by assumption) (by assumption) (raisesW_false ?_) ?_; (· wrow_none_raised); (· wrow_post)) | trace_state
  case step =>
    intro i v m₁ news₁ h tk own oI oa hv hJ hIo hao hown hnI F7 N7
    change Fr s1.heap s1.heap.objs.size h _ at F7
    change News s1.heap s1.heap.objs.size h _ at N7
    clear F5 N5 F6 N6 N6' nax hax
    obtain ⟨c1, bg', b, st, ct, o, u1, u2, u3, u4, nl, bvs', bn', rfl, mo, mb', bi', LI, nb, nbx⟩ := hJ
    have hil : i < rest.length := by
      have := (List.getElem?_eq_some_iff.mp hv).1
      simpa using this
    obtain ⟨p, hp, rfl⟩ : ∃ p ∈ rest, v = .ref p.1 := by
      rw [List.getElem?_map] at hv
      cases hr : rest[i]? with
      | none => rw [hr] at hv; cases hv
      | some p => rw [hr] at hv; exact ⟨p, List.mem_of_getElem? hr, (Option.some.inj hv).symm⟩
    have hi2 : i ≤ 2 := by simp at hl4; omega
    have hst64 : st ≤ 64 := by
      have := LI.s1
      have h4 : (4 : Int) ^ (i + 1) ≤ 4 ^ 3 := by
        rcases (by omega : i = 0 ∨ i = 1 ∨ i = 2) with rfl | rfl | rfl <;> decide
      have : (4 : Int) ^ 3 = 64 := by decide
      omega
    obtain ⟨b2, st2, ct2, o2, ⟨⟨v1, v2, v3, v4, ep⟩, q1, q2, q3, q4, q5, q6, q7, q8⟩⟩ := hla p (.tail _ hp)
    have N8 : News s1.heap s1.heap.objs.size h ((bg', W.listOf bvs'.toArray bn') :: (c1, lad b st ct o u1 u2 u3 u4 nl) :: (p.1, lad b2 st2 ct2 o2 v1 v2 v3 v4 0) :: (own ++ p0 :: rest)) := by
      intro r hr
      rcases List.mem_cons.mp hr with rfl | hr
      · exact N7 _ (List.mem_append_right _ (.head _))
      · rcases List.mem_cons.mp hr with rfl | hr
        · exact N7 _ (List.mem_append_right _ (.tail _ (.head _)))
        · rcases List.mem_cons.mp hr with rfl | hr
          · have := N7 p (List.mem_append_right _ (.tail _ (.tail _ (.tail _ hp))))
            rw [ep] at this
            exact this
          · rcases List.mem_append.mp hr with hr | hr
            · exact N7 _ (List.mem_append_left _ hr)
            · exact N7 _ (List.mem_append_right _ (.tail _ (.tail _ hr)))
    have em : kstB m₁ [("one", .ref c1), ("bag", .ref bg')] = m₁ := by
      funext y
      refine kstB_eq (m₁ := m₁) ?_ fun _ => rfl
      intro p hp
      simp only [List.mem_cons, List.not_mem_nil, or_false] at hp
      rcases hp with rfl | rfl <;> assumption
    rw [← em] at F7
    clear N7
    repeat' (first | (fail_if_success (with_reducible show wpAny _ _ (call (Value.ref _) _) _ _ _)); first | walk1 | (dsimp only; walk1))
    have CO := common_law (b := b) (b2 := b2) LI.s0 LI.c0 LI.c1 LI.o0 LI.o1 (by omega : 0 < st2) q2 q3 q5 q6
    refine common_call (KX.keeps F7.keep) (T.keeps F7.keep) (by show callerA.depth + 1 ≤ 690; decide) (by show callerA.units + 3 ≤ 500; decide) rfl (N8 _ (.tail _ (.head _))).1 (N8 _ (.tail _ (.tail _ (.head _)))).1 LI.s0 (by omega) LI.c0 LI.c1 LI.o0 LI.o1 (by omega) q2 q3 q4 q5 q6 ?_
    intro cm h9 tk9 w1 w2 w3 w4 nm k9 hcm gcm
    generalize hcom : commonI b st ct o b2 st2 ct2 o2 = com at CO gcm
    obtain ⟨b', st', ct', o'⟩ := com
    dsimp only at gcm
    have F9 := frUp F7 k9
    have N9 := newsAdd F7 N8 k9 hcm gcm
    have ne9 := newsNe N8 hcm
    clear F7 N8 k9 hcm gcm
    repeat' (first | (fail_if_success (with_reducible show wpAny _ _ (call (Value.ref _) _) _ _ _)); first | walk1 | (dsimp only; walk1))
    (with_reducible rename Fr _ _ _ _ => F9)
    (with_reducible rename News _ _ _ _ => N9)
    refine row_call (KX.keeps F9.keep) (T.keeps F9.keep) (by show callerA.depth + 1 ≤ 690; decide) rfl (N9 _ (.tail _ (.tail _ (.head _)))).1 LI.s0 (by omega) LI.c0 LI.c1 LI.o0 LI.o1 (hfit.near (by have := LI.b0; omega) (by have := LI.b1; omega)) ?_
    intro rw1 h10 tk10 k10 hrw R10
    obtain ⟨or1, gr1, dr1, Rr1⟩ := R10.obj
    have F10 := frUp F9 k10
    have N10 := newsAdd F9 N9 k10 hrw gr1
    have ne10 := newsNe N9 hrw
    clear F9 N9 k10 hrw gr1 R10
    repeat' (first | (fail_if_success (with_reducible show wpAny _ _ (call (Value.ref _) _) _ _ _)); first | walk1 | (dsimp only; walk1))
    (with_reducible rename Fr _ _ _ _ => F10)
    (with_reducible rename News _ _ _ _ => N10)
    refine row_call (KX.keeps F10.keep) (T.keeps F10.keep) (by show callerA.depth + 1 ≤ 690; decide) rfl (N10 _ (.tail _ (.tail _ (.tail _ (.tail _ (.head _)))))).1 (by omega) (by omega) (by omega) (by omega) (by omega) (by omega) (hfit.near (by omega) (by omega)) ?_
    intro rw2 h11 tk11 k11 hrw R11
    obtain ⟨or2, gr2, dr2, Rr2⟩ := R11.obj
    have F11 := frUp F10 k11
    have N11 := newsAdd F10 N10 k11 hrw gr2
    have ne11 := newsNe N10 hrw
    clear F10 N10 k11 hrw gr2 R11
    repeat' (first | (fail_if_success (with_reducible show wpAny _ _ (call (Value.ref _) _) _ _ _)); first | walk1 | (dsimp only; walk1))
    (with_reducible rename Fr _ _ _ _ => F11)
    (with_reducible rename News _ _ _ _ => N11)
    have lb1 : (bagI b st ct o).length ≤ 36 := bag_len LI.c1 LI.o1
    have lb2 : (bagI b2 st2 ct2 o2).length ≤ 36 := bag_len q4 q6
    have e21 := sld_law CO.both LI.s0 LI.c0 LI.o0 (by omega) (by omega) q5
    dsimp only at e21
    have hst'1000 : st' ≤ 1000 := by have := CO.s1; dsimp only at this; omega
    refine sld_call F11 KX T rfl (Rr1 _ (N11 _ (.tail _ (.head _))).1) (Rr2 _ (N11 _ (.head _)).1) (by omega) (by omega) ?_
    intro h12 tk12 dt dc1 dc2 us ws n1 n2' F12 gd gc1 gc2 i1 i2 fd fc1 fc2 k12
    rw [e21] at i1 i2
    dsimp only at i1 i2
    have N12 := newsCons (newFact F11 fd gd) (newsCons (newFact F11 fc1 gc1) (newsCons (newFact F11 fc2 gc2) (newsKeepL N11 k12)))
    clear N11 F11 k12 gd gc1 gc2
    repeat' (first | (fail_if_success (with_reducible show wpAny _ _ (call (Value.ref _) _) _ _ _)); first | walk1 | (dsimp only; walk1))
    have g_c1 : ∀ {h : Heap} {pre : List (Addr × Obj)}, News s1.heap s1.heap.objs.size h (pre ++ (cm, lad b' st' ct' o' w1 w2 w3 w4 nm) :: (bg', W.listOf bvs'.toArray bn') :: (c1, lad b st ct o u1 u2 u3 u4 nl) :: (p.fst, lad b2 st2 ct2 o2 v1 v2 v3 v4 0) :: (own ++ p0 :: rest)) →
        h.get? c1 = some (lad b st ct o u1 u2 u3 u4 nl) ∧ h.get? p.1 = some (lad b2 st2 ct2 o2 v1 v2 v3 v4 0) ∧ h.get? cm = some (lad b' st' ct' o' w1 w2 w3 w4 nm) := by
      intro h pre N
      exact ⟨(N _ (List.mem_append_right _ (.tail _ (.tail _ (.head _))))).1, (N _ (List.mem_append_right _ (.tail _ (.tail _ (.tail _ (.head _)))))).1, (N _ (List.mem_append_right _ (.head _))).1⟩
    obtain ⟨ga, gb, gc⟩ := g_c1 (pre := [_, _, _, _, _]) N12
    refine off_call (KX.keeps F12.keep) (T.keeps F12.keep) (by show callerA.depth + 1 ≤ 690; decide) rfl ga gc gb LI.s0 (by omega) LI.c0 LI.c1 LI.o0 LI.o1 CO.s0 hst'1000 (by omega) (by omega) (by omega) (by omega) ?_
    intro D13 h13 tk13 vs13 n13 k13 f13 g13 i13
    have F13 := frUp F12 k13
    have N13 := newsAdd F12 N12 k13 f13 g13
    clear F12 N12 k13 f13 g13 ga gb gc
    repeat' (first | (fail_if_success (with_reducible show wpAny _ _ (call (Value.ref _) _) _ _ _)); first | walk1 | (dsimp only; walk1))
    obtain ⟨ga, gb, gc⟩ := g_c1 (pre := [_, _, _, _, _, _]) N13
    refine off_call (KX.keeps F13.keep) (T.keeps F13.keep) (by show callerA.depth + 1 ≤ 690; decide) rfl gb gc ga (by omega) (by omega) (by omega) (by omega) (by omega) (by omega) CO.s0 hst'1000 LI.s0 (by omega) LI.c0 LI.c1 ?_
    intro D14 h14 tk14 vs14 n14 k14 f14 g14 i14
    have F14 := frUp F13 k14
    have N14 := newsAdd F13 N13 k14 f14 g14
    clear F13 N13 k14 f14 g14 ga gb gc
    repeat' (first | (fail_if_success (with_reducible show wpAny _ _ (compareOp _ _ _) _ _ _)); first | walk1 | (dsimp only; walk1))
    (with_reducible rename Fr _ _ _ _ => F14)
    (with_reducible rename News _ _ _ _ => N14)
    refine ne_two (N14 _ (.tail _ (.tail _ (.tail _ (.head _))))).1 (N14 _ (.head _)).1 (N14 _ (.tail _ (.tail _ (.tail _ (.tail _ (.head _)))))).1 (N14 _ (.tail _ (.tail _ (.tail _ (.tail _ (.tail _ (.head _))))))).1 (N14 _ (.tail _ (.tail _ (.head _)))).1 (N14 _ (.tail _ (.head _))).1 i1 i2 i13 i14 (by show callerA.units + 3 + 64 < cLine; decide) ?_
    repeat' (first | (fail_if_success (with_reducible show wpAny _ _ (call (Value.type _) _) _ _ _)); first | walk1 | (dsimp only; walk1))
    have N15 : News s1.heap s1.heap.objs.size _ ((rw2, or2) :: (rw1, or1) :: (cm, lad b' st' ct' o' w1 w2 w3 w4 nm) :: (bg', W.listOf bvs'.toArray bn') :: (c1, lad b st ct o u1 u2 u3 u4 nl) :: (p.fst, lad b2 st2 ct2 o2 v1 v2 v3 v4 0) :: (own ++ p0 :: rest)) :=
      fun r hr => N14 r (.tail _ (.tail _ (.tail _ (.tail _ (.tail _ (.tail _ hr))))))
    clear N14 i1 i2 i13 i14
    refine list_row rfl (Rr1 _ (N15 _ (.tail _ (.head _))).1) (by omega) ?_
    intro h16 tk16 D16 vs16 n16 k16 f16 g16 i16
    have F16 := frUp F14 k16
    have N16 := newsAdd F14 N15 k16 f16 g16
    clear F14 N15 k16 f16 g16
    repeat' (first | (fail_if_success (with_reducible show wpAny _ _ (compareOp _ _ _) _ _ _)); first | walk1 | (dsimp only; walk1))
    refine ne_intsK ⟨_, (N16 _ (.head _)).1, rfl, _, rfl⟩ i16 ⟨_, (N16 _ (.tail _ (.tail _ (.tail _ (.tail _ (.head _)))))).1, rfl, _, rfl⟩ bi' (by show callerA.units + 3 + 64 < cLine; decide) ?_
    simp only [decide_true, Bool.not_true]
    repeat' (first | (fail_if_success (with_reducible show wpAny _ _ (call (Value.type _) _) _ _ _)); first | walk1 | (dsimp only; walk1))
    refine list_row rfl (Rr2 _ (N16 _ (.tail _ (.head _))).1) (by omega) ?_
    intro h17 tk17 D17 vs17 n17 k17 f17 g17 i17
    have F17 := frUp F16 k17
    have N17 := newsAdd F16 N16 k17 f17 g17
    clear F16 N16 k17 f17 g17
    repeat' (first | (fail_if_success (with_reducible show wpAny _ _ (call (Value.ref _) _) _ _ _)); first | walk1 | (dsimp only; walk1))
    obtain ⟨ga, gb, gc⟩ := g_c1 (pre := [_, _, _, _]) N17
    refine bag_call (KX.keeps F17.keep) (T.keeps F17.keep) (by show callerA.depth + 1 ≤ 700; decide) rfl gb (by omega) (by omega) (by omega) (by omega) (by omega) (by omega) ?_
    intro D18 h18 tk18 vs18 n18 k18 f18 g18 i18
    have F18 := frUp F17 k18
    have N18 := newsAdd F17 N17 k18 f18 g18
    clear F17 N17 k18 f18 g18 ga gb gc
    repeat' (first | (fail_if_success (with_reducible show wpAny _ _ (compareOp _ _ _) _ _ _)); first | walk1 | (dsimp only; walk1))
    refine ne_intsK ⟨_, (N18 _ (.tail _ (.head _))).1, rfl, _, rfl⟩ i17 ⟨_, (N18 _ (.head _)).1, rfl, _, rfl⟩ i18 (by show callerA.units + 3 + 64 < cLine; decide) ?_
    simp only [decide_true, Bool.not_true]
    repeat' (first | (fail_if_success (with_reducible show wpAny _ _ (call (Value.type _) _) _ _ _)); first | walk1 | (dsimp only; walk1))
    have N19 : News s1.heap s1.heap.objs.size _ ((cm, lad b' st' ct' o' w1 w2 w3 w4 nm) :: (bg', W.listOf bvs'.toArray bn') :: (c1, lad b st ct o u1 u2 u3 u4 nl) :: (p.fst, lad b2 st2 ct2 o2 v1 v2 v3 v4 0) :: (own ++ p0 :: rest)) :=
      fun r hr => N18 r (.tail _ (.tail _ (.tail _ (.tail _ (.tail _ hr)))))
    clear N18 i16 i17 i18
    refine list_row (xs := bagI b st ct o) rfl (.inl ⟨bvs', bn', (N19 _ (.tail _ (.head _))).1, bi'⟩) (by omega) ?_
    intro h20 tk20 fst vs20 n20 k20 f20 g20 i20
    have F20 := frUp F18 k20
    have N20 := newsAdd F18 N19 k20 f20 g20
    have ne20 := newsNe N19 f20
    clear F18 N19 k20 f20 g20
    repeat' (first | (fail_if_success (with_reducible show wpAny _ _ (call (Value.ref _) _) _ _ _)); first | walk1 | (dsimp only; walk1))
    (with_reducible rename Fr _ _ _ _ => F20)
    (with_reducible rename News _ _ _ _ => N20)
    obtain ⟨ga, gb, gc⟩ := g_c1 (pre := [_]) N20
    refine bag_call (KX.keeps F20.keep) (T.keeps F20.keep) (by show callerA.depth + 1 ≤ 700; decide) rfl gb (by omega) (by omega) (by omega) (by omega) (by omega) (by omega) ?_
    intro sec h21 tk21 vs21 n21 k21 f21 g21 i21
    have F21 := frUp F20 k21
    have N21 := newsAdd F20 N20 k21 f21 g21
    have ne21 := newsNe N20 f21
    clear F20 N20 k21 f21 g21 ga gb gc
    repeat' (first | (fail_if_success (with_reducible show wpAny _ _ (call (Value.ref _) _) _ _ _)); first | walk1 | (dsimp only; walk1))
    (with_reducible rename Fr _ _ _ _ => F21)
    (with_reducible rename News _ _ _ _ => N21)
    have e3 := uld_law CO.both LI.s0 LI.c0 LI.o0 (by omega) (by omega) q5
    dsimp only at e3
    have hfs : fst ≠ sec := ne21 _ (.head _)
    have N21u : News s1.heap s1.heap.objs.size _ [(fst, W.listOf vs20.toArray n20), (sec, W.listOf vs21.toArray n21)] := newsCons (N21 _ (.tail _ (.head _))) (newsCons (N21 _ (.head _)) News.nil)
    refine uld_call F21 KX T rfl N21u hfs i20 i21 (by omega) (by omega) ?_
    intro h22 tk22 dt2 ms us2 ws2 n1a n2a n3a F22 N22a i22 i22' _ _ _ _ fms fdt2 k22
    rw [e3] at i22 i22'
    dsimp only at i22 i22'
    have N22 : News s1.heap s1.heap.objs.size h22 ((dt2, { cls := .type "tuple", data := .seq #[.ref ms, .ref sec] }) :: (ms, W.listOf ws2.toArray n3a) :: (fst, W.listOf #[] n1a) :: (sec, W.listOf us2.toArray n2a) :: (cm, lad b' st' ct' o' w1 w2 w3 w4 nm) :: (bg', W.listOf bvs'.toArray bn') :: (c1, lad b st ct o u1 u2 u3 u4 nl) :: (p.fst, lad b2 st2 ct2 o2 v1 v2 v3 v4 0) :: (own ++ p0 :: rest)) := by
      refine newsCons (N22a _ (.head _)) (newsCons (N22a _ (.tail _ (.head _))) (newsCons (N22a _ (.tail _ (.tail _ (.head _)))) (newsCons (N22a _ (.tail _ (.tail _ (.tail _ (.head _))))) ?_)))
      intro r hr
      have h1 := N21 r (.tail _ (.tail _ hr))
      exact ⟨k22 _ _ h1.1 h1.2.1 (ne20 r hr) (ne21 r (.tail _ hr)), h1.2⟩
    have nems : ∀ r ∈ (cm, lad b' st' ct' o' w1 w2 w3 w4 nm) :: (bg', W.listOf bvs'.toArray bn') :: (c1, lad b st ct o u1 u2 u3 u4 nl) :: (p.fst, lad b2 st2 ct2 o2 v1 v2 v3 v4 0) :: (own ++ p0 :: rest), r.1 ≠ ms := fun r hr q => by
      have := (N21 r (.tail _ (.tail _ hr))).1
      rw [q] at this
      rw [fms] at this; cases this
    clear F21 N21 N21u N22a k22
    repeat' (first | (fail_if_success (with_reducible show wpAny _ _ (call (Value.ref _) _) _ _ _)); (fail_if_success (with_reducible show wpAny _ _ (compareOp _ _ _) _ _ _)); first | walk1 | (dsimp only; walk1))
    (with_reducible rename Fr _ _ _ _ => F22)
    (with_reducible rename News _ _ _ _ => N22)
    refine ne_intsK (vs := []) (us := []) ⟨_, (N22 _ (.tail _ (.tail _ (.tail _ (.head _))))).1, rfl, _, rfl⟩ .nil ⟨_, (N22 _ (.head _)).1, rfl, _, rfl⟩ .nil (by show callerA.units + 3 + 64 < cLine; decide) ?_
    simp only [decide_true, Bool.not_true]
    repeat' (first | (fail_if_success (with_reducible show wpAny _ _ (call (Value.ref _) _) _ _ _)); first | walk1 | (dsimp only; walk1))
    obtain ⟨ga, gb, gc⟩ := g_c1 (pre := [_, _, _, _, _]) N22
    refine more_call (KX.keeps F22.keep) (T.keeps F22.keep) (by show callerA.depth + 1 ≤ 690; decide) rfl gb gc ga (by omega) (by omega) (by omega) (by omega) (by omega) (by omega) CO.s0 hst'1000 LI.o0 LI.o1 ?_
    intro D23 h23 tk23 vs23 n23 k23 f23 g23 i23
    have F23 := frUp F22 k23
    have N23 := newsAdd F22 N22 k23 f23 g23
    clear F22 N22 k23 f23 g23 ga gb gc
    repeat' (first | (fail_if_success (with_reducible show wpAny _ _ (compareOp _ _ _) _ _ _)); first | walk1 | (dsimp only; walk1))
    refine ne_intsK ⟨_, (N23 _ (.tail _ (.tail _ (.tail _ (.tail _ (.tail _ (.head _))))))).1, rfl, _, rfl⟩ i22 ⟨_, (N23 _ (.head _)).1, rfl, _, rfl⟩ i23 (by show callerA.units + 3 + 64 < cLine; decide) ?_
    simp only [decide_true, Bool.not_true]
    repeat' (first | (fail_if_success (with_reducible show wpAny _ _ (call (Value.ref _) _) _ _ _)); first | walk1 | (dsimp only; walk1))
    obtain ⟨ga, gb, gc⟩ := g_c1 (pre := [_, _, _, _, _, _]) N23
    refine more_call (KX.keeps F23.keep) (T.keeps F23.keep) (by show callerA.depth + 1 ≤ 690; decide) rfl ga gc gb LI.s0 (by omega) LI.c0 LI.c1 LI.o0 LI.o1 CO.s0 hst'1000 q5 q6 ?_
    intro D24 h24 tk24 vs24 n24 k24 f24 g24 i24
    have F24 := frUp F23 k24
    have N24 := newsAdd F23 N23 k24 f24 g24
    clear F23 N23 k24 f24 g24 ga gb gc
    repeat' (first | (fail_if_success (with_reducible show wpAny _ _ (subscriptTail _ _ _ _) _ _ _)); first | walk1 | (dsimp only; walk1))
    have lm : (pieces (moreG o o2 b' st' ct') b st ct.toNat).length ≤ 36 := by
      have h3 : ∀ x, (moreG o o2 b' st' ct' x).length ≤ 3 := by
        intro x
        unfold moreG
        have := LI.o0
        have := LI.o1
        rw [List.length_replicate]; split <;> omega
      have := pieces_length (moreG o o2 b' st' ct') b st h3 ct.toNat
      have := LI.c1
      omega
    refine rev_any F24 N24 ⟨_, (N24 _ (.head _)).1, rfl, _, rfl⟩ i24 ?_ (by with_unfolding_all rfl) (by rw [i24.length]; omega)
    intro D25 ws25 h25 F25 N25 ne25 i25
    clear F24 N24
    repeat' (first | (fail_if_success (with_reducible show wpAny _ _ (compareOp _ _ _) _ _ _)); first | walk1 | (dsimp only; walk1))
    refine ne_intsK ⟨_, (N25 _ (.tail _ (.tail _ (.tail _ (.tail _ (.tail _ (.head _))))))).1, rfl, _, rfl⟩ i22' ⟨_, (N25 _ (.head _)).1, rfl, _, rfl⟩ i25 (by show callerA.units + 3 + 64 < cLine; decide) ?_
    simp only [decide_true, Bool.not_true]
    repeat' (first | (fail_if_success (with_reducible show wpAny _ _ (call (Value.ref _) _) _ _ _)); first | walk1 | (dsimp only; walk1))
    have hbm : bg' ≠ ms := nems _ (.tail _ (.head _))
    have N25u : News s1.heap s1.heap.objs.size _ [(bg', W.listOf bvs'.toArray bn'), (ms, W.listOf ws2.toArray n3a)] := newsCons (N25 _ (.tail _ (.tail _ (.tail _ (.tail _ (.tail _ (.tail _ (.tail _ (.tail _ (.tail _ (.head _))))))))))) (newsCons (N25 _ (.tail _ (.tail _ (.tail _ (.tail _ (.tail _ (.head _))))))) News.nil)
    have e4 : uldF (bagI b st ct o) (pieces (moreG o o2 b' st' ct') b st ct.toNat).reverse [] = ([], (bagI b' st' ct' o').reverse) := by
      have hz := CO.zero
      dsimp only at hz
      rcases hz with hz | hz
      · have e5 := rest_law (o' := if o2 < o then o2 else o) CO.both LI.s0 LI.c0 LI.o0 q5 CO.s0 CO.c0 rfl
        dsimp only at e5
        rw [e5, hz]
        rfl
      · exact rest_law CO.both LI.s0 LI.c0 LI.o0 q5 CO.s0 CO.c0 hz
    refine uld_call F25 KX T rfl N25u hbm bi' i22' (by omega) (by rw [List.length_reverse]; omega) ?_
    intro h26 tk26 dt3 kp us3 ws3 n1b n2b n3b F26 N26a i26 i26' _ _ _ _ fkp fdt3 k26
    rw [e4] at i26 i26'
    dsimp only at i26 i26'
    have ncb : ∀ r ∈ (cm, lad b' st' ct' o' w1 w2 w3 w4 nm) :: (c1, lad b st ct o u1 u2 u3 u4 nl) :: (p.fst, lad b2 st2 ct2 o2 v1 v2 v3 v4 0) :: (own ++ p0 :: rest), r.1 ≠ bg' := by
      intro r hr
      rcases List.mem_cons.mp hr with rfl | hr
      · exact Ne.symm (ne9 _ (.head _))
      · rcases List.mem_cons.mp hr with rfl | hr
        · exact nb _ (.head _)
        · rcases List.mem_cons.mp hr with rfl | hr
          · exact nb p (.tail _ (.tail _ hp))
          · rcases List.mem_append.mp hr with hr | hr
            · rcases hown r hr with q | q
              · rw [q]; exact Ne.symm (hnI _ (.head _))
              · rw [q]; exact Ne.symm nbx
            · exact nb r (.tail _ hr)
    have N26 : News s1.heap s1.heap.objs.size h26 ((dt3, { cls := .type "tuple", data := .seq #[.ref kp, .ref ms] }) :: (kp, W.listOf ws3.toArray n3b) :: (ms, W.listOf us3.toArray n2b) :: (cm, lad b' st' ct' o' w1 w2 w3 w4 nm) :: (c1, lad b st ct o u1 u2 u3 u4 nl) :: (p.fst, lad b2 st2 ct2 o2 v1 v2 v3 v4 0) :: (own ++ p0 :: rest)) := by
      refine newsCons (N26a _ (.head _)) (newsCons (N26a _ (.tail _ (.head _))) (newsCons (N26a _ (.tail _ (.tail _ (.tail _ (.head _))))) ?_))
      intro r hr
      have hr' : r ∈ (cm, lad b' st' ct' o' w1 w2 w3 w4 nm) :: (bg', W.listOf bvs'.toArray bn') :: (c1, lad b st ct o u1 u2 u3 u4 nl) :: (p.fst, lad b2 st2 ct2 o2 v1 v2 v3 v4 0) :: (own ++ p0 :: rest) := by
        rcases List.mem_cons.mp hr with rfl | hr
        · exact .head _
        · exact .tail _ (.tail _ hr)
      have h1 := N25 r (.tail _ (.tail _ (.tail _ (.tail _ (.tail _ (.tail _ (.tail _ (.tail _ hr'))))))))
      exact ⟨k26 _ _ h1.1 h1.2.1 (ncb r hr) (nems r hr'), h1.2⟩
    clear F25 N25 N25u N26a k26
    repeat' (first | (fail_if_success (with_reducible show wpAny _ _ (subscriptTail _ _ _ _) _ _ _)); first | walk1 | (dsimp only; walk1))
    (with_reducible rename Fr _ _ _ _ => F26)
    (with_reducible rename News _ _ _ _ => N26)
    have lbc : (bagI b' st' ct' o').length ≤ 36 := bag_len CO.c1 CO.o1
    refine rev_any F26 N26 ⟨_, (N26 _ (.tail _ (.head _))).1, rfl, _, rfl⟩ i26' ?_ (by with_unfolding_all rfl) (by rw [i26'.length, List.length_reverse]; omega)
    intro D27 ws27 h27 F27 N27 ne27 i27
    rw [List.reverse_reverse] at i27
    clear F26 N26
    repeat' (first | (fail_if_success (with_reducible show wpAny _ _ (compareOp _ _ _) _ _ _)); first | walk1 | (dsimp only; walk1))
    (with_reducible rename Fr _ _ _ _ => F27)
    (with_reducible rename News _ _ _ _ => N27)
    refine ne_intsK (us := []) ⟨_, (N27 _ (.tail _ (.tail _ (.tail _ (.tail _ (.head _)))))).1, rfl, _, rfl⟩ i26 ⟨_, (N27 _ (.head _)).1, rfl, _, rfl⟩ .nil (by show callerA.units + 3 + 64 < cLine; decide) ?_
    simp only [decide_true, Bool.not_true]
    repeat' (first | (fail_if_success (with_reducible show wpAny _ _ (call (Value.ref _) _) _ _ _)); first | walk1 | (dsimp only; walk1))
    refine bag_call (KX.keeps F27.keep) (T.keeps F27.keep) (by show callerA.depth + 1 ≤ 700; decide) rfl (N27 _ (.tail _ (.tail _ (.tail _ (.tail _ (.tail _ (.head _))))))).1 CO.s0 hst'1000 CO.c0 CO.c1 CO.o0 CO.o1 ?_
    intro D28 h28 tk28 vs28 n28 k28 f28 g28 i28
    have F28 := frUp F27 k28
    have N28 := newsAdd F27 N27 k28 f28 g28
    clear F27 N27 k28 f28 g28
    repeat' (first | (fail_if_success (with_reducible show wpAny _ _ (compareOp _ _ _) _ _ _)); first | walk1 | (dsimp only; walk1))
    refine ne_intsK ⟨_, (N28 _ (.tail _ (.tail _ (.head _)))).1, rfl, _, rfl⟩ i27 ⟨_, (N28 _ (.head _)).1, rfl, _, rfl⟩ i28 (by show callerA.units + 3 + 64 < cLine; decide) ?_
    simp only [decide_true, Bool.not_true]
    repeat' (first | (fail_if_success (with_reducible show _ = _ ∧ _)); first | walk1 | (dsimp only; walk1))
    (with_reducible rename Fr _ _ _ _ => F29)
    (with_reducible rename News _ _ _ _ => N29)
    have hTL : ∀ r ∈ own ++ p0 :: rest, r ∈ (dt3, ({ cls := .type "tuple", data := .seq #[.ref kp, .ref ms] } : Obj)) :: (kp, W.listOf ws3.toArray n3b) :: (ms, W.listOf us3.toArray n2b) :: (cm, lad b' st' ct' o' w1 w2 w3 w4 nm) :: (c1, lad b st ct o u1 u2 u3 u4 nl) :: (p.fst, lad b2 st2 ct2 o2 v1 v2 v3 v4 0) :: (own ++ p0 :: rest) := fun r hr =>
      .tail _ (.tail _ (.tail _ (.tail _ (.tail _ (.tail _ hr)))))
    refine ⟨rfl, _, _, _, (D27, W.listOf ws27.toArray 0) :: (cm, lad b' st' ct' o' w1 w2 w3 w4 nm) :: p0 :: rest, rfl, F29, ?_, ?_, ?_⟩
    · intro r hr
      rcases List.mem_append.mp hr with hr | hr
      · exact N29 r (.tail _ (.tail _ (.tail _ (hTL r (List.mem_append_left _ hr)))))
      · rcases List.mem_cons.mp hr with rfl | hr
        · exact N29 _ (.tail _ (.tail _ (.head _)))
        · rcases List.mem_cons.mp hr with rfl | hr
          · exact N29 _ (.tail _ (.tail _ (.tail _ (.tail _ (.tail _ (.tail _ (.head _)))))))
          · exact N29 r (.tail _ (.tail _ (.tail _ (hTL r (List.mem_append_right _ hr)))))
    · intro r hr
      rcases List.mem_cons.mp hr with rfl | hr
      · exact Ne.symm (ne27 _ (hTL _ (List.mem_append_left _ hIo)))
      · rcases List.mem_cons.mp hr with rfl | hr
        · exact Ne.symm (ne9 _ (.tail _ (.tail _ (.tail _ (List.mem_append_left _ hIo)))))
        · exact hnI r (.tail _ (.tail _ hr))
    · refine ⟨cm, D27, b', st', ct', o', w1, w2, w3, w4, nm, ws27, 0, rfl, rfl, rfl, i27, ⟨CO.s0, ?_, CO.c0, CO.c1, CO.o0, CO.o1, ?_, ?_⟩, ?_, ?_⟩
      · have h1 := CO.s1
        have h2 := LI.s1
        dsimp only at h1
        have h3 : (4 : Int) ^ (i + 1 + 1) = 4 ^ (i + 1) * 4 := Int.pow_succ 4 (i + 1)
        omega
      · have h1 := CO.b0
        have h2 := LI.b0
        dsimp only at h1
        omega
      · have h1 := CO.b1
        have h2 := LI.b1
        dsimp only at h1
        push_cast
        omega
      · intro r hr
        rcases List.mem_cons.mp hr with rfl | hr
        · exact ne27 _ (.tail _ (.tail _ (.tail _ (.head _))))
        · exact ne27 r (hTL r (List.mem_append_right _ hr))
      · exact Ne.symm (ne27 _ (hTL _ (List.mem_append_left _ hao))))
end Mine
end

theorem PySem.Challenge.cw_dz0121_01_holds : PySem.Challenge.rw_dz0121_01.Holds := by
  exact Mine.law_t
