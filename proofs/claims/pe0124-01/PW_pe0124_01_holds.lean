import PyProof.Rows.All
import Wide.All
import OpenK.AllK
import Wide.FinOn
import PySem.Challenge.RW_pe0124_01
open PySem PySem.W PyProof.Rows
set_option Elab.async false
set_option maxRecDepth 100000
set_option maxHeartbeats 8000000
set_option rowWalk.seconds 3000
set_option linter.unusedVariables false
set_option linter.unusedSimpArgs false
namespace Mine
open_top hd for PySem.Challenge.rw_pe0124_01
theorem resetTop : True := by
  w_top off
  trivial
end Mine
namespace Mine
noncomputable abbrev prog : Program := Challenge.rw_pe0124_01.row.prog
/-- what every heap of the run has -/
structure Base (w : World) (h : Heap) : Prop where
  K : (hd.heap_39 w.params).In h
  T : ∃ loose mean mg mb, Top topProg loose mean mg mb h
def Keeps (h h' : Heap) : Prop := ∀ b o, h.get? b = some o → h'.get? b = some o
theorem Keeps.refl (h : Heap) : Keeps h h := fun _ _ e => e
theorem Keeps.trans {h h' h'' : Heap} (a : Keeps h h') (b : Keeps h' h'') : Keeps h h'' := fun x o e => b x o (a x o e)
theorem Base.keeps {w : World} {h h' : Heap} (x : Base w h) (k : Keeps h h') : Base w h' :=
  ⟨x.K.keeps k, let ⟨a, b, c, d, T⟩ := x.T; ⟨a, b, c, d, T.keeps k⟩⟩
theorem fill (w : World) : hd.heap_39 w.params = hd.heap_39 w.params ∧ Challenge.rw_pe0124_01 = Challenge.rw_pe0124_01 := by
  k_fill
  exact ⟨rfl, rfl⟩
/-- a call that keeps all objects -/
def Calls (w : World) (d u : Nat) (f : Addr) (vals : List Value) (h : Heap) (R : Heap → Value → Prop) : Prop :=
  ∀ (A : Around) (s : Shared) (Q : Value → Shared → Prop) (E : Value → Shared → Prop), s.heap = h → A.handled = none →
    A.depth + d < recursionLimit → A.units + u < cLine → Base w s.heap →
    (∀ v h' tk', Keeps s.heap h' → R h' v → Q v { s with heap := h', toks := tk' }) →
    wpAny (model prog w) A (call (.ref f) vals) Q E s
def Fin (h : Heap) (s : Shared) (R : Heap → Value → Prop) (v : Value) (s' : Shared) : Prop :=
  ∃ h' tk', s' = { s with heap := h', toks := tk' } ∧ Keeps h h' ∧ R h' v
theorem fin_of {h : Heap} {s s' : Shared} {R : Heap → Value → Prop} {v : Value} {L : Addr} {m : Str → Option Value} (F : Fr h L s'.heap m) (r : R s'.heap v)
   (hs : s' = { s with heap := s'.heap, toks := s'.toks } := by rfl) : Fin h s R v s' := ⟨_, _, hs, F.keep, r⟩
noncomputable abbrev At (dp un : Nat) (fr : Option (List Env)) (gd : Option (List Code)) : Around := { handled := none, depth := dp, frames := fr, guards := gd, units := un }
theorem at_of (A : Around) (hh : A.handled = none) : A = At A.depth A.units A.frames A.guards := by cases A; cases hh; rfl
/-- what the body of a def has to show -/
def Body (w : World) (d u : Nat) (body : List Stmt) (env : Addr → Env) (binds : List (Str × Value)) (h : Heap) (R : Heap → Value → Prop) : Prop :=
  ∀ (dp un : Nat) (fr : Option (List Env)) (gd : Option (List Code)) (s : Shared) (L : Addr), dp + d < recursionLimit → un + u < cLine →
    Base w h → Fr h L s.heap (fun y => binds.reverse.lookup y) →
    wpAny (model prog w) (At dp un fr gd) (execs body (env L)) (fun fl s' => Fin h s R (match fl with | .ret v => v | _ => .none) s') (fun _ _ => False) s
theorem calls_of {w : World} {d u : Nat} {f : Addr} {vals : List Value} {h : Heap} {R : Heap → Value → Prop}
    {name qual : Str} {params : Arguments} {body : List Stmt} {scope : Scope} {dV kV doc pm cdv ct oc : Value} {an od : Option Addr} {osl : Array (Option Value)} {binds : List (Str × Value)}
    (ho : (hd.heap_39 w.params).lookup f = some ⟨oc, od, .func (fnOf name qual params body scope dV kV doc pm an cdv ct), osl⟩) (hcd : codeIn (hd.heap_39 w.params) cdv qual = true)
    (hbind : ∀ s, BindsTo s (fnOf name qual params body scope dV kV doc pm an cdv ct) ⟨vals, []⟩ binds) (hloc : ∀ y ∈ binds, scope.names.lookup y.1 = some .local)
    (hb : Body w d u body (fun L => envOf qual scope L f cdv) binds h R)
    (hco : scope.isCoroutine = false) (hgen : scope.isGenerator = false) (hk : scope.kind = .function)
    (hcell : ∀ x ∈ scope.names, x.2 ≠ .cell) : Calls w (d + 1) (u + 3) f vals h R := by
  intro A s Q E hs hh hd hu hB hQ
  subst hs
  obtain ⟨X, loose, mean, mg, mb, T⟩ := hB
  refine wpAny_call ?_
  refine codeAny_call_def (fd := fnOf name qual params body scope dV kV doc pm an cdv ct) (body := body) (binds := binds) (by omega) (X _ _ ho) rfl T.nolimit (codeRec_of X hcd) rfl (hbind s) hcell hloc (fun h₁ hns hk₁ => ?_) hco hgen hk
  have e := at_of (A.deeper (envOf qual scope s.heap.objs.size f cdv)) hh
  have q := hb (A.deeper (envOf qual scope s.heap.objs.size f cdv)).depth (A.deeper (envOf qual scope s.heap.objs.size f cdv)).units (A.deeper (envOf qual scope s.heap.objs.size f cdv)).frames (A.deeper (envOf qual scope s.heap.objs.size f cdv)).guards
    { s with heap := h₁, toks := s.toks + binds.length } s.heap.objs.size (by rw [depth_deeper]; omega) (by rw [units_deeper]; omega) ⟨X, loose, mean, mg, mb, T⟩ ⟨hns, hk₁, Nat.le_refl _⟩
  rw [← e] at q
  refine wpAny_mono q (fun fl s' x => ?_) (fun _ _ x => x.elim)
  · obtain ⟨h', tk', rfl, hk', r⟩ := x
    exact hQ _ _ _ hk' r
/-- the same for a def whose names are captured -/
def BodyC (w : World) (d u : Nat) (body : List Stmt) (qual : Str) (scope : Scope) (f : Addr) (cdv : Value) (binds : List (Str × Value)) (h : Heap) (R : Heap → Value → Prop) : Prop :=
  ∀ (dp un : Nat) (fr : Option (List Env)) (gd : Option (List Code)) (s : Shared) (L : Addr) (cells : List (Addr × Obj)), dp + d < recursionLimit → un + u < cLine →
    Base w h → Fr h L s.heap (bindL (envOfC qual scope L f cdv).kindOf binds fun _ => none) → News h L s.heap cells →
    CellsAre (bindC (envOfC qual scope L f cdv).kindOf binds fun _ => none) (cellsFrom (L + 1) scope.names []) cells →
    wpAny (model prog w) (At dp un fr gd) (execs body (envOfC qual scope L f cdv)) (fun fl s' => Fin h s R (match fl with | .ret v => v | _ => .none) s') (fun _ _ => False) s
theorem callsC_of {w : World} {d u : Nat} {f : Addr} {vals : List Value} {h : Heap} {R : Heap → Value → Prop}
    {name qual : Str} {params : Arguments} {body : List Stmt} {scope : Scope} {dV kV doc pm cdv ct oc : Value} {an od : Option Addr} {osl : Array (Option Value)} {binds : List (Str × Value)}
    (ho : (hd.heap_39 w.params).lookup f = some ⟨oc, od, .func (fnOf name qual params body scope dV kV doc pm an cdv ct), osl⟩) (hcd : codeIn (hd.heap_39 w.params) cdv qual = true)
    (hbind : ∀ s, BindsTo s (fnOf name qual params body scope dV kV doc pm an cdv ct) ⟨vals, []⟩ binds)
    (hkind : (binds.all fun y => scope.names.lookup y.1 == some .local || scope.names.lookup y.1 == some .cell) = true)
    (hnd : ((cellsFrom 0 scope.names []).map (·.1)).Nodup)
    (hb : BodyC w d u body qual scope f cdv binds h R)
    (hco : scope.isCoroutine = false) (hgen : scope.isGenerator = false) (hk : scope.kind = .function) : Calls w (d + 1) (u + 3) f vals h R := by
  intro A s Q E hs hh hd hu hB hQ
  subst hs
  obtain ⟨X, loose, mean, mg, mb, T⟩ := hB
  refine wpAny_call ?_
  refine codeAny_call_function (by omega) (X _ _ ho) rfl hco hgen rfl (codeRec_of X hcd) (hbind s _ _ _ _ ?_)
  refine wpAny_newFunctionEnv_cells hk (kindsX hkind _) fun env' he s' x => ?_
  subst he
  refine ⟨T.nolimit.keeps x.toInCall.keep, codeAny_func ?_⟩
  obtain ⟨h₁, tk, rfl, _⟩ := x.done
  have hk₁ := x.toInCall.keep
  obtain ⟨cells, NC, Y⟩ := Cl.news (h₀ := s.heap) (Nat.le_refl _) fun n c hm => ⟨x.cell n c (lookup_of_mem_nodup (cellsFrom_names scope.names 0 (s.heap.objs.size + 1) [] [] rfl ▸ hnd) hm), x.above n c hm⟩
  have e := at_of (A.deeper (envOfC qual scope s.heap.objs.size f cdv)) hh
  have q := hb (A.deeper (envOfC qual scope s.heap.objs.size f cdv)).depth (A.deeper (envOfC qual scope s.heap.objs.size f cdv)).units (A.deeper (envOfC qual scope s.heap.objs.size f cdv)).frames (A.deeper (envOfC qual scope s.heap.objs.size f cdv)).guards
    { s with heap := h₁, toks := tk } s.heap.objs.size cells (by rw [depth_deeper]; omega) (by rw [units_deeper]; omega) ⟨X, loose, mean, mg, mb, T⟩ ⟨x.toInCall.ns, hk₁, Nat.le_refl _⟩ NC Y
  rw [← e] at q
  refine wpAny_mono q (fun fl s' x => ?_) (fun _ _ x => x.elim)
  · obtain ⟨h', tk', rfl, hk', r⟩ := x
    exact hQ _ _ _ hk' r
/-- a goal that the walk's lines leave alone -/
def Stop (P : Prop) : Prop := P
theorem Stop.mk {P : Prop} (h : P) : Stop P := h
section
variable {w : World} {A : Around} {E : Value → Shared → Prop} {s : Shared} {env : Env}
theorem no_raise {α : Type} {t : Sem α} {Q : α → Shared → Prop} (h : wpAny (model prog w) A t Q (fun _ _ => False) s) : wpAny (model prog w) A t Q E s :=
  wpAny_mono h (fun _ _ x => x) (fun _ _ x => x.elim)
theorem while_rule {test : Expr} {body : List Stmt} {pos : Pos} {Q : Flow → Shared → Prop} (I : Nat → Shared → Prop)
    (turn : ∀ n s, I n s → wpAny (model prog w) A (isTrue test env (eval test env)) (fun b s₂ =>
        if b then wpAny (model prog w) A (execs body env) (fun f s₃ => match f with
            | .next | .cont => Stop (∃ m, m < n ∧ I m s₃)
            | .brk => Q .next s₃
            | .ret v => Q (.ret v) s₃) (fun _ _ => False) s₂
        else Q .next s₂) (fun _ _ => False) s)
    (n : Nat) (h : I n s) : wpAny (model prog w) A (exec (.While test body [] pos) env) Q E s := by
  refine wpAny_While (codeAny_whileLoop I (fun n s hI => ?_) n h)
  refine wpAny_mono (turn n s hI) (fun b s₂ h₂ => ?_) (fun _ _ x => x.elim)
  cases b with
  | false => simp only [Bool.false_eq_true, if_false] at h₂ ⊢; exact wpAny_execs_nil h₂
  | true =>
    simp only [if_true] at h₂ ⊢
    refine wpAny_mono h₂ (fun f s₃ h₃ => ?_) (fun _ _ x => x.elim)
    cases f <;> exact h₃
theorem for_walk {target : Expr} {body : List Stmt} {I : Addr} {fp wr : List Addr} {n : Nat} {P : Nat → Value → Prop} {St : Nat → Heap → Prop} (Wk : Walks prog w A I fp wr n P St)
    {Q : Flow → Shared → Prop} (Inv : List Value → Shared → Prop) (hst : St 0 s.heap) (h0 : Inv [] s)
    (next : ∀ vs s' h' tk', Inv vs s' → (∀ b o, b ∉ wr → s'.heap.get? b = some o → h'.get? b = some o) → Inv vs { s' with heap := h', toks := tk' })
    (turn : ∀ vs v s', vs.length < n → (∀ j u, (vs ++ [v])[j]? = some u → P j u) → St (vs.length + 1) s'.heap → Inv vs s' →
      wpAny (model prog w) A (letOwnedTupleGo target (.ref I) v) (fun _ s₁ => wpAny (model prog w) A (assign target env v) (fun _ s₂ => wpAny (model prog w) A (execs body env)
        (fun f s₃ => match f with
          | .next | .cont => Stop (Inv (vs ++ [v]) s₃ ∧ St (vs.length + 1) s₃.heap)
          | .brk => Q .next s₃
          | .ret x => Q (.ret x) s₃) (fun _ _ => False) s₂) (fun _ _ => False) s₁) (fun _ _ => False) s')
    (fin : ∀ vs s', vs.length = n → (∀ j u, vs[j]? = some u → P j u) → Inv vs s' → Q .next s') :
    codeAny (model prog w) A (.forLoop target (.ref I) body [] env) (fun r s' => match r with | .ok f => Q f s' | .error e => cameBackBy (model prog w) A env E e s') s := by
  refine codeAny_forLoop_any (fun k s' => ∃ vs : List Value, vs.length ≤ n ∧ k = n + 1 - vs.length ∧ (∀ j u, vs[j]? = some u → P j u) ∧ St vs.length s'.heap ∧ Inv vs s') ?_ (n + 1)
    ⟨[], Nat.zero_le _, rfl, by simp, hst, h0⟩
  rintro k s' ⟨vs, hle, rfl, hP, hst', hI⟩
  by_cases hlt : vs.length < n
  · refine Wk.item vs.length _ _ _ hlt hst' fun v h₁ tk₁ hPv hst₁ hk₁ => ?_
    have hP' : ∀ j u, (vs ++ [v])[j]? = some u → P j u := fun j u hj => by
      rcases Nat.lt_trichotomy j vs.length with h | h | h
      · exact hP j u (by rwa [List.getElem?_append_left h] at hj)
      · subst h; simp at hj; subst hj; exact hPv
      · have hnone : (vs ++ [v])[j]? = none := List.getElem?_eq_none (by rw [List.length_append, List.length_singleton]; omega)
        rw [hnone] at hj; cases hj
    dsimp only
    refine wpAny_mono (turn vs v { s' with heap := h₁, toks := tk₁ } hlt hP' hst₁ (next vs s' h₁ tk₁ hI hk₁)) (fun _ s₁ q₁ => ?_) (fun _ _ x => x.elim)
    refine wpAny_mono q₁ (fun _ s₂ q₂ => ?_) (fun _ _ x => x.elim)
    refine wpAny_mono q₂ (fun f s₃ q₃ => ?_) (fun _ _ x => x.elim)
    cases f with
    | next => exact ⟨n + 1 - (vs.length + 1), by omega, vs ++ [v], by simp; omega, by simp, hP', by simpa using q₃.2, q₃.1⟩
    | cont => exact ⟨n + 1 - (vs.length + 1), by omega, vs ++ [v], by simp; omega, by simp, hP', by simpa using q₃.2, q₃.1⟩
    | brk => exact q₃
    | ret x => exact q₃
  · have hin : vs.length = n := by omega
    refine Wk.done _ _ _ (hin ▸ hst') fun h₁ tk₁ hk₁ => ?_
    exact wpAny_execs_nil (fin vs _ hin hP (next vs s' h₁ tk₁ hI hk₁))
theorem execs_two {a : Stmt} {rest : List Stmt} {Q : Flow → Shared → Prop} (h : wpAny (model prog w) A (exec a env) (fun f s' => match f with | .next => wpAny (model prog w) A (execs rest env) Q E s' | f => Q f s') E s) :
    wpAny (model prog w) A (execs (a :: rest) env) Q E s := wpAny_execs_cons h
end
/-- what names of the frame hold -/
noncomputable def Vals (m : Str → Option Value) : List (Str × Value) → Prop
  | [] => True
  | (x, v) :: r => m x = some v ∧ Vals m r
noncomputable def look (l : List (Str × Value)) (m : Str → Option Value) (y : Str) : Option Value := (l.lookup y).or (m y)
theorem look_eq {m : Str → Option Value} : ∀ {l : List (Str × Value)}, Vals m l → look l m = m
  | [], _ => rfl
  | (x, v) :: r, e => by
    funext y
    have ih := congrFun (look_eq e.2) y
    unfold look at ih ⊢
    rw [List.lookup_cons]
    by_cases hy : y = x
    · subst hy; simp [e.1]
    · rw [beq_eq_false_iff_ne.mpr hy]; exact ih
theorem Fr.shows {h : Heap} {L : Addr} {h' : Heap} {m : Str → Option Value} {l : List (Str × Value)} (F : Fr h L h' m) (e : Vals m l) : Fr h L h' (fun y => (l.lookup y).or (m y)) := by
  have := look_eq e
  unfold look at this
  rw [this]; exact F
theorem Fr.grow {h : Heap} {L : Addr} {h' h'' : Heap} {m : Str → Option Value} (F : Fr h L h' m) (k : Keeps h' h'') : Fr h L h'' m :=
  ⟨F.ns.keeps k, fun b o e => k b o (F.keep b o e), F.above⟩
theorem News.grow {h : Heap} {L : Addr} {h' h'' : Heap} {news : List (Addr × Obj)} (N : News h L h' news) (k : Keeps h' h'') : News h L h'' news :=
  fun p hp => ⟨k _ _ (N p hp).1, (N p hp).2⟩
theorem use {w : World} {d u : Nat} {f : Addr} {vals : List Value} {R : Heap → Value → Prop} {dp un : Nat} {fr : Option (List Env)} {gd : Option (List Code)} {s : Shared} {h : Heap} {L : Addr} {m : Str → Option Value}
    {news : List (Addr × Obj)} {Q E : Value → Shared → Prop} (c : Calls w d u f vals s.heap R) (hB : Base w h) (F : Fr h L s.heap m) (N : News h L s.heap news) (hd : dp + d < recursionLimit) (hu : un + u < cLine)
    (q : ∀ v h' tk', Keeps s.heap h' → Fr h L h' m → News h L h' news → R h' v → Q v { s with heap := h', toks := tk' }) : wpAny (model prog w) (At dp un fr gd) (call (.ref f) vals) Q E s :=
  c _ s Q E rfl rfl hd hu (hB.keeps F.keep) fun v h' tk' k r => q v h' tk' k (Fr.grow F k) (News.grow N k) r
end Mine
namespace Mine
theorem resetF1 : True := by
  w_top off
  trivial
theorem law_code {w : World} {h : Heap} {host : Str} {n s : Int} {t1 t2 t3 : Tok} :
    Calls w 1 3 104 [.str host t1, .int n t2, .int s t3] h (fun _ v => ∃ t, v = .int (4 * n + 2 * s + (if host = Str.ofString "m" then 1 else 0)) t) := by
  refine' calls_of (binds := [(Str.ofString "host", .str host t1), (Str.ofString "number", .int n t2), (Str.ofString "slash", .int s t3)]) ?k6 ?k7 ?kb ?kB ?_ ?c2 ?c3 ?c4 ?c5
  case k6 => k_is
  case k7 => k_is
  case kb => exact fun _ => BindsTo.of_eq rfl
  case kB => exact locs rfl
  case c2 => exact rfl
  case c3 => exact rfl
  case c4 => exact rfl
  case c5 => decide
  intro dp un fr gd s L hd hu hB F
  obtain ⟨X, loose, mean, mg, mb, T⟩ := hB
  have N : News h L s.heap [] := News.nil
  k_steps
  · rename_i e
    rw [if_pos (beq_iff_eq.mp e)]
    exact fin_of F ⟨_, rfl⟩
  · rename_i e
    rw [if_neg (by simpa using e)]
    exact fin_of F ⟨_, rfl⟩
/-- the figures to the base 16, the greatest first -/
noncomputable def figs (n : Nat) : List Nat := if n = 0 then [] else figs (n / 16) ++ [n % 16]
termination_by n
decreasing_by omega
theorem figs_zero : figs 0 = [] := by rw [figs]; rfl
theorem figs_pos {n : Nat} (h : n ≠ 0) : figs n = figs (n / 16) ++ [n % 16] := by rw [figs, if_neg h]
noncomputable def letB (l : List Nat) : Array UInt8 := (l.map fun d => UInt8.ofNat (65 + d)).toArray
noncomputable def apB : Array UInt8 := #[65, 66, 67, 68, 69, 70, 71, 72, 73, 74, 75, 76, 77, 78, 79, 80]
theorem picked_ap : ∀ m : Nat, m < 16 → KBy.picked apB (some (m : Int)) (some ((m : Int) + 1)) = #[UInt8.ofNat (65 + m)] := by decide +kernel
theorem letB_cons (d : Nat) (ds : List Nat) : #[UInt8.ofNat (65 + d)] ++ letB ds = letB (d :: ds) := by simp [letB]
theorem int2ap {w : World} {h : Heap} {n : Int} {t1 : Tok} (hn : (figs n.natAbs).length ≤ 64) :
    Calls w 1 3 28 [.int n t1] h (fun _ v => ∃ t, v = .bytes (letB (figs n.natAbs)) t) := by
  refine' calls_of (binds := [(Str.ofString "num", .int n t1)]) ?k6 ?k7 ?kb ?kB ?_ ?c2 ?c3 ?c4 ?c5
  case k6 => k_is
  case k7 => k_is
  case kb => exact fun _ => BindsTo.of_eq rfl
  case kB => exact locs rfl
  case c2 => exact rfl
  case c3 => exact rfl
  case c4 => exact rfl
  case c5 => decide
  intro dp un fr gd s L hd hu hB F
  obtain ⟨X, loose, mean, mg, mb, T⟩ := hB
  have N : News h L s.heap [] := News.nil
  generalize hl : Stmt.While _ _ _ _ = lp
  k_steps
  subst hl
  rename Fr _ _ _ _ => F0
  rename News _ _ _ _ => N0
  refine while_rule (fun k s' => ∃ h' tk m' t1 t2 t3 ds, s' = { s with heap := h', toks := tk } ∧ Fr h L h' m' ∧ Vals m' [(Str.ofString "num", .int (k : Int) t1),
    (Str.ofString "AP", .bytes apB t2), (Str.ofString "val", .bytes (letB ds) t3)] ∧ figs n.natAbs = figs k ++ ds) ?_ n.natAbs ?_
  · rintro k s' ⟨h', tk, m', u1, u2, u3, ds, rfl, F1, e1, hf⟩
    have F := Fr.shows F1 e1
    have N : News h L h' [] := News.nil
    have hlen : ds.length ≤ 64 := by
      have := congrArg List.length hf
      rw [List.length_append] at this
      omega
    clear F1 F0 N0
    k_steps
    · rename Fr _ _ _ _ => F'
      rename News _ _ _ _ => N'
      refine KBc.slice_K (s := ⟨_, _, _, _, _⟩) F' N' rfl (by constructor) (by constructor) (by decide) ?_
      intro h2 t2 k2 F2 N2 _
      dsimp only
      k_steps
      have em : ((k : Int).fmod 16) = ((k % 16 : Nat) : Int) := by rw [Int.fmod_eq_emod_of_nonneg _ (by decide)]; omega
      have ed : ((k : Int).fdiv 16) = ((k / 16 : Nat) : Int) := by rw [Int.fdiv_eq_ediv_of_nonneg _ (by decide)]; omega
      rw [em]
      rw [picked_ap _ (Nat.mod_lt _ (by decide))]
      refine KBy.add_bytes ?_ ?_
      · simp [letB]; omega
      intro t4 k4
      rw [letB_cons]
      k_steps
      rename Fr _ _ _ _ => F9
      have hk0 : k ≠ 0 := by omega
      refine Stop.mk ⟨k / 16, by omega, _, _, _, _, _, _, (k % 16) :: ds, rfl, F9, ⟨congrArg (fun z => some (Value.int z _)) ed, rfl, rfl, trivial⟩, ?_⟩
      rw [hf, figs_pos hk0]; simp
    · have hk0 : k = 0 := by omega
      subst hk0
      rw [figs_zero, List.nil_append] at hf
      rw [hf]
      exact fin_of F ⟨_, rfl⟩
  · have ea : (if n < 0 then -n else n) = (n.natAbs : Int) := by split <;> omega
    refine ⟨_, _, _, _, _, _, [], rfl, F0, ⟨congrArg (fun z => some (Value.int z _)) ea, rfl, rfl, trivial⟩, by simp⟩
end Mine
namespace Mine
/-- an iterator at I that will hand out values for the items of as -/
structure Iter {α : Type} (w : World) (A : Around) (h₀ : Heap) (L : Addr) (src : List (Addr × Obj)) (R : α → Value → Prop) (as : List α) (I : Addr) (St : Nat → Heap → Prop) : Prop where
  walks : ∃ fp, Walks prog w A I fp [I] as.length (fun i v => ∃ a, as[i]? = some a ∧ R a v) St ∧ ∀ b ∈ fp, b = I ∨ (∃ o, h₀.get? b = some o) ∨ (∃ o, (b, o) ∈ src)
  live : ∀ i h, St i h → ∃ o, h.get? I = some o
  own : ∀ i (target : Expr) (v : Value) (s : Shared) (Q : Unit → Shared → Prop) (E : Value → Shared → Prop), St i s.heap → Q () s → wpAny (model prog w) A (letOwnedTupleGo target (.ref I) v) Q E s
  neL : L ≠ I
  fresh : h₀.get? I = none
section
variable {α : Type} {w : World} {A : Around} {E : Value → Shared → Prop} {s : Shared} {env : Env} {h₀ : Heap} {L I : Addr} {m : Str → Option Value} {news src : List (Addr × Obj)} {R : α → Value → Prop} {as : List α} {St : Nat → Heap → Prop}
theorem Iter.framed (x : Iter w A h₀ L src R as I St) {i : Nat} {h h' : Heap} (st : St i h) (hI : ∀ o, h.get? I = some o → h'.get? I = some o)
    (h0 : ∀ b o, h₀.get? b = some o → h.get? b = some o) (h0' : ∀ b o, h₀.get? b = some o → h'.get? b = some o)
    (hs : ∀ p ∈ src, h.get? p.1 = some p.2) (hs' : ∀ p ∈ src, h'.get? p.1 = some p.2) : St i h' := by
  obtain ⟨fp, W, hfp⟩ := x.walks
  refine W.frame i h h' st fun b hb o e => ?_
  rcases hfp b hb with rfl | ⟨o', e'⟩ | ⟨o', e'⟩
  · exact hI o e
  · have := h0 b o' e'
    rw [e] at this; cases this
    exact h0' b _ e'
  · have := hs _ e'
    rw [e] at this; cases this
    exact hs' _ e'
/-- the state between two turns -/
def Mid (s : Shared) (h₀ : Heap) (L I : Addr) (J : (Str → Option Value) → List (Addr × Obj) → Prop) (oI : Obj) (s' : Shared) : Prop :=
  ∃ h' tk m' news', s' = { s with heap := h', toks := tk } ∧ Fr h₀ L h' m' ∧ News h₀ L h' ((I, oI) :: news') ∧ (∀ p ∈ news', p.1 ≠ I) ∧ J m' news'
theorem Mid.mk {J : (Str → Option Value) → List (Addr × Obj) → Prop} {oI : Obj} {h' : Heap} {tk : Nat} {m' : Str → Option Value} {news' : List (Addr × Obj)}
    (F : Fr h₀ L h' m') (N : News h₀ L h' ((I, oI) :: news')) (off : ∀ p ∈ news', p.1 ≠ I) (j : J m' news') : Stop (Mid s h₀ L I J oI { s with heap := h', toks := tk }) := ⟨h', tk, m', news', rfl, F, N, off, j⟩
theorem fr_but {h h' : Heap} (F : Fr h₀ L h m) (hk : ∀ b o, b ∉ [I] → h.get? b = some o → h'.get? b = some o) (hL : L ≠ I) (hI : h₀.get? I = none) : Fr h₀ L h' m := LCg.fr_but F hk hL hI
theorem news_but {h h' : Heap} (N : News h₀ L h news) (hk : ∀ b o, b ∉ [I] → h.get? b = some o → h'.get? b = some o) (off : ∀ p ∈ news, p.1 ≠ I) : News h₀ L h' news := LCg.news_but N hk off
theorem for_inv {target : Expr} {body : List Stmt} {Q : Flow → Shared → Prop} (x : Iter w A h₀ L src R as I St) (hst : St 0 s.heap) (F : Fr h₀ L s.heap m) (N : News h₀ L s.heap news) (hoff : ∀ p ∈ news, p.1 ≠ I)
    (J : List α → (Str → Option Value) → List (Addr × Obj) → Prop) (hsrc : ∀ done m' news', J done m' news' → ∀ p ∈ src, p ∈ news') (h0 : J [] m news)
    (turn : ∀ done a rest v oI h' tk m' news', as = done ++ a :: rest → R a v → Fr h₀ L h' m' → News h₀ L h' ((I, oI) :: news') → (∀ p ∈ news', p.1 ≠ I) → J done m' news' →
      wpAny (model prog w) A (assign target env v) (fun _ s₂ => wpAny (model prog w) A (execs body env)
        (fun f s₃ => match f with
          | .next | .cont => Stop (Mid s h₀ L I (J (done ++ [a])) oI s₃)
          | .brk => Q .next s₃
          | .ret x => Q (.ret x) s₃) (fun _ _ => False) s₂) (fun _ _ => False) { s with heap := h', toks := tk })
    (fin : ∀ h' tk m' news', Fr h₀ L h' m' → News h₀ L h' news' → J as m' news' → Q .next { s with heap := h', toks := tk }) :
    codeAny (model prog w) A (.forLoop target (.ref I) body [] env) (fun r s' => match r with | .ok f => Q f s' | .error e => cameBackBy (model prog w) A env E e s') s := by
  obtain ⟨fp, W, hfp⟩ := x.walks
  have hget : ∀ (vs : List Value) (k : Nat), vs.length = k → k ≤ as.length → as.take k ++ as.drop k = as := fun _ _ _ _ => List.take_append_drop _ _
  refine for_walk W (fun vs s' => ∃ h' tk m' news', s' = { s with heap := h', toks := tk } ∧ Fr h₀ L h' m' ∧ News h₀ L h' news' ∧ (∀ p ∈ news', p.1 ≠ I) ∧ J (as.take vs.length) m' news') hst
    ⟨s.heap, s.toks, m, news, rfl, F, N, hoff, by simpa using h0⟩ ?_ ?_ ?_
  · rintro vs s' h' tk' ⟨h1, tk1, m1, n1, rfl, F1, N1, o1, j1⟩ hk
    exact ⟨h', tk', m1, n1, rfl, fr_but F1 hk x.neL x.fresh, news_but N1 hk o1, o1, j1⟩
  · rintro vs v s' hlt hP hst' ⟨h1, tk1, m1, n1, rfl, F1, N1, o1, j1⟩
    obtain ⟨a, ha, hR⟩ := hP vs.length v (by simp)
    obtain ⟨oI, hoI⟩ := x.live _ _ hst'
    have N1' : News h₀ L h1 ((I, oI) :: n1) := by
      intro p hp
      rcases List.mem_cons.mp hp with rfl | hp
      · exact ⟨hoI, Ne.symm x.neL, x.fresh⟩
      · exact N1 p hp
    have hsplit : as = as.take vs.length ++ a :: as.drop (vs.length + 1) := by
      have h1 := (List.take_append_drop vs.length as).symm
      have h2 : as.drop vs.length = a :: as.drop (vs.length + 1) := by
        rw [List.drop_eq_getElem_cons hlt]
        congr 1
        have := List.getElem?_eq_getElem hlt
        rw [ha] at this
        exact (Option.some.inj this).symm
      rw [h2] at h1
      exact h1
    refine x.own _ _ _ _ _ _ hst' ?_
    refine wpAny_mono (turn _ a _ v oI h1 tk1 m1 n1 hsplit hR F1 N1' o1 j1) (fun _ s₂ q₂ => ?_) (fun _ _ x => x)
    refine wpAny_mono q₂ (fun f s₃ q₃ => ?_) (fun _ _ x => x)
    have key : Stop (Mid s h₀ L I (J (as.take vs.length ++ [a])) oI s₃) → Stop ((∃ h' tk m' news', s₃ = { s with heap := h', toks := tk } ∧ Fr h₀ L h' m' ∧ News h₀ L h' news' ∧ (∀ p ∈ news', p.1 ≠ I) ∧ J (as.take (vs ++ [v]).length) m' news') ∧ St (vs.length + 1) s₃.heap) := by
      rintro ⟨h3, tk3, m3, n3, rfl, F3, N3, o3, j3⟩
      refine ⟨⟨h3, tk3, m3, n3, rfl, F3, fun p hp => N3 p (List.mem_cons_of_mem _ hp), o3, ?_⟩, ?_⟩
      · have : as.take (vs ++ [v]).length = as.take vs.length ++ [a] := by
          rw [List.length_append, List.length_singleton, List.take_add_one, ha]; rfl
        rw [this]; exact j3
      · refine x.framed hst' (fun o e => ?_) F1.keep F3.keep (fun p hp => (N1 p (hsrc _ _ _ j1 p hp)).1) (fun p hp => (N3 p (List.mem_cons_of_mem _ (hsrc _ _ _ j3 p hp))).1)
        have e' : h1.get? I = some o := e
        rw [hoI] at e'; cases e'
        exact (N3 _ List.mem_cons_self).1
    cases f with
    | next => exact key q₃
    | cont => exact key q₃
    | brk => exact q₃
    | ret x => exact q₃
  · rintro vs s' hlen _ ⟨h1, tk1, m1, n1, rfl, F1, N1, o1, j1⟩
    rw [hlen, List.take_length] at j1
    exact fin h1 tk1 m1 n1 F1 N1 j1
end
section
variable {α : Type} {w : World} {A : Around} {E : Value → Shared → Prop} {s : Shared} {h₀ : Heap} {L : Addr} {m : Str → Option Value} {news : List (Addr × Obj)} {R : α → Value → Prop}
/-- values for items -/
inductive Reps {α : Type} (R : α → Value → Prop) : List α → List Value → Prop
  | nil : Reps R [] []
  | cons {a v as vs} : R a v → Reps R as vs → Reps R (a :: as) (v :: vs)
theorem Reps.length {as : List α} {vs : List Value} (h : Reps R as vs) : as.length = vs.length := by induction h <;> simp [*]
theorem Reps.get {as : List α} {vs : List Value} (h : Reps R as vs) : ∀ {i : Nat} {v : Value}, vs[i]? = some v → ∃ a, as[i]? = some a ∧ R a v := by
  induction h with
  | nil => intro i v e; cases e
  | cons hr _ ih =>
    intro i v e
    cases i with
    | zero => cases e; exact ⟨_, rfl, hr⟩
    | succ j => exact ih e
theorem Reps.append {as bs : List α} {vs us : List Value} (h : Reps R as vs) (h' : Reps R bs us) : Reps R (as ++ bs) (vs ++ us) := by
  induction h with
  | nil => exact h'
  | cons hr _ ih => exact .cons hr ih
theorem Reps.snoc {as : List α} {vs : List Value} {a : α} {v : Value} (h : Reps R as vs) (hr : R a v) : Reps R (as ++ [a]) (vs ++ [v]) := h.append (.cons hr .nil)
theorem Reps.mono {R' : α → Value → Prop} (hm : ∀ a v, R a v → R' a v) {as : List α} {vs : List Value} (h : Reps R as vs) : Reps R' as vs := by
  induction h with
  | nil => exact .nil
  | cons hr _ ih => exact .cons (hm _ _ hr) ih
theorem size_fresh {h : Heap} (F : Fr h₀ L h m) (N : News h₀ L h news) : L ≠ h.objs.size ∧ h₀.get? h.objs.size = none ∧ ∀ p ∈ news, p.1 < h.objs.size := by
  refine ⟨Nat.ne_of_lt F.ns.lt, ?_, fun p hp => Heap.lt_size (N p hp).1⟩
  cases hq : h₀.get? h.objs.size with
  | none => rfl
  | some o' => exact absurd (Heap.lt_size (F.keep _ _ hq)) (Nat.lt_irrefl _)
def isStrR (x : Str) (v : Value) : Prop := ∃ t, v = .str x t
def isIntR (x : Int) (v : Value) : Prop := ∃ t, v = .int x t
def isSignR (c : Nat) (v : Value) : Prop := ∃ t, v = .str ⟨#[c]⟩ t
theorem own_plain {I : Addr} {target : Expr} {v : Value} {Q : Unit → Shared → Prop} {o : Obj} {n : String} {vs : Array Value} (ho : s.heap.get? I = some o) (hc : o.cls = .type n) (hd : o.data = .fields vs)
    (hn : ["enumerate", "zip", "dict_itemiterator", "dict_reverseitemiterator", "odict_iterator", "itertools.zip_longest", "itertools.pairwise"].contains n = false) (hQ : Q () s) :
    wpAny (model prog w) A (letOwnedTupleGo target (.ref I) v) Q E s := by
  cases target
  case Tuple =>
    cases v
    case ref a =>
      delta letOwnedTupleGo
      dsimp only
      refine wpAny_bind (wpAny_load ho ?_)
      rw [hc, hd]
      dsimp only
      rw [hn]
      exact wpAny_pure hQ
    all_goals exact wpAny_pure hQ
  case List =>
    cases v
    case ref a =>
      delta letOwnedTupleGo
      dsimp only
      refine wpAny_bind (wpAny_load ho ?_)
      rw [hc, hd]
      dsimp only
      rw [hn]
      exact wpAny_pure hQ
    all_goals exact wpAny_pure hQ
  all_goals exact wpAny_pure hQ
/-- a list of the base or of the ledger -/
theorem iter_list {l : Addr} {vs : List Value} {as : List α} {Q : Value → Shared → Prop} (hh : A.handled = none) (F : Fr h₀ L s.heap m) (N : News h₀ L s.heap news) (src : List (Addr × Obj))
    (hl : s.heap.IsList l vs.toArray) (hsrc : (∃ o, h₀.get? l = some o) ∨ (∃ o, (l, o) ∈ src)) (hr : Reps R as vs)
    (hQ : ∀ (I : Addr) (h' : Heap) St, I = s.heap.objs.size → Iter w A h₀ L src R as I St → St 0 h' → Fr h₀ L h' m → News h₀ L h' news → (∀ p ∈ news, p.1 < I) → Q (.ref I) { s with heap := h' }) :
    wpAny (model prog w) A (pyIter (.ref l)) Q E s := by
  obtain ⟨f1, f2, f3⟩ := size_fresh F N
  have hne : l ≠ s.heap.objs.size := by obtain ⟨o, ho, _⟩ := hl; exact Nat.ne_of_lt (Heap.lt_size ho)
  refine wpAny_pyIter_list hl (hQ _ _ (fun i h => h.IsListIter s.heap.objs.size l i ∧ h.IsList l vs.toArray) rfl ⟨⟨[s.heap.objs.size, l], ?_, ?_⟩, ?_, ?_, f1, f2⟩ ?_ (F.push _) (fun p hp => ?_) f3)
  · have W := Walks.list (prog := prog) (w := w) hh s.heap.objs.size l hne vs.toArray
    have hlen : vs.toArray.size = as.length := by rw [List.size_toArray, hr.length]
    rw [hlen] at W
    exact { sub := W.sub, frame := W.frame, item := fun i s Q E hi st hQ => W.item i s Q E hi st fun v h' tk hv => hQ v h' tk (hr.get (by simpa using hv)), done := W.done, self := W.self }
  · intro b hb
    rcases List.mem_cons.mp hb with rfl | hb
    · exact .inl rfl
    · rw [List.mem_singleton.mp hb]; exact .inr hsrc
  · rintro i h ⟨⟨o, ho, _⟩, _⟩; exact ⟨o, ho⟩
  · rintro i target v s Q E ⟨⟨o, ho, hc, hd⟩, _⟩ q; exact own_plain ho hc hd (by decide) q
  · exact ⟨⟨_, Heap.get?_push_size _ rfl, rfl, rfl⟩, hl.at fun o e => Heap.get?_push_of_some _ e⟩
  · exact ⟨Heap.get?_push_of_some _ (N p hp).1, (N p hp).2⟩
/-- a tuple -/
theorem iter_tuple {l : Addr} {vs : List Value} {as : List α} {Q : Value → Shared → Prop} (hh : A.handled = none) (F : Fr h₀ L s.heap m) (N : News h₀ L s.heap news) (src : List (Addr × Obj))
    (hl : s.heap.IsTuple l vs.toArray) (hsrc : (∃ o, h₀.get? l = some o) ∨ (∃ o, (l, o) ∈ src)) (hr : Reps R as vs)
    (hQ : ∀ (I : Addr) (h' : Heap) St, I = s.heap.objs.size → Iter w A h₀ L src R as I St → St 0 h' → Fr h₀ L h' m → News h₀ L h' news → (∀ p ∈ news, p.1 < I) → Q (.ref I) { s with heap := h' }) :
    wpAny (model prog w) A (pyIter (.ref l)) Q E s := by
  obtain ⟨f1, f2, f3⟩ := size_fresh F N
  have hne : l ≠ s.heap.objs.size := by obtain ⟨o, ho, _⟩ := hl; exact Nat.ne_of_lt (Heap.lt_size ho)
  refine wpAny_pyIter_tuple hl (hQ _ _ (fun i h => h.IsTupleIter s.heap.objs.size l i ∧ h.IsTuple l vs.toArray) rfl ⟨⟨[s.heap.objs.size, l], ?_, ?_⟩, ?_, ?_, f1, f2⟩ ?_ (F.push _) (fun p hp => ?_) f3)
  · have W := Walks.tuple (prog := prog) (w := w) hh s.heap.objs.size l hne vs.toArray
    have hlen : vs.toArray.size = as.length := by rw [List.size_toArray, hr.length]
    rw [hlen] at W
    exact { sub := W.sub, frame := W.frame, item := fun i s Q E hi st hQ => W.item i s Q E hi st fun v h' tk hv => hQ v h' tk (hr.get (by simpa using hv)), done := W.done, self := W.self }
  · intro b hb
    rcases List.mem_cons.mp hb with rfl | hb
    · exact .inl rfl
    · rw [List.mem_singleton.mp hb]; exact .inr hsrc
  · rintro i h ⟨⟨o, ho, _⟩, _⟩; exact ⟨o, ho⟩
  · rintro i target v s Q E ⟨⟨o, ho, hc, hd⟩, _⟩ q; exact own_plain ho hc hd (by decide) q
  · exact ⟨⟨_, Heap.get?_push_size _ rfl, rfl, rfl⟩, hl.at fun o e => Heap.get?_push_of_some _ e⟩
  · exact ⟨Heap.get?_push_of_some _ (N p hp).1, (N p hp).2⟩
/-- the signs of a text -/
theorem iter_str {x : Str} {t : Tok} {Q : Value → Shared → Prop} (hh : A.handled = none) (F : Fr h₀ L s.heap m) (N : News h₀ L s.heap news)
    (hQ : ∀ (I : Addr) (h' : Heap) St, I = s.heap.objs.size → Iter w A h₀ L [] isSignR x.cps.toList I St → St 0 h' → Fr h₀ L h' m → News h₀ L h' news → (∀ p ∈ news, p.1 < I) → Q (.ref I) { s with heap := h' }) :
    wpAny (model prog w) A (pyIter (.str x t)) Q E s := by
  obtain ⟨f1, f2, f3⟩ := size_fresh F N
  have hlen : x.cps.size = x.cps.toList.length := by simp
  have sg : ∀ i v, SignAt x i v → ∃ a, x.cps.toList[i]? = some a ∧ isSignR a v := by
    rintro i v ⟨c, u, hc, rfl⟩
    exact ⟨c, by simpa using hc, u, rfl⟩
  cases ha : x.cps.all (· < 128)
  · refine wpAny_pyIter_wide ha (hQ _ _ (fun i h => h.IsStrIter s.heap.objs.size "str_iterator" x t i) rfl ⟨⟨[s.heap.objs.size], ?_, ?_⟩, ?_, ?_, f1, f2⟩ ?_ (F.push _) (fun p hp => ?_) f3)
    · have W := Walks.strWide (prog := prog) (w := w) hh s.heap.objs.size x t
      rw [hlen] at W
      exact { sub := W.sub, frame := W.frame, item := fun i s Q E hi st hQ => W.item i s Q E hi st fun v h' tk hv => hQ v h' tk (sg _ _ hv), done := W.done, self := W.self }
    · intro b hb; exact .inl (List.mem_singleton.mp hb)
    · rintro i h ⟨o, ho, _⟩; exact ⟨o, ho⟩
    · rintro i target v s Q E ⟨o, ho, hc, hd⟩ q; exact own_plain ho hc hd (by decide) q
    · exact ⟨_, Heap.get?_push_size _ rfl, rfl, rfl⟩
    · exact ⟨Heap.get?_push_of_some _ (N p hp).1, (N p hp).2⟩
  · refine wpAny_pyIter_ascii ha (hQ _ _ (fun i h => h.IsStrIter s.heap.objs.size "str_ascii_iterator" x t i) rfl ⟨⟨[s.heap.objs.size], ?_, ?_⟩, ?_, ?_, f1, f2⟩ ?_ (F.push _) (fun p hp => ?_) f3)
    · have W := Walks.strAscii (prog := prog) (w := w) hh s.heap.objs.size x t
      rw [hlen] at W
      exact { sub := W.sub, frame := W.frame, item := fun i s Q E hi st hQ => W.item i s Q E hi st fun v h' tk hv => hQ v h' tk (sg _ _ hv), done := W.done, self := W.self }
    · intro b hb; exact .inl (List.mem_singleton.mp hb)
    · rintro i h ⟨o, ho, _⟩; exact ⟨o, ho⟩
    · rintro i target v s Q E ⟨o, ho, hc, hd⟩ q; exact own_plain ho hc hd (by decide) q
    · exact ⟨_, Heap.get?_push_size _ rfl, rfl, rfl⟩
    · exact ⟨Heap.get?_push_of_some _ (N p hp).1, (N p hp).2⟩
/-- the keys of a dict -/
theorem iter_dict {κ : Type} [DecidableEq κ] {knd : KeyKind prog w κ} {d : Addr} {kvs : List (κ × Value)} {ep : Nat} {Q : Value → Shared → Prop} (hh : A.handled = none) (F : Fr h₀ L s.heap m) (N : News h₀ L s.heap news) (src : List (Addr × Obj))
    (hd : (d == sysModules) = false) (hm : s.heap.DictAt knd d kvs ep) (hsrc : (∃ o, h₀.get? d = some o) ∨ (∃ o, (d, o) ∈ src))
    (hQ : ∀ (I : Addr) (h' : Heap) St, I = s.heap.objs.size → Iter w A h₀ L src (fun k v => knd.is k v = true) (kvs.map (·.1)) I St → St 0 h' → Fr h₀ L h' m → News h₀ L h' news → (∀ p ∈ news, p.1 < I) → Q (.ref I) { s with heap := h' }) :
    wpAny (model prog w) A (pyIter (.ref d)) Q E s := by
  obtain ⟨f1, f2, f3⟩ := size_fresh F N
  have hne : d ≠ s.heap.objs.size := Nat.ne_of_lt hm.lt_size
  refine wpAny_pyIter_dict hd hm (hQ _ _ (fun i h => h.IsKeyIter s.heap.objs.size d i kvs.length ep ∧ h.DictAt knd d kvs ep) rfl ⟨⟨[s.heap.objs.size, d], ?_, ?_⟩, ?_, ?_, f1, f2⟩ ?_ (F.push _) (fun p hp => ?_) f3)
  · have W := Walks.dictKeys (prog := prog) (w := w) (knd := knd) hh s.heap.objs.size d hne kvs ep
    have hlen : (kvs.map (·.1)).length = kvs.length := by simp
    rw [hlen]
    refine { sub := W.sub, frame := W.frame, item := fun i s Q E hi st hQ => W.item i s Q E hi st fun v h' tk hv => hQ v h' tk ?_, done := W.done, self := W.self }
    obtain ⟨k, x, e, hk⟩ := hv
    exact ⟨k, by simp [e], hk⟩
  · intro b hb
    rcases List.mem_cons.mp hb with rfl | hb
    · exact .inl rfl
    · rw [List.mem_singleton.mp hb]; exact .inr hsrc
  · rintro i h ⟨⟨o, ho, _⟩, _⟩; exact ⟨o, ho⟩
  · rintro i target v s Q E ⟨⟨o, ho, hc, hd⟩, _⟩ q; exact own_plain ho hc hd (by decide) q
  · exact ⟨⟨_, Heap.get?_push_size _ rfl, rfl, rfl⟩, hm.push _⟩
  · exact ⟨Heap.get?_push_of_some _ (N p hp).1, (N p hp).2⟩
end
end Mine
namespace Mine
open PySem.Builtin PySem.Builtin.Str
/-- a text out of its signs -/
noncomputable abbrev S (l : List Nat) : Str := ⟨l.toArray⟩
theorem S_append (a b : List Nat) : S a ++ S b = S (a ++ b) := by apply Str.ext'; simp [Str.cps_append]
theorem S_inj {a b : List Nat} (h : S a = S b) : a = b := by
  have := congrArg (fun x : Str => x.cps.toList) h
  simpa using this
theorem S_toList (x : Str) : S x.cps.toList = x := by apply Str.ext'; simp
theorem S_length (l : List Nat) : (S l).length = l.length := by simp [Str.length]
theorem S_eq_iff {a b : List Nat} : S a = S b ↔ a = b := ⟨S_inj, fun h => by rw [h]⟩
theorem min_cast (i k : Nat) : min ((min i k : Nat) : Int) (k : Int) = min (i : Int) (k : Int) := by
  rcases Nat.le_total i k with h | h
  · rw [Nat.min_eq_left h]
  · rw [Nat.min_eq_right h, Int.min_self, Int.min_eq_right (Int.ofNat_le.mpr h)]
theorem slice_nat (l : List Nat) (i j : Nat) (h : i ≤ j) : Txt.slice (S l) (some (i : Int)) (some (j : Int)) = S ((l.drop i).take (j - i)) := by
  show StrLaws.sliceText _ _ _ = _
  have key : strSliceIndices (some (i : Int)) (some (j : Int)) 1 (S l).length = strSliceIndices (some ((min i l.length : Nat) : Int)) (some ((min j l.length : Nat) : Int)) 1 (S l).length := by
    rw [S_length]
    have a1 : ¬ ((i : Int) < 0) := Int.not_lt.mpr (Int.natCast_nonneg _)
    have a2 : ¬ ((j : Int) < 0) := Int.not_lt.mpr (Int.natCast_nonneg _)
    have a3 : ¬ (((min i l.length : Nat) : Int) < 0) := Int.not_lt.mpr (Int.natCast_nonneg _)
    have a4 : ¬ (((min j l.length : Nat) : Int) < 0) := Int.not_lt.mpr (Int.natCast_nonneg _)
    have e1 : max (0 : Int) (min (i : Int) (l.length : Int)) = max (0 : Int) (min ((min i l.length : Nat) : Int) (l.length : Int)) := by rw [min_cast]
    have e2 : max (0 : Int) (min (j : Int) (l.length : Int)) = max (0 : Int) (min ((min j l.length : Nat) : Int) (l.length : Int)) := by rw [min_cast]
    have z : (1 : Int) > 0 := by decide
    simp only [strSliceIndices, a1, a2, a3, a4, if_false, z, if_true, e1, e2]
  have e : StrLaws.sliceText (S l) (some (i : Int)) (some (j : Int)) = StrLaws.sliceText (S l) (some ((min i l.length : Nat) : Int)) (some ((min j l.length : Nat) : Int)) := by
    unfold StrLaws.sliceText; rw [key]
  rw [e, StrLaws.sliceText_nat (S l) (by omega) (by rw [S_length]; omega)]
  apply congrArg S
  show (l.drop (min i l.length)).take (min j l.length - min i l.length) = (l.drop i).take (j - i)
  by_cases hi : i ≤ l.length
  · rw [Nat.min_eq_left hi]
    by_cases hj : j ≤ l.length
    · rw [Nat.min_eq_left hj]
    · rw [Nat.min_eq_right (by omega)]
      rw [List.take_of_length_le (by simp), List.take_of_length_le (by simp; omega)]
  · rw [Nat.min_eq_right (a := i) (by omega), List.drop_length, List.drop_of_length_le (by omega)]; simp
theorem slice_from (l : List Nat) (i : Nat) : Txt.slice (S l) (some (i : Int)) none = S (l.drop i) := by
  by_cases h : i ≤ l.length
  · have := beq_iff_eq.mp (slice_closes_fromL (x := S l) (i := (i : Int)) (b := (l.length : Int)) (by omega) (by rw [S_length]; omega) (by rw [S_length]))
    rw [this]
    apply congrArg S
    show (l.drop (i : Int).toNat).take _ = _
    rw [show (i : Int).toNat = i from by omega, List.take_of_length_le (by simp)]
  · rw [slice_from_beyond (by rw [S_length]; omega), List.drop_of_length_le (by omega)]
theorem slice_to (l : List Nat) (j : Nat) : Txt.slice (S l) none (some (j : Int)) = S (l.take j) := by
  have e : Txt.slice (S l) none (some (j : Int)) = Txt.slice (S l) (some ((0 : Nat) : Int)) (some (j : Int)) := by
    show StrLaws.sliceText _ _ _ = StrLaws.sliceText _ _ _
    unfold StrLaws.sliceText; rw [StrLaws.sliceIdx_none_lo]; rfl
  rw [e, slice_nat l 0 j (Nat.zero_le _)]; simp
theorem join_toList (sep : List Nat) : ∀ xs : List (List Nat), Str.join (S sep) (xs.map S) = S (List.flatten (List.intersperse sep xs))
  | [] => rfl
  | [x] => by simp [Str.join]
  | x :: y :: r => by
    have ih := join_toList sep (y :: r)
    show S x ++ S sep ++ Str.join (S sep) ((y :: r).map S) = _
    rw [ih, S_append, S_append]
    simp
theorem flatten_intersperse_nil : ∀ xs : List (List Nat), (List.intersperse [] xs).flatten = xs.flatten
  | [] => rfl
  | [x] => rfl
  | x :: y :: r => by
    have ih := flatten_intersperse_nil (y :: r)
    simp only [List.intersperse_cons_cons, List.flatten_cons, List.nil_append, ih]
theorem join_empty (xs : List (List Nat)) : Str.join (Str.ofString "") (xs.map S) = S xs.flatten := by
  have : Str.ofString "" = S [] := by decide +kernel
  rw [this, join_toList, flatten_intersperse_nil]
theorem length_flatten_le (c : Nat) : ∀ xs : List (List Nat), (∀ x ∈ xs, x.length ≤ c) → xs.flatten.length ≤ c * xs.length
  | [], _ => by simp
  | x :: r, h => by
    have h1 := h x List.mem_cons_self
    have h2 := length_flatten_le c r (fun y hy => h y (List.mem_cons_of_mem _ hy))
    simp only [List.flatten_cons, List.length_append, List.length_cons, Nat.mul_add]
    omega
theorem sum_le (c : Nat) : ∀ xs : List Nat, (∀ x ∈ xs, x ≤ c) → xs.sum ≤ c * xs.length
  | [], _ => by simp
  | x :: r, h => by
    have h1 := h x List.mem_cons_self
    have h2 := sum_le c r (fun y hy => h y (List.mem_cons_of_mem _ hy))
    simp only [List.sum_cons, List.length_cons, Nat.mul_add]
    omega
theorem strs_values : ∀ {xs : List Str} {ys : List Value}, Reps isStrR xs ys → ∃ l : List (Str × Tok), strValues l = ys ∧ l.map (·.1) = xs
  | _, _, .nil => ⟨[], rfl, rfl⟩
  | _, _, .cons ⟨t, ht⟩ h => by
    obtain ⟨l, h1, h2⟩ := strs_values h
    exact ⟨(_, t) :: l, by rw [ht, ← h1]; rfl, by rw [← h2]; rfl⟩
theorem sum_fold (f : Str → Nat) (c : Nat) : ∀ (l : List Str) (n : Nat), l.foldl (fun a x => a + f x + c) n = n + (l.map fun x => f x + c).sum
  | [], n => by simp
  | x :: r, n => by rw [List.foldl_cons, sum_fold f c r]; simp; omega
theorem join_list {w : World} {A : Around} {E : Value → Shared → Prop} {s : Shared} {Q : Value → Shared → Prop} {sep : Str} {t : Tok} {a : Addr} {ys : List Value} {xs : List Str} (hl : s.heap.IsList a ys.toArray) (hR : Reps isStrR xs ys)
    (hsz : (xs.map fun x => x.length + sep.length).sum ≤ 16777216) (h : ∀ t' k, Q (.str (Str.join sep xs) t') { s with toks := k }) :
    wpAny (model prog w) A (call (.builtin "str.join") [.str sep t, .ref a]) Q E s := by
  obtain ⟨l, rfl, rfl⟩ := strs_values hR
  have hsum : (l.map (·.1)).toArray.foldl (· + ·.length + sep.length) 0 = ((l.map (·.1)).map fun x => x.length + sep.length).sum := by
    rw [List.foldl_toArray]; exact (sum_fold Str.length sep.length (l.map (·.1)) 0).trans (Nat.zero_add _)
  refine call_meets F.slot_str_join (typeIs_str _ _ _) F.entry_str_join (F.args_str_join_2 _ _) (meets_str_join_list sep t a l ?_) ⟨hl, ?_⟩
  · unfold tooLong; rw [hsum, sizeLine_eq]; exact decide_eq_false (by omega)
  · have hlen : (Str.join sep (l.map (·.1))).length ≤ 16777216 := by
      refine Nat.le_trans ?_ hsz
      have : ∀ xs : List Str, (Str.join sep xs).length ≤ (xs.map fun x => x.length + sep.length).sum := by
        intro xs
        induction xs with
        | nil => simp [Str.join, Str.empty, Str.length]
        | cons x r ih =>
          cases r with
          | nil => simp [Str.join]
          | cons y r => 
            show (x ++ sep ++ Str.join sep (y :: r)).length ≤ _
            rw [Str.length_append, Str.length_append, List.map_cons, List.sum_cons]
            omega
      exact this _
    have hstr : (Made.str (glued sep (l.map (·.1)))).post (fun v s' => wants Q E (.ok (.ret v)) s') s := by
      rw [StrLaws.glued_eq_join]
      exact ⟨by rw [sizeLine_eq]; exact hlen, h _ _⟩
    clear hR hl hsum hlen hsz
    cases l with
    | nil => exact hstr
    | cons p r => cases r with
      | nil => exact h p.2 s.toks
      | cons q r => exact hstr
end Mine
namespace Mine
open PySem.Builtin PySem.Builtin.Str
theorem slice_last (l : List Nat) : Txt.slice (S l) (some (-1)) none = S (l.drop (l.length - 1)) := by
  cases l with
  | nil => decide +kernel
  | cons a r =>
    have := beq_iff_eq.mp (slice_closes_from_neg (x := S (a :: r)) (i := -1) (a := ((r.length : Nat) : Int)) (b := ((r.length + 1 : Nat) : Int)) (by decide) (by rw [S_length]; simp; omega) (by rw [S_length]; simp; omega) (by rw [S_length]; simp))
    rw [this]
    apply congrArg S
    show ((a :: r).drop ((r.length : Nat) : Int).toNat).take _ = _
    rw [show ((r.length : Nat) : Int).toNat = r.length from by omega]
    rw [List.take_of_length_le (by simp)]
    simp
theorem startswith_S (b p : List Nat) : Txt.startswith (S b) (S p) = decide (p <+: b) := by
  unfold Txt.startswith
  rw [StrLaws.subAt_eq, S_length, S_length]
  show (decide (0 + p.length ≤ b.length) && ((b.drop 0).take (S p).length == p)) = _
  rw [S_length, List.drop_zero]
  by_cases h : p <+: b
  · rw [decide_eq_true h]
    have h1 := h.length_le
    have h2 : b.take p.length = p := (List.prefix_iff_eq_take.mp h).symm
    simp [h1, h2]
  · rw [decide_eq_false h]
    by_cases h1 : p.length ≤ b.length
    · have : b.take p.length ≠ p := fun e => h (List.prefix_iff_eq_take.mpr e.symm)
      simp [h1, this]
    · simp [h1]
end Mine
namespace Mine
open PySem.Builtin PySem.Builtin.Str
theorem at_sign (l : List Nat) (c i : Nat) : StrLaws.At (S l) (S [c]) (S l).length i ↔ l[i]? = some c := by
  unfold StrLaws.At
  rw [StrLaws.subAt_eq, S_length, S_length]
  show i + [c].length ≤ l.length ∧ ((l.drop i).take (S [c]).length == [c]) = true ↔ _
  rw [S_length]
  constructor
  · rintro ⟨h1, h2⟩
    have h2 : (l.drop i).take 1 = [c] := by simpa using h2
    have h3 := congrArg (·[0]?) h2
    simpa using h3
  · intro h
    have hi : i < l.length := by
      rcases Nat.lt_or_ge i l.length with q | q
      · exact q
      · rw [List.getElem?_eq_none q] at h; cases h
    refine ⟨by simp; omega, ?_⟩
    have : (l.drop i).take 1 = [c] := by
      rw [List.drop_eq_getElem_cons hi]
      have := List.getElem?_eq_getElem hi
      rw [h] at this
      simp [← Option.some.inj this]
    simpa using this
theorem split_eq (k v : List Nat) (hk : 61 ∉ k) : Txt.splitMax (S (k ++ 61 :: v)) (Str.ofString "=") 1 = [S k, S v] := by
  rw [show Str.ofString "=" = S [61] from by decide +kernel]
  unfold Txt.splitMax
  have h1 : decide ((S (k ++ 61 :: v)).length < (S [61]).length) = false := by rw [S_length, S_length]; simp
  have h2 : decide (Builtin.Str.strKind (S (k ++ 61 :: v)) < Builtin.Str.strKind (S [61])) = false := by
    have e : Builtin.Str.strKind (S [61]) = 1 := by decide +kernel
    rw [e]
    apply decide_eq_false
    unfold Builtin.Str.strKind
    repeat' split
    all_goals omega
  rw [h1, h2]
  have hl : limitOf (S (k ++ 61 :: v)) 1 = 1 := rfl
  rw [hl]
  have hlen := StrLaws.occ_length_le (S (k ++ 61 :: v)) (S [61]) 0 (S (k ++ 61 :: v)).length 1
  have hat : StrLaws.At (S (k ++ 61 :: v)) (S [61]) (S (k ++ 61 :: v)).length k.length := (at_sign _ _ _).mpr (by simp)
  rcases StrLaws.occ_head (S (k ++ 61 :: v)) (S [61]) 1 (Nat.le_refl _) with ⟨_, hn⟩ | ⟨i, r, e, ha, hn⟩
  · exact absurd hat (hn _)
  · rw [e] at hlen ⊢
    have hr : r = [] := by cases r with | nil => rfl | cons _ _ => simp at hlen
    subst hr
    have hi : i = k.length := by
      rcases Nat.lt_trichotomy i k.length with q | q | q
      · exfalso
        have := (at_sign _ _ _).mp ha
        rw [List.getElem?_append_left q] at this
        exact hk (List.mem_of_getElem? this)
      · exact q
      · exact absurd hat (hn _ q)
    subst hi
    simp only [Bool.or_self, Bool.false_eq_true, if_false, List.isEmpty_cons]
    rw [StrLaws.partsBetween_eq]
    show [strSub _ 0 k.length, strSub _ (k.length + (S [61]).length) _] = _
    have e1 : strSub (S (k ++ 61 :: v)) 0 k.length = S k := by
      rw [← S_toList (strSub _ _ _), StrLaws.strSub_toList]; simp
    have e2 : strSub (S (k ++ 61 :: v)) (k.length + (S [61]).length) (S (k ++ 61 :: v)).length = S v := by
      rw [← S_toList (strSub _ _ _), StrLaws.strSub_toList, S_length, S_length]
      simp
      rw [List.take_of_length_le (by omega)]
    rw [e1, e2]
theorem two_strs {l : List (Str × Tok)} {a b : Str} (h : l.map (·.1) = [a, b]) : ∃ t u, l = [(a, t), (b, u)] := by
  match l, h with
  | [(x, t), (y, u)], h =>
    simp at h
    exact ⟨t, u, by rw [h.1, h.2]⟩
theorem item_first (a : Nat) (r : List Nat) : Txt.item (S (a :: r)) 0 = S [a] := by
  unfold Txt.item Txt.charAt
  have : seqIndex? 0 (S (a :: r)).length = some 0 := by
    rw [S_length]; simp [seqIndex?]
  rw [this]
  simp
theorem item_last (l : List Nat) (h : l ≠ []) : Txt.item (S l) (-1) = S [l.getLast h] := by
  unfold Txt.item Txt.charAt
  have hl : 0 < l.length := List.length_pos_iff.mpr h
  have : seqIndex? (-1) (S l).length = some (l.length - 1) := by
    rw [S_length]; simp [seqIndex?]
    omega
  rw [this]
  have e : l[l.length - 1]? = some (l.getLast h) := by
    rw [List.getLast_eq_getElem, List.getElem?_eq_getElem]
  simp [e]
theorem slice_mid (l : List Nat) (h : l ≠ []) : Txt.slice (S l) (some 1) (some (-1)) = S ((l.drop 1).dropLast) := by
  have hl : 0 < l.length := List.length_pos_iff.mpr h
  show StrLaws.sliceText _ _ _ = _
  rw [StrLaws.sliceText_neg_hi (S l) (some 1) (by decide) (by rw [S_length]; omega), S_length]
  by_cases h1 : l.length = 1
  · obtain ⟨a, rfl⟩ := List.length_eq_one_iff.mp h1
    show StrLaws.sliceText (S [a]) (some 1) (some 0) = S []
    have e1 : (S [a]).length = 1 := by rw [S_length]; rfl
    have : strSliceIndices (some 1) (some 0) 1 1 = [] := by decide +kernel
    unfold StrLaws.sliceText
    rw [e1, this]
    simp
  · have e : (-1 : Int) + (l.length : Int) = ((l.length - 1 : Nat) : Int) := by omega
    rw [e]
    have := slice_nat l 1 (l.length - 1) (by omega)
    have e1 : StrLaws.sliceText (S l) (some 1) (some ((l.length - 1 : Nat) : Int)) = S ((l.drop 1).take (l.length - 1 - 1)) := this
    rw [e1]
    apply congrArg S
    rw [List.dropLast_eq_take, List.length_drop]
end Mine
namespace Mine
section
variable {α β : Type} {w : World} {A : Around} {E : Value → Shared → Prop} {s : Shared} {env : Env} {h₀ : Heap} {L I : Addr} {m : Str → Option Value} {news src : List (Addr × Obj)} {R : α → Value → Prop} {as : List α} {St : Nat → Heap → Prop}
  {elt iter : Expr} {x : Str} {px : Pos} {ifs : List Expr} {scope : Scope} {cl : List (Str × Addr)} {pos : Pos} {Q : Value → Shared → Prop}
theorem LCg_append {w : World} {A : Around} {E : Value → Shared → Prop} {s : Shared} {l : Addr} {ys : List Value} {y : Value} {Q : Value → Shared → Prop} (hl : s.heap.get? l = some (LCg.lst ys)) (hsz : ys.length ≤ sizeLine)
    (hQ : ∀ h', h'.get? l = some (LCg.lst (ys ++ [y])) → Heap.SameBut l s.heap h' → Q .none { s with heap := h' }) : wpAny (model prog w) A (call (.builtin "list.append") [.ref l, y]) Q E s :=
  append_at (hsz := by show ys.toArray.size ≤ sizeLine; rw [List.size_toArray]; exact hsz) hl fun h₅ hs₅ hD₅ => hQ h₅ (hD₅.trans (congrArg some (LCg.lst_snoc ys y))) hs₅
theorem comp_open
    (h : wpAny (model prog w) A (eval iter env) (fun xv s₁ => wpAny (model prog w) A (pyIter xv) (fun it s₂ => wpAny (model prog w) A (newList []) (fun acc s₃ =>
      wpAny (model prog w) A (newFunctionEnv scope env.globals cl [] env.qual none .none (some env)) (fun cenv s₄ =>
        codeAny (model prog w) A (.compStart (.ListComp elt [⟨.Name x px, iter, ifs, 0⟩] scope pos) 0 it acc { cenv with scope := relabel scope env }) (compPost (model prog w) A E none Q acc cenv.locals) s₄) E s₃) E s₂) E s₁) E s)
    (hclos : closureFor scope env = pure cl := by with_unfolding_all rfl) (hkind : scope.kind = .function := by with_unfolding_all rfl) (hnames : ∀ y ∈ scope.names, y.2 = .local → scope.names.lookup y.1 = some .local := by decide)
    (hs : ∀ x, foldedSetIterable iter env x = pure x := by intro _; rfl) :
    wpAny (model prog w) A (eval (.ListComp elt [⟨.Name x px, iter, ifs, 0⟩] scope pos) env) Q E s := by
  rw [eval_ListComp]
  exact wpAny_comprehension_free (use := none) rfl hs hclos hkind hnames h
noncomputable abbrev tests (ifs : List Expr) (cenv : Env) : Sem Bool := forIn ifs true fun c r => if r = true then do let ok ← isTrue c cenv (eval c cenv); pure (ForInStep.yield ok) else pure (ForInStep.yield r)
/-- the end of a turn of a comprehension -/
def CEnd (s : Shared) (h₀ : Heap) (L : Addr) (m : Str → Option Value) (all : List (Addr × Obj)) (P : Prop) (s' : Shared) : Prop :=
  ∃ h' tk', s' = { s with heap := h', toks := tk' } ∧ Fr h₀ L h' m ∧ News h₀ L h' all ∧ P
theorem CEnd.mk {all : List (Addr × Obj)} {P : Prop} {h' : Heap} {tk' : Nat} (F : Fr h₀ L h' m) (N : News h₀ L h' all) (p : P) : Stop (CEnd s h₀ L m all P { s with heap := h', toks := tk' }) := ⟨h', tk', rfl, F, N, p⟩
theorem comp_gen (it : Iter w A h₀ L src R as I St) (hst : St 0 s.heap) (F : Fr h₀ L s.heap m) (N : News h₀ L s.heap news) (hoff : ∀ p ∈ news, p.1 ≠ I) (hsrc : ∀ p ∈ src, p ∈ news) (hsz : as.length ≤ sizeLine)
    (hcell : ∀ y ∈ scope.names, y.2 ≠ .cell) (hkind : scope.kind = .function) (hx : scope.names.lookup x = some .local)
    (g : α → Option β) (R' : β → Value → Prop)
    (turn : ∀ a v oI C oC D oD m₂ h tk, a ∈ as → R a v → LCg.NsObj oC m₂ → m₂ x = some v → Fr h₀ L h m → News h₀ L h ((C, oC) :: (I, oI) :: (D, oD) :: news) → C ≠ I → D ≠ I → C ≠ D → (∀ p ∈ news, p.1 < C) → (∀ p ∈ news, p.1 < D) →
      wpAny (model prog w) A (tests ifs (compEnvC scope cl C env)) (fun ok s' => if ok = true then
          wpAny (model prog w) A (eval elt (compEnvC scope cl C env)) (fun y s'' => Stop (CEnd s h₀ L m ((C, oC) :: (I, oI) :: (D, oD) :: news) (∃ b, g a = some b ∧ R' b y) s'')) (fun _ _ => False) s'
        else Stop (CEnd s h₀ L m ((C, oC) :: (I, oI) :: (D, oD) :: news) (g a = none) s')) (fun _ _ => False) { s with heap := h, toks := tk })
    {RR : Value → Addr → Result → Shared → Prop}
    (fin : ∀ D C h tk ys m', Fr h₀ L h m → News h₀ L h ((D, LCg.lst ys) :: news) → (∀ p ∈ news, p.1 < D) → Reps R' (as.filterMap g) ys → h.Ns C m' → C ≠ L → D ≠ C → D ≠ L → (∀ p ∈ news, p.1 ≠ C) → h₀.get? C = none → RR (.ref D) C (.ok .next) { s with heap := h, toks := tk }) :
    wpAny (model prog w) A (newList []) (fun acc s₃ =>
      wpAny (model prog w) A (newFunctionEnv scope env.globals cl [] env.qual none .none (some env)) (fun cenv s₄ =>
        codeAny (model prog w) A (.compStart (.ListComp elt [⟨.Name x px, iter, ifs, 0⟩] scope pos) 0 (.ref I) acc { cenv with scope := relabel scope env }) (RR acc cenv.locals) s₄) E s₃) E s := by
  obtain ⟨fp, W, hfp⟩ := it.walks
  refine wpAny_newObj_type (wpAny_newFunctionEnv hcell (by intro y hy; simp at hy) (fun h₁ hns₁ hsb₁ => ?_) hkind)
  dsimp only at hns₁ hsb₁ ⊢
  generalize hH2 : s.heap.push { cls := .type "list", dict := none, data := .seq ([] : List Value).toArray } = H2 at hns₁ hsb₁ ⊢
  have hC : H2.objs.size = s.heap.objs.size + 1 := by rw [← hH2, Heap.size_push]
  have hDC : s.heap.objs.size ≠ H2.objs.size := by rw [hC]; exact Nat.ne_of_lt (Nat.lt_succ_self _)
  have below : ∀ b, b < s.heap.objs.size → b ≠ H2.objs.size ∧ b ≠ s.heap.objs.size := fun b hb => ⟨by rw [hC]; exact Nat.ne_of_lt (Nat.lt_succ_of_lt hb), Nat.ne_of_lt hb⟩
  have hIlt : I < s.heap.objs.size := by obtain ⟨o, ho⟩ := it.live _ _ hst; exact Heap.lt_size ho
  have old : ∀ b o, s.heap.get? b = some o → h₁.get? b = some o := fun b o e => hsb₁.extBut b o (below b (Heap.lt_size e)).1 (Heap.get?_push_of_some _ (hH2 ▸ Heap.get?_push_of_some _ e))
  have hacc : h₁.get? s.heap.objs.size = some (LCg.lst []) := hsb₁.extBut _ _ hDC (Heap.get?_push_of_some _ (hH2 ▸ Heap.get?_push_size _ rfl))
  have hst₁ : St 0 h₁ := W.frame _ _ _ hst fun b _ o e => old b o e
  have fresh₀ : ∀ a, s.heap.objs.size ≤ a → h₀.get? a = none := fun a ha => by
    cases e : h₀.get? a with
    | none => rfl
    | some o' => exact absurd (Heap.lt_size (F.keep a o' e)) (Nat.not_lt.mpr ha)
  have hD₀ : h₀.get? s.heap.objs.size = none := fresh₀ _ (Nat.le_refl _)
  have hC₀ : h₀.get? H2.objs.size = none := fresh₀ _ (by rw [hC]; exact Nat.le_succ _)
  have hLlt : L < s.heap.objs.size := F.ns.lt
  have hDL : s.heap.objs.size ≠ L := Ne.symm (below L hLlt).2
  have hCL : H2.objs.size ≠ L := Ne.symm (below L hLlt).1
  have hCI : H2.objs.size ≠ I := Ne.symm (below I hIlt).1
  have hDI : s.heap.objs.size ≠ I := Ne.symm (below I hIlt).2
  have nlt : ∀ p ∈ news, p.1 < s.heap.objs.size := fun p hp => Heap.lt_size (N p hp).1
  have loop : ∀ s₃ : Shared, s₃ = { s with heap := h₁, toks := s.toks + ([] : List (Str × Value)).length } →
      codeAny (model prog w) A (.compLoop (.ListComp elt [⟨.Name x px, iter, ifs, 0⟩] scope pos) 0 (.ref I) (.ref s.heap.objs.size) (compEnvC scope cl H2.objs.size env))
        (RR (.ref s.heap.objs.size) H2.objs.size) s₃ := by
    rintro s₃ rfl
    refine codeAny_compLoop_tests
      (fun k s' => ∃ h' tk i ys m', s' = { s with heap := h', toks := tk } ∧ i ≤ as.length ∧ k = as.length + 1 - i ∧ St i h' ∧ Fr h₀ L h' m ∧ h'.Ns H2.objs.size m' ∧ News h₀ L h' ((s.heap.objs.size, LCg.lst ys) :: news) ∧
        Reps R' ((as.take i).filterMap g) ys) ?_ (as.length + 1)
      ⟨h₁, _, 0, [], _, rfl, Nat.zero_le _, rfl, hst₁, Fr.grow F old, hns₁, fun p hp => ?_, Reps.nil⟩
    · rintro k s' ⟨h', tk, i, ys, m', rfl, hi, rfl, hst', F', hn', N', hR⟩
      by_cases hlt : i < as.length
      · refine W.item i _ _ _ hlt hst' fun v h₂ tk₂ hPv hst₂ hk₂ => ?_
        obtain ⟨a, ha, hRa⟩ := hPv
        refine wpAny_assign_Name (wpAny_storeName_local (lookup_relabel_local hx) (hn'.at' fun o e => hk₂ _ o (by simpa using hCI) e) (fun h₃ hn₃ hs₃ => ?_) (by simp [compEnvC, relabel, hkind]))
        have up : ∀ b o, b ≠ I → b ≠ H2.objs.size → h'.get? b = some o → h₃.get? b = some o := fun b o h1 h2 e => hs₃.extBut b o h2 (hk₂ b o (by simpa using h1) e)
        have hst₃ : St (i + 1) h₃ := by
          refine it.framed hst₂ (fun o e => hs₃.extBut I o (Ne.symm hCI) e) (fun b o e => hk₂ b o (fun hm => ?_) (F'.keep b o e)) (fun b o e => up b o (fun q => ?_) (fun q => ?_) (F'.keep b o e)) (fun p hp => hk₂ _ _ (by simpa using hoff p (hsrc p hp)) (N' p (List.mem_cons_of_mem _ (hsrc p hp))).1)
            (fun p hp => up _ _ (hoff p (hsrc p hp)) (below _ (nlt p (hsrc p hp))).1 (N' p (List.mem_cons_of_mem _ (hsrc p hp))).1)
          · rw [List.mem_singleton.mp hm, it.fresh] at e; cases e
          · rw [q, it.fresh] at e; cases e
          · rw [q, hC₀] at e; cases e
        obtain ⟨oI, heI⟩ := it.live _ _ hst₃
        obtain ⟨oC, heC, hoC⟩ := LCg.ns_obj hn₃
        have F₃ : Fr h₀ L h₃ m := ⟨F'.ns.at' fun o e => up L o it.neL (Ne.symm hCL) e, fun b o e => up b o (fun q => by rw [q, it.fresh] at e; cases e) (fun q => by rw [q, hC₀] at e; cases e) (F'.keep b o e), F'.above⟩
        have N₃ : News h₀ L h₃ ((H2.objs.size, oC) :: (I, oI) :: (s.heap.objs.size, LCg.lst ys) :: news) := by
          intro p hp
          rcases List.mem_cons.mp hp with rfl | hp
          · exact ⟨heC, hCL, hC₀⟩
          rcases List.mem_cons.mp hp with rfl | hp
          · exact ⟨heI, Ne.symm it.neL, it.fresh⟩
          · have hp1 : p.1 ≠ I ∧ p.1 ≠ H2.objs.size := by
              rcases List.mem_cons.mp hp with rfl | hp
              · exact ⟨hDI, hDC⟩
              · exact ⟨hoff p hp, (below _ (nlt p hp)).1⟩
            exact ⟨up _ _ hp1.1 hp1.2 (N' p hp).1, (N' p hp).2⟩
        have take : (as.take (i + 1)).filterMap g = (as.take i).filterMap g ++ (g a).toList := by
          rw [List.take_add_one, ha, List.filterMap_append]; cases hg : g a <;> simp [hg]
        refine wpAny_mono (turn a v oI H2.objs.size oC s.heap.objs.size (LCg.lst ys) _ h₃ (tk₂ + 1) (List.mem_of_getElem? ha) hRa hoC (by simp) F₃ N₃ hCI hDI (Ne.symm hDC) (fun p hp => Nat.lt_trans (nlt p hp) (by rw [hC]; exact Nat.lt_succ_self _)) nlt) (fun ok s₄ h₄ => ?_) (fun _ _ x => x.elim)
        have back : ∀ h4, News h₀ L h4 ((H2.objs.size, oC) :: (I, oI) :: (s.heap.objs.size, LCg.lst ys) :: news) → Fr h₀ L h4 m → St (i + 1) h4 := fun h4 N4 F4 => by
          refine it.framed hst₃ (fun o e => ?_) F₃.keep F4.keep (fun p hp => (N₃ p (List.mem_cons_of_mem _ (List.mem_cons_of_mem _ (List.mem_cons_of_mem _ (hsrc p hp))))).1) (fun p hp => (N4 p (List.mem_cons_of_mem _ (List.mem_cons_of_mem _ (List.mem_cons_of_mem _ (hsrc p hp))))).1)
          rw [heI] at e; cases e
          exact (N4 (I, oI) (List.mem_cons_of_mem _ List.mem_cons_self)).1
        cases ok with
        | false =>
          simp only [Bool.false_eq_true, if_false] at h₄ ⊢
          obtain ⟨h4, tk4, rfl, F4, N4, hg⟩ := h₄
          refine ⟨as.length + 1 - (i + 1), by omega, h4, tk4, i + 1, ys, _, rfl, hlt, rfl, back h4 N4 F4, F4, hoC.ns (N4 _ List.mem_cons_self).1, fun p hp => N4 p (List.mem_cons_of_mem _ (List.mem_cons_of_mem _ hp)), ?_⟩
          rw [take, hg]; simpa using hR
        | true =>
          simp only [if_true] at h₄ ⊢
          refine wpAny_mono h₄ (fun y s₅ h₅ => ?_) (fun _ _ x => x.elim)
          obtain ⟨h4, tk4, rfl, F4, N4, b, hg, hRb⟩ := h₅
          have hlist : h4.get? s.heap.objs.size = some (LCg.lst ys) := (N4 (s.heap.objs.size, LCg.lst ys) (List.mem_cons_of_mem _ (List.mem_cons_of_mem _ List.mem_cons_self))).1
          have hyl : ys.length ≤ sizeLine := by
            have h1 := hR.length
            have h2 : ((as.take i).filterMap g).length ≤ (as.take i).length := List.length_filterMap_le ..
            rw [List.length_take] at h2
            omega
          refine LCg_append hlist hyl fun h5 hl5 hs5 => ?_
          refine ⟨as.length + 1 - (i + 1), by omega, h5, tk4, i + 1, ys ++ [y], _, rfl, hlt, rfl, ?_, ⟨F4.ns.sameBut hs5 (Ne.symm hDL), fun b o e => hs5.extBut b o (fun q => by rw [q, hD₀] at e; cases e) (F4.keep b o e), F4.above⟩, (hoC.ns (N4 _ List.mem_cons_self).1).sameBut hs5 (Ne.symm hDC), ?_, ?_⟩
          · refine it.framed (back h4 N4 F4) (fun o e => hs5.extBut I o (Ne.symm hDI) e) F4.keep (fun b o e => hs5.extBut b o (fun q => by rw [q, hD₀] at e; cases e) (F4.keep b o e)) (fun p hp => (N4 p (List.mem_cons_of_mem _ (List.mem_cons_of_mem _ (List.mem_cons_of_mem _ (hsrc p hp))))).1)
              (fun p hp => hs5.extBut _ _ (below _ (nlt p (hsrc p hp))).2 (N4 p (List.mem_cons_of_mem _ (List.mem_cons_of_mem _ (List.mem_cons_of_mem _ (hsrc p hp))))).1)
          · intro p hp
            rcases List.mem_cons.mp hp with rfl | hp
            · exact ⟨hl5, hDL, hD₀⟩
            · exact ⟨hs5.extBut _ _ (below _ (nlt p hp)).2 (N4 p (List.mem_cons_of_mem _ (List.mem_cons_of_mem _ (List.mem_cons_of_mem _ hp)))).1, (N p hp).2⟩
          · rw [take, hg]; exact hR.snoc hRb
      · have hin : i = as.length := by omega
        subst hin
        refine W.done _ _ _ hst' fun h₂ tk₂ hk₂ => ?_
        rw [List.take_length] at hR
        refine fin _ _ h₂ tk₂ ys m' (fr_but F' hk₂ it.neL it.fresh) (news_but N' hk₂ fun p hp => ?_) nlt hR (hn'.at' fun o e => hk₂ _ o (by simpa using hCI) e) hCL hDC hDL (fun p hp => (below _ (nlt p hp)).1) hC₀
        rcases List.mem_cons.mp hp with rfl | hp
        · exact hDI
        · exact hoff p hp
    · rcases List.mem_cons.mp hp with rfl | hp
      · exact ⟨hacc, hDL, hD₀⟩
      · exact ⟨old _ _ (N p hp).1, (N p hp).2⟩
  exact codeAny_compStart_list (loop _ rfl) (W.self 0 _ _ _ hst₁ (loop _ rfl))
theorem comp_block (it : Iter w A h₀ L src R as I St) (hst : St 0 s.heap) (F : Fr h₀ L s.heap m) (N : News h₀ L s.heap news) (hoff : ∀ p ∈ news, p.1 ≠ I) (hsrc : ∀ p ∈ src, p ∈ news) (hsz : as.length ≤ sizeLine)
    (hcell : ∀ y ∈ scope.names, y.2 ≠ .cell) (hkind : scope.kind = .function) (hx : scope.names.lookup x = some .local)
    (g : α → Option β) (R' : β → Value → Prop)
    (turn : ∀ a v oI C oC D oD m₂ h tk, a ∈ as → R a v → LCg.NsObj oC m₂ → m₂ x = some v → Fr h₀ L h m → News h₀ L h ((C, oC) :: (I, oI) :: (D, oD) :: news) → C ≠ I → D ≠ I → C ≠ D → (∀ p ∈ news, p.1 < C) → (∀ p ∈ news, p.1 < D) →
      wpAny (model prog w) A (tests ifs (compEnvC scope cl C env)) (fun ok s' => if ok = true then
          wpAny (model prog w) A (eval elt (compEnvC scope cl C env)) (fun y s'' => Stop (CEnd s h₀ L m ((C, oC) :: (I, oI) :: (D, oD) :: news) (∃ b, g a = some b ∧ R' b y) s'')) (fun _ _ => False) s'
        else Stop (CEnd s h₀ L m ((C, oC) :: (I, oI) :: (D, oD) :: news) (g a = none) s')) (fun _ _ => False) { s with heap := h, toks := tk })
    (fin : ∀ D h tk ys, Fr h₀ L h m → News h₀ L h ((D, LCg.lst ys) :: news) → (∀ p ∈ news, p.1 < D) → Reps R' (as.filterMap g) ys → Q (.ref D) { s with heap := h, toks := tk }) :
    wpAny (model prog w) A (newList []) (fun acc s₃ =>
      wpAny (model prog w) A (newFunctionEnv scope env.globals cl [] env.qual none .none (some env)) (fun cenv s₄ =>
        codeAny (model prog w) A (.compStart (.ListComp elt [⟨.Name x px, iter, ifs, 0⟩] scope pos) 0 (.ref I) acc { cenv with scope := relabel scope env }) (compPost (model prog w) A E none Q acc cenv.locals) s₄) E s₃) E s := by
  refine comp_gen (RR := compPost (model prog w) A E none Q) it hst F N hoff hsrc hsz hcell hkind hx g R' turn fun D C h tk ys m' F' N' lt hR hn hCL hDC hDL hnC hC₀ => ⟨m', hn, fun h' hs => ?_⟩
  refine fin D h' tk ys ⟨F'.ns.sameBut hs (Ne.symm hCL), fun b o e => hs.extBut b o (fun q => by rw [q, hC₀] at e; cases e) (F'.keep b o e), F'.above⟩ (fun p hp => ⟨hs.extBut _ _ ?_ (N' p hp).1, (N' p hp).2⟩) lt hR
  rcases List.mem_cons.mp hp with rfl | hp
  · exact hDC
  · exact hnC p hp
theorem comp_openA {y : Str} {py spos : Pos} {Q : Flow → Shared → Prop} 
    (h : wpAny (model prog w) A (eval iter env) (fun xv s₁ => wpAny (model prog w) A (pyIter xv) (fun it s₂ => wpAny (model prog w) A (newList []) (fun acc s₃ =>
      wpAny (model prog w) A (newFunctionEnv scope env.globals cl [] env.qual none .none (some env)) (fun cenv s₄ =>
        codeAny (model prog w) A (.compStart (.ListComp elt [⟨.Name x px, iter, ifs, 0⟩] scope pos) 0 it acc { cenv with scope := relabel scope env }) (compPost (model prog w) A E (some (assign (.Name y py) env)) (fun _ s' => Q .next s') acc cenv.locals) s₄) E s₃) E s₂) E s₁) E s)
    (hsw : swapsWith (.ListComp elt [⟨.Name x px, iter, ifs, 0⟩] scope pos) (some (.Name y py)) spos.line env = pure true := by with_unfolding_all rfl)
    (hclos : closureFor scope env = pure cl := by with_unfolding_all rfl) (hkind : scope.kind = .function := by with_unfolding_all rfl) (hnames : ∀ y ∈ scope.names, y.2 = .local → scope.names.lookup y.1 = some .local := by decide)
    (hs : ∀ x, foldedSetIterable iter env x = pure x := by intro _; rfl) :
    wpAny (model prog w) A (exec (.Assign [.Name y py] (.ListComp elt [⟨.Name x px, iter, ifs, 0⟩] scope pos) spos) env) Q E s := by
  rw [exec_Assign_Name_used _ _ _ _ hsw]
  refine wpAny_bind (wpAny_standAt (wpAny_bind ?_))
  show wpAny _ A (do let _ ← comprehension (.ListComp elt [⟨.Name x px, iter, ifs, 0⟩] scope pos) scope env _ (newList []) false (eval iter env) (some (assign (.Name y py) env))) _ _ s
  exact wpAny_bind (wpAny_mono (wpAny_comprehension_free (use := some (assign (.Name y py) env)) (Q := fun _ s' => Q .next s') rfl hs hclos hkind hnames h) (fun _ s' hq => wpAny_pure (wpAny_pure hq)) fun _ _ e => e)
theorem comp_blockA {y : Str} {py : Pos} {Q : Value → Shared → Prop} (it : Iter w A h₀ L src R as I St) (hst : St 0 s.heap) (F : Fr h₀ L s.heap m) (N : News h₀ L s.heap news) (hoff : ∀ p ∈ news, p.1 ≠ I) (hsrc : ∀ p ∈ src, p ∈ news) (hsz : as.length ≤ sizeLine)
    (hcell : ∀ y ∈ scope.names, y.2 ≠ .cell) (hkind : scope.kind = .function) (hx : scope.names.lookup x = some .local)
    (hL : env.locals = L) (hy : env.kindOf y = some .local) (hp : (env.scope.kind == .class || (env.scope.kind == .module && env.locals != env.globals)) = false)
    (g : α → Option β) (R' : β → Value → Prop)
    (turn : ∀ a v oI C oC D oD m₂ h tk, a ∈ as → R a v → LCg.NsObj oC m₂ → m₂ x = some v → Fr h₀ L h m → News h₀ L h ((C, oC) :: (I, oI) :: (D, oD) :: news) → C ≠ I → D ≠ I → C ≠ D → (∀ p ∈ news, p.1 < C) → (∀ p ∈ news, p.1 < D) →
      wpAny (model prog w) A (tests ifs (compEnvC scope cl C env)) (fun ok s' => if ok = true then
          wpAny (model prog w) A (eval elt (compEnvC scope cl C env)) (fun y s'' => Stop (CEnd s h₀ L m ((C, oC) :: (I, oI) :: (D, oD) :: news) (∃ b, g a = some b ∧ R' b y) s'')) (fun _ _ => False) s'
        else Stop (CEnd s h₀ L m ((C, oC) :: (I, oI) :: (D, oD) :: news) (g a = none) s')) (fun _ _ => False) { s with heap := h, toks := tk })
    (fin : ∀ D h tk ys, Fr h₀ L h (fun z => if z = y then some (.ref D) else m z) → News h₀ L h ((D, LCg.lst ys) :: news) → (∀ p ∈ news, p.1 < D) → Reps R' (as.filterMap g) ys → Q .none { s with heap := h, toks := tk }) :
    wpAny (model prog w) A (newList []) (fun acc s₃ =>
      wpAny (model prog w) A (newFunctionEnv scope env.globals cl [] env.qual none .none (some env)) (fun cenv s₄ =>
        codeAny (model prog w) A (.compStart (.ListComp elt [⟨.Name x px, iter, ifs, 0⟩] scope pos) 0 (.ref I) acc { cenv with scope := relabel scope env }) (compPost (model prog w) A E (some (assign (.Name y py) env)) Q acc cenv.locals) s₄) E s₃) E s := by
  refine comp_gen (RR := compPost (model prog w) A E (some (assign (.Name y py) env)) Q) it hst F N hoff hsrc hsz hcell hkind hx g R' turn fun D C h tk ys m' F' N' lt hR hn hCL hDC hDL hnC hC₀ => ?_
  show wpAny _ A (assign (.Name y py) env (.ref D)) _ _ _
  refine wpAny_assign_Name (wpAny_storeName_local hy (by rw [hL]; exact F'.ns) (fun h₂ hn₂ hs₂ => ?_) hp)
  rw [hL] at hn₂ hs₂
  have F₂ := F'.set hn₂ hs₂
  have N₂ := N'.set hs₂
  refine ⟨m', hn.sameBut hs₂ hCL, fun h' hs => ?_⟩
  refine fin D h' _ ys ⟨F₂.ns.sameBut hs (Ne.symm hCL), fun b o e => hs.extBut b o (fun q => by rw [q, hC₀] at e; cases e) (F₂.keep b o e), F₂.above⟩ (fun p hp => ⟨hs.extBut _ _ ?_ (N₂ p hp).1, (N₂ p hp).2⟩) lt hR
  rcases List.mem_cons.mp hp with rfl | hp
  · exact hDC
  · exact hnC p hp
/-- a range upwards -/
theorem iter_range {r : Addr} {a b c : Int} {t u v : Tok} {n : Nat} {Q : Value → Shared → Prop} (hh : A.handled = none) (F : Fr h₀ L s.heap m) (N : News h₀ L s.heap news) (hr : IsRange s.heap r a b c t u v) (hsmall : Builtin.Range.small a b c = true)
    (hn : Builtin.Range.rangeSize a b c = (n : Int))
    (hQ : ∀ (I : Addr) (h' : Heap) St, I = s.heap.objs.size → Iter w A h₀ L [] isIntR ((List.range n).map fun (i : Nat) => a + (i : Int) * c) I St → St 0 h' → Fr h₀ L h' m → News h₀ L h' news → (∀ p ∈ news, p.1 < I) → Q (.ref I) { s with heap := h' }) :
    wpAny (model prog w) A (pyIter (.ref r)) Q E s := by
  obtain ⟨f1, f2, f3⟩ := size_fresh F N
  refine wpAny_pyIter_range hr hsmall (hQ _ _ (fun i h => IsRangeIter h s.heap.objs.size (a + (i : Nat) * c) ((n : Int) - (i : Nat)) c) rfl ⟨⟨[s.heap.objs.size], ?_, ?_⟩, ?_, ?_, f1, f2⟩ ?_ (F.push _) (fun p hp => ?_) f3)
  · have W := Walks.range (prog := prog) (w := w) hh s.heap.objs.size a c n
    have hlen : ((List.range n).map fun (i : Nat) => a + (i : Int) * c).length = n := by simp
    rw [hlen]
    refine { sub := W.sub, frame := W.frame, item := fun i s Q E hi st hQ => W.item i s Q E hi st fun v h' tk hv => hQ v h' tk ?_, done := W.done, self := W.self }
    obtain ⟨t, rfl⟩ := hv
    exact ⟨a + i * c, by simp [hi], t, rfl⟩
  · intro b hb; exact .inl (List.mem_singleton.mp hb)
  · intro i h e; exact ⟨_, e⟩
  · intro i target v s Q E e q; exact own_plain e rfl rfl (by decide) q
  · show Heap.get? _ _ = _
    rw [Heap.get?_push_size _ rfl]
    simp [hn]
  · exact ⟨Heap.get?_push_of_some _ (N p hp).1, (N p hp).2⟩
/-- append to a list of the ledger -/
theorem append_N {pre post : List (Addr × Obj)} {ra : Addr} {ys : List Value} {n : Nat} {v : Value} {Q : Value → Shared → Prop} (F : Fr h₀ L s.heap m) (N : News h₀ L s.heap (pre ++ (ra, W.listOf ys.toArray n) :: post))
    (h1 : ∀ p ∈ pre, p.1 ≠ ra) (h2 : ∀ p ∈ post, p.1 ≠ ra) (hsz : ys.length ≤ 16777216)
    (h : ∀ h', Fr h₀ L h' m → News h₀ L h' (pre ++ (ra, W.listOf (ys ++ [v]).toArray (n + 1)) :: post) → Q .none { s with heap := h' }) :
    wpAny (model prog w) A (call (.builtin "list.append") [.ref ra, v]) Q E s := by
  have hm := N (ra, W.listOf ys.toArray n) (List.mem_append_right _ (.head _))
  refine append_at (hsz := by show ys.toArray.size ≤ sizeLine; rw [List.size_toArray, sizeLine_eq]; exact hsz) hm.1 fun h' hs hl => ?_
  have F' : Fr h₀ L h' m := ⟨F.ns.sameBut hs (Ne.symm hm.2.1), fun b o e => hs.extBut b o (fun q => by rw [q, hm.2.2] at e; cases e) (F.keep b o e), F.above⟩
  refine h h' F' fun p hp => ?_
  rcases List.mem_append.mp hp with hp | hp
  · exact ⟨hs.extBut _ _ (h1 p hp) (N p (List.mem_append_left _ hp)).1, (N p (List.mem_append_left _ hp)).2⟩
  · rcases List.mem_cons.mp hp with rfl | hp
    · refine ⟨?_, hm.2⟩
      rw [hl]
      show some _ = some (W.listOf (ys ++ [v]).toArray (n + 1))
      rw [← List.push_toArray]
    · have q := N p (List.mem_append_right _ (List.mem_cons_of_mem _ hp))
      exact ⟨hs.extBut _ _ (h2 p hp) q.1, q.2⟩
theorem iter_listN {l : Addr} {n : Nat} {vs : List Value} {as : List α} {Q : Value → Shared → Prop} (hh : A.handled = none) (F : Fr h₀ L s.heap m) (N : News h₀ L s.heap news) (hm : (l, W.listOf vs.toArray n) ∈ news) (hr : Reps R as vs)
    (hQ : ∀ (I : Addr) (h' : Heap) St, I = s.heap.objs.size → Iter w A h₀ L [(l, W.listOf vs.toArray n)] R as I St → St 0 h' → Fr h₀ L h' m → News h₀ L h' news → (∀ p ∈ news, p.1 < I) → Q (.ref I) { s with heap := h' }) :
    wpAny (model prog w) A (pyIter (.ref l)) Q E s :=
  iter_list hh F N [(l, W.listOf vs.toArray n)] ⟨_, (N _ hm).1, rfl, n, rfl⟩ (.inr ⟨_, .head _⟩) hr hQ
end
end Mine
namespace Mine
section
variable {κ β : Type} [DecidableEq κ]
/-- an object that is a dict with these pairs -/
abbrev DObj {w : World} (knd : KeyKind prog w κ) (o : Obj) (kvs : List (κ × Value)) : Prop := Obj.IsDictOf knd o kvs
theorem DObj.dictOf {w : World} {knd : KeyKind prog w κ} {o : Obj} {kvs : List (κ × Value)} {h : Heap} {a : Addr} (x : DObj knd o kvs) (e : h.get? a = some o) : h.DictOf knd a kvs :=
  Heap.dictOf_iff.mpr ⟨o, e, x⟩
theorem DObj.of {w : World} {knd : KeyKind prog w κ} {kvs : List (κ × Value)} {h : Heap} {a : Addr} (x : h.DictOf knd a kvs) : ∃ o, h.get? a = some o ∧ DObj knd o kvs :=
  Heap.dictOf_iff.mp x
theorem DObj.nodup {w : World} {knd : KeyKind prog w κ} {o : Obj} {kvs : List (κ × Value)} (x : DObj knd o kvs) : (kvs.map (·.1)).Nodup := let ⟨_, _, _, _, _, _, hn⟩ := x; hn
/-- a store under a key -/
noncomputable def put (es : List (κ × β)) (k : κ) (b : β) : List (κ × β) := if es.any (fun e => e.1 = k) then es.map (fun e => if e.1 = k then (e.1, b) else e) else es ++ [(k, b)]
noncomputable def getK (es : List (κ × β)) (k : κ) : Option β := (es.find? fun e => e.1 = k).map (·.2)
inductive DReps (R : β → Value → Prop) : List (κ × β) → List (κ × Value) → Prop
  | nil : DReps R [] []
  | cons {k b v es kvs} : R b v → DReps R es kvs → DReps R ((k, b) :: es) ((k, v) :: kvs)
variable {R : β → Value → Prop} {es : List (κ × β)} {kvs : List (κ × Value)}
omit [DecidableEq κ] in
theorem DReps.keys (h : DReps R es kvs) : kvs.map (·.1) = es.map (·.1) := by induction h <;> simp [*]
omit [DecidableEq κ] in
theorem DReps.length (h : DReps R es kvs) : kvs.length = es.length := by induction h <;> simp [*]
theorem DReps.any (h : DReps R es kvs) (k : κ) : (kvs.any fun e => e.1 = k) = (es.any fun e => e.1 = k) := by induction h <;> simp [*]
theorem DReps.put (h : DReps R es kvs) {k : κ} {b : β} {v : Value} (r : R b v) : DReps R (Mine.put es k b) (stored kvs k v) := by
  unfold Mine.put stored
  rw [h.any k]
  split
  · rename _ = _ => q; clear q
    induction h with
    | nil => exact .nil
    | @cons k' b' v' es kvs hr _ ih =>
      simp only [List.map_cons]
      by_cases hk : k' = k
      · subst hk; simp only [if_true]; exact .cons r ih
      · simp only [hk, if_false]; exact .cons hr ih
  · rename ¬ _ => q; clear q
    induction h with
    | nil => exact .cons r .nil
    | cons hr _ ih => exact .cons hr ih
theorem DReps.get (h : DReps R es kvs) (k : κ) : (getK es k = none ∧ valueAt kvs k = none) ∨ ∃ b v, getK es k = some b ∧ valueAt kvs k = some v ∧ R b v := by
  induction h with
  | nil => exact .inl ⟨rfl, rfl⟩
  | @cons k' b' v' es kvs hr _ ih =>
    by_cases hk : k' = k
    · subst hk; exact .inr ⟨b', v', by simp [getK], by simp [valueAt], hr⟩
    · have e1 : getK ((k', b') :: es) k = getK es k := by simp [getK, hk]
      have e2 : valueAt ((k', v') :: kvs) k = valueAt kvs k := by simp [valueAt, hk]
      rw [e1, e2]; exact ih
end
section
variable {κ : Type} [DecidableEq κ] {w : World} {knd : KeyKind prog w κ} {A : Around} {E : Value → Shared → Prop} {s : Shared} {h₀ : Heap} {L : Addr} {m : Str → Option Value}
/-- a store into a dict of the ledger -/
theorem set_N {pre post : List (Addr × Obj)} {da : Addr} {o : Obj} {kvs : List (κ × Value)} {k : κ} {key v : Value} {Q : Unit → Shared → Prop} (F : Fr h₀ L s.heap m) (N : News h₀ L s.heap (pre ++ (da, o) :: post)) (hd : DObj knd o kvs)
    (hkey : knd.is k key = true) (h1 : ∀ p ∈ pre, p.1 ≠ da) (h2 : ∀ p ∈ post, p.1 ≠ da) (hsz : kvs.length ≤ 16777216)
    (h : ∀ h' o', Fr h₀ L h' m → News h₀ L h' (pre ++ (da, o') :: post) → DObj knd o' (stored kvs k v) → Q () { s with heap := h', toks := s.toks + 1 }) :
    wpAny (model prog w) A (setItem (.ref da) key v) Q E s := by
  have hm := N (da, o) (List.mem_append_right _ (.head _))
  refine wpAny_setItem_pairs hkey (DObj.dictOf hd hm.1) (fun h' hd' hs => ?_) (by rw [sizeLine_eq]; exact hsz)
  obtain ⟨o', ho', hd''⟩ := DObj.of hd'
  have F' : Fr h₀ L h' m := ⟨F.ns.sameBut hs (Ne.symm hm.2.1), fun b o e => hs.extBut b o (fun q => by rw [q, hm.2.2] at e; cases e) (F.keep b o e), F.above⟩
  refine h h' o' F' (fun p hp => ?_) hd''
  rcases List.mem_append.mp hp with hp | hp
  · exact ⟨hs.extBut _ _ (h1 p hp) (N p (List.mem_append_left _ hp)).1, (N p (List.mem_append_left _ hp)).2⟩
  · rcases List.mem_cons.mp hp with rfl | hp
    · exact ⟨ho', hm.2⟩
    · have q := N p (List.mem_append_right _ (List.mem_cons_of_mem _ hp))
      exact ⟨hs.extBut _ _ (h2 p hp) q.1, q.2⟩
end
theorem str_is {w : World} {x : Str} {t : Tok} : (PySem.strKind prog w).is x (.str x t) = true := by simp [PySem.strKind, Value.isStrOf]
theorem int_is {w : World} {x : Int} {t : Tok} : (PySem.intKind prog w).is x (.int x t) = true := by simp [PySem.intKind, Value.isInt]
theorem iter_tupleN {α : Type} {w : World} {A : Around} {E : Value → Shared → Prop} {s : Shared} {h₀ : Heap} {L : Addr} {m : Str → Option Value} {news : List (Addr × Obj)} {R : α → Value → Prop}
    {l : Addr} {n : Nat} {vs : List Value} {as : List α} {Q : Value → Shared → Prop} (hh : A.handled = none) (F : Fr h₀ L s.heap m) (N : News h₀ L s.heap news) (hm : (l, ({ cls := .type "tuple", data := .seq vs.toArray n } : Obj)) ∈ news) (hr : Reps R as vs)
    (hQ : ∀ (I : Addr) (h' : Heap) St, I = s.heap.objs.size → Iter w A h₀ L [(l, ({ cls := .type "tuple", data := .seq vs.toArray n } : Obj))] R as I St → St 0 h' → Fr h₀ L h' m → News h₀ L h' news → (∀ p ∈ news, p.1 < I) → Q (.ref I) { s with heap := h' }) :
    wpAny (model prog w) A (pyIter (.ref l)) Q E s :=
  iter_tuple hh F N [(l, ({ cls := .type "tuple", data := .seq vs.toArray n } : Obj))] ⟨_, (N _ hm).1, rfl, n, rfl⟩ (.inr ⟨_, .head _⟩) hr hQ
theorem fdiv_nat (v k : Nat) : (v : Int).fdiv (k : Int) = ((v / k : Nat) : Int) := by
  rw [Int.fdiv_eq_ediv_of_nonneg _ (by omega)]; rfl
theorem fmod_nat (v k : Nat) : (v : Int).fmod (k : Int) = ((v % k : Nat) : Int) := by
  rw [Int.fmod_eq_emod_of_nonneg _ (by omega)]; rfl
end Mine
namespace Mine
inductive TReps {α : Type} (Rel : α → Obj → Prop) : List α → List (Addr × Obj) → Prop
  | nil : TReps Rel [] []
  | cons {a : α} {p : Addr × Obj} {as : List α} {ps : List (Addr × Obj)} : Rel a p.2 → TReps Rel as ps → TReps Rel (a :: as) (p :: ps)
theorem TReps.snoc {α : Type} {Rel : α → Obj → Prop} {as : List α} {ps : List (Addr × Obj)} {a : α} {p : Addr × Obj} (h : TReps Rel as ps) (r : Rel a p.2) : TReps Rel (as ++ [a]) (ps ++ [p]) := by
  induction h with
  | nil => exact .cons r .nil
  | cons x y ih => exact .cons x ih
theorem TReps.length {α : Type} {Rel : α → Obj → Prop} {as : List α} {ps : List (Addr × Obj)} (h : TReps Rel as ps) : as.length = ps.length := by induction h <;> simp [*]
section
variable {α β : Type} {w : World} {A : Around} {E : Value → Shared → Prop} {s : Shared} {env : Env} {h₀ : Heap} {L I : Addr} {m : Str → Option Value} {news src : List (Addr × Obj)} {R : α → Value → Prop} {as : List α} {St : Nat → Heap → Prop}
def CEndT (s : Shared) (h₀ : Heap) (L : Addr) (m : Str → Option Value) (C I : Addr) (y : Value) (all : List (Addr × Obj)) (P : Obj → Prop) (s' : Shared) : Prop :=
  ∃ h' tk' T oT, s' = { s with heap := h', toks := tk' } ∧ y = .ref T ∧ Fr h₀ L h' m ∧ News h₀ L h' ((T, oT) :: all) ∧ C < T ∧ I < T ∧ P oT
theorem comp_genT (it : Iter w A h₀ L src R as I St) (hst : St 0 s.heap) (F : Fr h₀ L s.heap m) (N : News h₀ L s.heap news) (hoff : ∀ p ∈ news, p.1 ≠ I) (hsrc : ∀ p ∈ src, p ∈ news) (hsz : as.length ≤ sizeLine)
    (hcell : ∀ y ∈ scope.names, y.2 ≠ .cell) (hkind : scope.kind = .function) (hx : scope.names.lookup x = some .local)
    (Rel : α → Obj → Prop)
    (turn : ∀ a v oI C oC D oD m₂ tups h tk, a ∈ as → R a v → LCg.NsObj oC m₂ → m₂ x = some v → Fr h₀ L h m → News h₀ L h ((C, oC) :: (I, oI) :: (D, oD) :: (news ++ tups)) → C ≠ I → D ≠ I → C ≠ D → (∀ p ∈ news, p.1 < C) → (∀ p ∈ news, p.1 < D) → (∀ p ∈ tups, C < p.1) →
      wpAny (model prog w) A (eval elt (compEnvC scope cl C env)) (fun y s'' => Stop (CEndT s h₀ L m C I y ((C, oC) :: (I, oI) :: (D, oD) :: (news ++ tups)) (Rel a) s'')) (fun _ _ => False) { s with heap := h, toks := tk })
    {RR : Value → Addr → Result → Shared → Prop}
    (fin : ∀ D C h tk tups m', Fr h₀ L h m → News h₀ L h ((D, LCg.lst (tups.map fun p => .ref p.1)) :: (news ++ tups)) → (∀ p ∈ news, p.1 < D) → (∀ p ∈ tups, C < p.1) → D < C → TReps Rel as tups → h.Ns C m' → C ≠ L → D ≠ C → D ≠ L → (∀ p ∈ news, p.1 ≠ C) → h₀.get? C = none → RR (.ref D) C (.ok .next) { s with heap := h, toks := tk }) :
    wpAny (model prog w) A (newList []) (fun acc s₃ =>
      wpAny (model prog w) A (newFunctionEnv scope env.globals cl [] env.qual none .none (some env)) (fun cenv s₄ =>
        codeAny (model prog w) A (.compStart (.ListComp elt [⟨.Name x px, iter, [], 0⟩] scope pos) 0 (.ref I) acc { cenv with scope := relabel scope env }) (RR acc cenv.locals) s₄) E s₃) E s := by
  obtain ⟨fp, W, hfp⟩ := it.walks
  refine wpAny_newObj_type (wpAny_newFunctionEnv hcell (by intro y hy; simp at hy) (fun h₁ hns₁ hsb₁ => ?_) hkind)
  dsimp only at hns₁ hsb₁ ⊢
  generalize hH2 : s.heap.push { cls := .type "list", dict := none, data := .seq ([] : List Value).toArray } = H2 at hns₁ hsb₁ ⊢
  have hC : H2.objs.size = s.heap.objs.size + 1 := by rw [← hH2, Heap.size_push]
  have hDC : s.heap.objs.size ≠ H2.objs.size := by rw [hC]; exact Nat.ne_of_lt (Nat.lt_succ_self _)
  have below : ∀ b, b < s.heap.objs.size → b ≠ H2.objs.size ∧ b ≠ s.heap.objs.size := fun b hb => ⟨by rw [hC]; exact Nat.ne_of_lt (Nat.lt_succ_of_lt hb), Nat.ne_of_lt hb⟩
  have hIlt : I < s.heap.objs.size := by obtain ⟨o, ho⟩ := it.live _ _ hst; exact Heap.lt_size ho
  have old : ∀ b o, s.heap.get? b = some o → h₁.get? b = some o := fun b o e => hsb₁.extBut b o (below b (Heap.lt_size e)).1 (Heap.get?_push_of_some _ (hH2 ▸ Heap.get?_push_of_some _ e))
  have hacc : h₁.get? s.heap.objs.size = some (LCg.lst []) := hsb₁.extBut _ _ hDC (Heap.get?_push_of_some _ (hH2 ▸ Heap.get?_push_size _ rfl))
  have hst₁ : St 0 h₁ := W.frame _ _ _ hst fun b _ o e => old b o e
  have fresh₀ : ∀ a, s.heap.objs.size ≤ a → h₀.get? a = none := fun a ha => by
    cases e : h₀.get? a with
    | none => rfl
    | some o' => exact absurd (Heap.lt_size (F.keep a o' e)) (Nat.not_lt.mpr ha)
  have hD₀ : h₀.get? s.heap.objs.size = none := fresh₀ _ (Nat.le_refl _)
  have hC₀ : h₀.get? H2.objs.size = none := fresh₀ _ (by rw [hC]; exact Nat.le_succ _)
  have hLlt : L < s.heap.objs.size := F.ns.lt
  have hDL : s.heap.objs.size ≠ L := Ne.symm (below L hLlt).2
  have hCL : H2.objs.size ≠ L := Ne.symm (below L hLlt).1
  have hCI : H2.objs.size ≠ I := Ne.symm (below I hIlt).1
  have hDI : s.heap.objs.size ≠ I := Ne.symm (below I hIlt).2
  have nlt : ∀ p ∈ news, p.1 < s.heap.objs.size := fun p hp => Heap.lt_size (N p hp).1
  have loop : ∀ s₃ : Shared, s₃ = { s with heap := h₁, toks := s.toks + ([] : List (Str × Value)).length } →
      codeAny (model prog w) A (.compLoop (.ListComp elt [⟨.Name x px, iter, [], 0⟩] scope pos) 0 (.ref I) (.ref s.heap.objs.size) (compEnvC scope cl H2.objs.size env))
        (RR (.ref s.heap.objs.size) H2.objs.size) s₃ := by
    rintro s₃ rfl
    refine codeAny_compLoop_tests
      (fun k s' => ∃ h' tk i tups m', s' = { s with heap := h', toks := tk } ∧ i ≤ as.length ∧ k = as.length + 1 - i ∧ St i h' ∧ Fr h₀ L h' m ∧ h'.Ns H2.objs.size m' ∧ News h₀ L h' ((s.heap.objs.size, LCg.lst (tups.map fun p => .ref p.1)) :: (news ++ tups)) ∧
        (∀ p ∈ tups, H2.objs.size < p.1 ∧ I < p.1) ∧ TReps Rel (as.take i) tups) ?_ (as.length + 1)
      ⟨h₁, _, 0, [], _, rfl, Nat.zero_le _, rfl, hst₁, Fr.grow F old, hns₁, fun p hp => ?_, (fun p hp => nomatch hp), TReps.nil⟩
    · rintro k s' ⟨h', tk, i, tups, m', rfl, hi, rfl, hst', F', hn', N', hup, hR⟩
      by_cases hlt : i < as.length
      · refine W.item i _ _ _ hlt hst' fun v h₂ tk₂ hPv hst₂ hk₂ => ?_
        obtain ⟨a, ha, hRa⟩ := hPv
        refine wpAny_assign_Name (wpAny_storeName_local (lookup_relabel_local hx) (hn'.at' fun o e => hk₂ _ o (by simpa using hCI) e) (fun h₃ hn₃ hs₃ => ?_) (by simp [compEnvC, relabel, hkind]))
        have up : ∀ b o, b ≠ I → b ≠ H2.objs.size → h'.get? b = some o → h₃.get? b = some o := fun b o h1 h2 e => hs₃.extBut b o h2 (hk₂ b o (by simpa using h1) e)
        have inN : ∀ p ∈ src, p ∈ (s.heap.objs.size, LCg.lst (tups.map fun p => Value.ref p.1)) :: (news ++ tups) := fun p hp => List.mem_cons_of_mem _ (List.mem_append_left _ (hsrc p hp))
        have hst₃ : St (i + 1) h₃ := by
          refine it.framed hst₂ (fun o e => hs₃.extBut I o (Ne.symm hCI) e) (fun b o e => hk₂ b o (fun hm => ?_) (F'.keep b o e)) (fun b o e => up b o (fun q => ?_) (fun q => ?_) (F'.keep b o e)) (fun p hp => hk₂ _ _ (by simpa using hoff p (hsrc p hp)) (N' p (inN p hp)).1)
            (fun p hp => up _ _ (hoff p (hsrc p hp)) (below _ (nlt p (hsrc p hp))).1 (N' p (inN p hp)).1)
          · rw [List.mem_singleton.mp hm, it.fresh] at e; cases e
          · rw [q, it.fresh] at e; cases e
          · rw [q, hC₀] at e; cases e
        obtain ⟨oI, heI⟩ := it.live _ _ hst₃
        obtain ⟨oC, heC, hoC⟩ := LCg.ns_obj hn₃
        have F₃ : Fr h₀ L h₃ m := ⟨F'.ns.at' fun o e => up L o it.neL (Ne.symm hCL) e, fun b o e => up b o (fun q => by rw [q, it.fresh] at e; cases e) (fun q => by rw [q, hC₀] at e; cases e) (F'.keep b o e), F'.above⟩
        have N₃ : News h₀ L h₃ ((H2.objs.size, oC) :: (I, oI) :: (s.heap.objs.size, LCg.lst (tups.map fun p => Value.ref p.1)) :: (news ++ tups)) := by
          intro p hp
          rcases List.mem_cons.mp hp with rfl | hp
          · exact ⟨heC, hCL, hC₀⟩
          rcases List.mem_cons.mp hp with rfl | hp
          · exact ⟨heI, Ne.symm it.neL, it.fresh⟩
          · have hp1 : p.1 ≠ I ∧ p.1 ≠ H2.objs.size := by
              rcases List.mem_cons.mp hp with rfl | hp
              · exact ⟨hDI, hDC⟩
              rcases List.mem_append.mp hp with hp | hp
              · exact ⟨hoff p hp, (below _ (nlt p hp)).1⟩
              · exact ⟨Nat.ne_of_gt (hup p hp).2, Nat.ne_of_gt (hup p hp).1⟩
            exact ⟨up _ _ hp1.1 hp1.2 (N' p hp).1, (N' p hp).2⟩
        have take : as.take (i + 1) = as.take i ++ [a] := by rw [List.take_add_one, ha]; rfl
        refine wpAny_tests_nil ?_
        simp only [if_true]
        refine wpAny_mono (turn a v oI H2.objs.size oC s.heap.objs.size (LCg.lst (tups.map fun p => Value.ref p.1)) _ tups h₃ (tk₂ + 1) (List.mem_of_getElem? ha) hRa hoC (by simp) F₃ N₃ hCI hDI (Ne.symm hDC) (fun p hp => Nat.lt_trans (nlt p hp) (by rw [hC]; exact Nat.lt_succ_self _)) nlt (fun p hp => (hup p hp).1)) (fun y s₅ h₅ => ?_) (fun _ _ x => x.elim)
        obtain ⟨h4, tk4, T, oT, rfl, rfl, F4, N4, lC, lI, hrel⟩ := h₅
        have back : St (i + 1) h4 := by
          refine it.framed hst₃ (fun o e => ?_) F₃.keep F4.keep (fun p hp => (N₃ p (List.mem_cons_of_mem _ (List.mem_cons_of_mem _ (inN p hp)))).1) (fun p hp => (N4 p (List.mem_cons_of_mem _ (List.mem_cons_of_mem _ (List.mem_cons_of_mem _ (inN p hp))))).1)
          rw [heI] at e; cases e
          exact (N4 (I, oI) (List.mem_cons_of_mem _ (List.mem_cons_of_mem _ List.mem_cons_self))).1
        have hlist : h4.get? s.heap.objs.size = some (LCg.lst (tups.map fun p => Value.ref p.1)) := (N4 (s.heap.objs.size, _) (List.mem_cons_of_mem _ (List.mem_cons_of_mem _ (List.mem_cons_of_mem _ List.mem_cons_self)))).1
        have hyl : (tups.map fun p => Value.ref p.1).length ≤ sizeLine := by
          have h1 := hR.length
          rw [List.length_take] at h1
          rw [List.length_map]
          omega
        have hDT : s.heap.objs.size < T := Nat.lt_trans (by rw [hC]; exact Nat.lt_succ_self _) lC
        refine LCg_append hlist hyl fun h5 hl5 hs5 => ?_
        refine ⟨as.length + 1 - (i + 1), by omega, h5, tk4, i + 1, tups ++ [(T, oT)], _, rfl, hlt, rfl, ?_, ⟨F4.ns.sameBut hs5 (Ne.symm hDL), fun b o e => hs5.extBut b o (fun q => by rw [q, hD₀] at e; cases e) (F4.keep b o e), F4.above⟩, (hoC.ns (N4 _ (List.mem_cons_of_mem _ List.mem_cons_self)).1).sameBut hs5 (Ne.symm hDC), ?_, ?_, ?_⟩
        · refine it.framed back (fun o e => hs5.extBut I o (Ne.symm hDI) e) F4.keep (fun b o e => hs5.extBut b o (fun q => by rw [q, hD₀] at e; cases e) (F4.keep b o e)) (fun p hp => (N4 p (List.mem_cons_of_mem _ (List.mem_cons_of_mem _ (List.mem_cons_of_mem _ (inN p hp))))).1)
            (fun p hp => hs5.extBut _ _ (below _ (nlt p (hsrc p hp))).2 (N4 p (List.mem_cons_of_mem _ (List.mem_cons_of_mem _ (List.mem_cons_of_mem _ (inN p hp))))).1)
        · intro p hp
          rcases List.mem_cons.mp hp with rfl | hp
          · refine ⟨?_, hDL, hD₀⟩
            show h5.get? s.heap.objs.size = _
            rw [hl5, List.map_append]; rfl
          rcases List.mem_append.mp hp with hp | hp
          · exact ⟨hs5.extBut _ _ (below _ (nlt p hp)).2 (N4 p (List.mem_cons_of_mem _ (List.mem_cons_of_mem _ (List.mem_cons_of_mem _ (List.mem_cons_of_mem _ (List.mem_append_left _ hp)))))).1, (N p hp).2⟩
          rcases List.mem_append.mp hp with hp | hp
          · have q := N4 p (List.mem_cons_of_mem _ (List.mem_cons_of_mem _ (List.mem_cons_of_mem _ (List.mem_cons_of_mem _ (List.mem_append_right _ hp)))))
            exact ⟨hs5.extBut _ _ (Nat.ne_of_gt (Nat.lt_trans (by rw [hC]; exact Nat.lt_succ_self _) (hup p hp).1)) q.1, q.2⟩
          · have q := N4 (T, oT) List.mem_cons_self
            rw [List.mem_singleton.mp hp]
            exact ⟨hs5.extBut _ _ (Nat.ne_of_gt hDT) q.1, q.2⟩
        · intro p hp
          rcases List.mem_append.mp hp with hp | hp
          · exact hup p hp
          · rw [List.mem_singleton.mp hp]; exact ⟨lC, lI⟩
        · rw [take]; exact hR.snoc hrel
      · have hin : i = as.length := by omega
        subst hin
        refine W.done _ _ _ hst' fun h₂ tk₂ hk₂ => ?_
        rw [List.take_length] at hR
        refine fin _ _ h₂ tk₂ tups m' (fr_but F' hk₂ it.neL it.fresh) (news_but N' hk₂ fun p hp => ?_) nlt (fun p hp => (hup p hp).1) (by rw [hC]; exact Nat.lt_succ_self _) hR (hn'.at' fun o e => hk₂ _ o (by simpa using hCI) e) hCL hDC hDL (fun p hp => (below _ (nlt p hp)).1) hC₀
        rcases List.mem_cons.mp hp with rfl | hp
        · exact hDI
        rcases List.mem_append.mp hp with hp | hp
        · exact hoff p hp
        · exact Nat.ne_of_gt (hup p hp).2
    · rcases List.mem_cons.mp hp with rfl | hp
      · exact ⟨hacc, hDL, hD₀⟩
      · rw [List.append_nil] at hp
        exact ⟨old _ _ (N p hp).1, (N p hp).2⟩
  exact codeAny_compStart_list (loop _ rfl) (W.self 0 _ _ _ hst₁ (loop _ rfl))
theorem comp_blockT (it : Iter w A h₀ L src R as I St) (hst : St 0 s.heap) (F : Fr h₀ L s.heap m) (N : News h₀ L s.heap news) (hoff : ∀ p ∈ news, p.1 ≠ I) (hsrc : ∀ p ∈ src, p ∈ news) (hsz : as.length ≤ sizeLine)
    (hcell : ∀ y ∈ scope.names, y.2 ≠ .cell) (hkind : scope.kind = .function) (hx : scope.names.lookup x = some .local)
    (Rel : α → Obj → Prop)
    (turn : ∀ a v oI C oC D oD m₂ tups h tk, a ∈ as → R a v → LCg.NsObj oC m₂ → m₂ x = some v → Fr h₀ L h m → News h₀ L h ((C, oC) :: (I, oI) :: (D, oD) :: (news ++ tups)) → C ≠ I → D ≠ I → C ≠ D → (∀ p ∈ news, p.1 < C) → (∀ p ∈ news, p.1 < D) → (∀ p ∈ tups, C < p.1) →
      wpAny (model prog w) A (eval elt (compEnvC scope cl C env)) (fun y s'' => Stop (CEndT s h₀ L m C I y ((C, oC) :: (I, oI) :: (D, oD) :: (news ++ tups)) (Rel a) s'')) (fun _ _ => False) { s with heap := h, toks := tk })
    (fin : ∀ D h tk tups, Fr h₀ L h m → News h₀ L h ((D, LCg.lst (tups.map fun p => .ref p.1)) :: (news ++ tups)) → (∀ p ∈ news, p.1 < D) → (∀ p ∈ tups, D < p.1) → TReps Rel as tups → Q (.ref D) { s with heap := h, toks := tk }) :
    wpAny (model prog w) A (newList []) (fun acc s₃ =>
      wpAny (model prog w) A (newFunctionEnv scope env.globals cl [] env.qual none .none (some env)) (fun cenv s₄ =>
        codeAny (model prog w) A (.compStart (.ListComp elt [⟨.Name x px, iter, [], 0⟩] scope pos) 0 (.ref I) acc { cenv with scope := relabel scope env }) (compPost (model prog w) A E none Q acc cenv.locals) s₄) E s₃) E s := by
  refine comp_genT (RR := compPost (model prog w) A E none Q) it hst F N hoff hsrc hsz hcell hkind hx Rel turn fun D C h tk tups m' F' N' lt hup hDC' hR hn hCL hDC hDL hnC hC₀ => ⟨m', hn, fun h' hs => ?_⟩
  refine fin D h' tk tups ⟨F'.ns.sameBut hs (Ne.symm hCL), fun b o e => hs.extBut b o (fun q => by rw [q, hC₀] at e; cases e) (F'.keep b o e), F'.above⟩ (fun p hp => ⟨hs.extBut _ _ ?_ (N' p hp).1, (N' p hp).2⟩) lt (fun p hp => Nat.lt_trans hDC' (hup p hp)) hR
  rcases List.mem_cons.mp hp with rfl | hp
  · exact hDC
  rcases List.mem_append.mp hp with hp | hp
  · exact hnC p hp
  · exact Nat.ne_of_gt (hup p hp)
end
end Mine
namespace Mine
section
variable {κ : Type} [DecidableEq κ] {w : World} {knd : KeyKind prog w κ} {A : Around} {E : Value → Shared → Prop} {s : Shared} {h₀ : Heap} {L d v : Addr} {m : Str → Option Value} {news : List (Addr × Obj)} {od : Obj} {kvs : List (κ × Value)} {Q : Value → Shared → Prop}
noncomputable def pairObj (key x : Value) : Obj := { cls := .type "tuple", data := .seq #[key, x] }
noncomputable def viewObj (d : Addr) : Obj := { cls := .type "dict_items", data := .fields #[.ref d] }
def isPairR (knd : KeyKind prog w κ) (p : κ × Value) (o : Obj) : Prop := ∃ key, knd.is p.1 key = true ∧ o = pairObj key p.2
theorem treps_of_get {h : Heap} : ∀ (kvs : List (κ × Value)) (as : List Addr), as.length = kvs.length → (∀ (j : Nat) (a : Addr), as[j]? = some a → ∃ key k x, kvs[j]? = some (k, x) ∧ knd.is k key = true ∧ h.get? a = some (pairObj key x)) →
    ∃ tups : List (Addr × Obj), tups.map (·.1) = as ∧ (∀ p ∈ tups, h.get? p.1 = some p.2) ∧ TReps (isPairR knd) kvs tups
  | [], [], _, _ => ⟨[], rfl, (fun _ hp => nomatch hp), TReps.nil⟩
  | [], _ :: _, e, _ => by simp at e
  | _ :: _, [], e, _ => by simp at e
  | (k, x) :: r, a :: as, e, H => by
    obtain ⟨tups, h1, h2, h3⟩ := treps_of_get r as (by simpa using e) (fun j b hj => by
      obtain ⟨key, k', x', e1, e2, e3⟩ := H (j + 1) b (by simpa using hj)
      exact ⟨key, k', x', by simpa using e1, e2, e3⟩)
    obtain ⟨key, k', x', e1, e2, e3⟩ := H 0 a rfl
    simp only [List.getElem?_cons_zero, Option.some.injEq, Prod.mk.injEq] at e1
    obtain ⟨rfl, rfl⟩ := e1
    refine ⟨(a, pairObj key x) :: tups, by simp [h1], ?_, .cons ⟨key, e2, rfl⟩ h3⟩
    intro p hp
    rcases List.mem_cons.mp hp with rfl | hp
    · exact e3
    · exact h2 p hp
theorem list_itemsN (hh : A.handled = none) (F : Fr h₀ L s.heap m) (N : News h₀ L s.heap news) (hvw : (v, viewObj d) ∈ news) (hmd : (d, od) ∈ news) (hod : DObj knd od kvs) (hn : kvs.length ≤ 16777216)
    (h : ∀ B h' tk c tups, (∀ q ∈ news, q.1 < B) → Fr h₀ L h' m → News h₀ L h' ((B, W.listOf (tups.map fun p => Value.ref p.1).toArray c) :: (news ++ tups)) → (∀ p ∈ tups, B < p.1) → TReps (isPairR knd) kvs tups → Q (.ref B) { s with heap := h', toks := tk }) :
    wpAny (model prog w) A (call (.type "list") [.ref v]) Q E s := by
  obtain ⟨ep, hat⟩ := KdkAt.of hod
  refine kdx_call (knd := knd) (kvs := kvs) (ep := ep) hh ⟨_, (N _ hvw).1, rfl, rfl⟩ (hat.dictAt (N _ hmd).1) (by rw [sizeLine_eq]; exact hn) fun h' tk acc c as hk hS hl hG hacc => ?_
  obtain ⟨tups, h1, h2, h3⟩ := treps_of_get (knd := knd) (h := h') kvs as hl hG.pairs
  have ea : acc = (tups.map fun p => Value.ref p.1).toArray := by
    apply Array.toList_inj.mp
    rw [hacc, ← h1, List.map_map]; simp
  have hab : ∀ p ∈ tups, s.heap.objs.size < p.1 := fun p hp => hG.above _ (by rw [← h1]; exact List.mem_map_of_mem hp)
  refine h s.heap.objs.size h' tk c tups (fun q hq => Heap.lt_size (N q hq).1) (F.keeps hk) (fun q hq => ?_) hab h3
  rcases List.mem_cons.mp hq with rfl | hq
  · exact ⟨by rw [← ea]; exact hS, kdx_fresh F (Nat.le_refl _)⟩
  rcases List.mem_append.mp hq with hq | hq
  · exact ⟨hk _ _ (N q hq).1, (N q hq).2⟩
  · exact ⟨h2 q hq, kdx_fresh F (Nat.le_of_lt (hab q hq))⟩
end
end Mine
namespace Mine
theorem isList_keeps {h h' : Heap} {a : Addr} {vs : Array Value} (k : Keeps h h') (x : h.IsList a vs) : h'.IsList a vs := by
  obtain ⟨o, ho, r⟩ := x
  exact ⟨o, k _ _ ho, r⟩
theorem News.add {h h1 h2 : Heap} {L a : Addr} {o : Obj} {m : Str → Option Value} {news : List (Addr × Obj)} (F : Fr h L h1 m) (N : News h L h2 news) (e : h2.get? a = some o) (hn : h1.get? a = none) : News h L h2 ((a, o) :: news) := by
  intro p hp
  rcases List.mem_cons.mp hp with rfl | hp
  · refine ⟨e, ?_, ?_⟩
    · intro q
      obtain ⟨oL, _, _, hL, _⟩ := F.ns
      have q' : a = L := q
      rw [← q', hn] at hL; cases hL
    · show h.get? a = none
      cases q : h.get? a with
      | none => rfl
      | some o' => have := F.keep _ _ q; rw [hn] at this; cases this
  · exact N p hp
theorem ne_of_new {h : Heap} {a b : Addr} {o : Obj} (hn : h.get? a = none) (hb : h.get? b = some o) : a ≠ b := by rintro rfl; rw [hn] at hb; cases hb
theorem pickN {h h' : Heap} {L : Addr} {a : Addr × Obj} {A B : List (Addr × Obj)} (N : News h L h' B) (m : a ∈ B) (r : News h L h' A) : News h L h' (a :: A) := fun p hp => by
  rcases List.mem_cons.mp hp with rfl | hp
  · exact N _ m
  · exact r p hp
end Mine
namespace Mine
/-- data that two lists may be compared by -/
def good (d : PyData) : Prop := d.canLay0 = true ∧ d.depth ≤ 20 ∧ PyData.eqv d d = true
theorem good_all : ∀ ds : List PyData, (∀ d ∈ ds, good d) → PyData.canLayAll0 ds = true ∧ PyData.depthAll ds ≤ 20 ∧ PyData.eqvAll ds ds = true
  | [], _ => by simp [PyData.canLayAll0, PyData.depthAll, PyData.eqvAll]
  | d :: r, h => by
    obtain ⟨h1, h2, h3⟩ := h d (.head _)
    obtain ⟨i1, i2, i3⟩ := good_all r fun e he => h e (.tail _ he)
    simp only [PyData.canLayAll0, PyData.depthAll, PyData.eqvAll, h1, h3, i1, i3, Bool.and_self, true_and, and_true]
    omega
theorem good_list {ds : List PyData} (h : ∀ d ∈ ds, good d) : SeqAt.shaped (.list ds) = true ∧ PyData.eqv (.list ds) (.list ds) = true := by
  obtain ⟨h1, h2, h3⟩ := good_all ds h
  refine ⟨?_, ?_⟩
  · simp only [SeqAt.shaped, PyData.canLay0, PyData.depth, h1, Bool.true_and]
    exact decide_eq_true (by omega)
  · simp only [PyData.eqv, h3]
theorem good_str {l : List Nat} (h : ∀ c ∈ l, c < 128) : good (.str (S l)) := by
  refine ⟨?_, ?_, ?_⟩
  · simp [PyData.canLay0, PyData.strOk]
    exact fun c hc => Nat.lt_of_lt_of_le (h c hc) (by decide)
  · simp [PyData.depth]
  · simp [PyData.eqv]
theorem good_int (i : Int) : good (.int i) := by simp [good, PyData.canLay0, PyData.depth, PyData.eqv]
theorem good_pair {x y : List Nat} (hx : ∀ c ∈ x, c < 128) (hy : ∀ c ∈ y, c < 128) : good (.tuple [.str (S x), .str (S y)]) := by
  obtain ⟨a1, a2, a3⟩ := good_str hx
  obtain ⟨b1, b2, b3⟩ := good_str hy
  refine ⟨?_, ?_, ?_⟩
  · simp only [PyData.canLay0, PyData.canLayAll0] at *
    rw [a1, b1]; rfl
  · simp only [PyData.depth, PyData.depthAll]; omega
  · simp only [PyData.eqv, PyData.eqvAll] at *
    rw [a3, b3]; rfl
theorem readsAll_strs {h : Heap} : ∀ {xs : List Str} {ys : List Value}, Reps isStrR xs ys → ReadsAll h ys (xs.map .str) []
  | _, _, .nil => .nil
  | _, _, .cons ⟨t, e⟩ r => by
    subst e
    simpa using ReadsAll.cons (Reads.str (h := h) _ t) (readsAll_strs r)
theorem readsAll_ints {h : Heap} : ∀ {xs : List Int} {ys : List Value}, Reps isIntR xs ys → ReadsAll h ys (xs.map .int) []
  | _, _, .nil => .nil
  | _, _, .cons ⟨t, e⟩ r => by
    subst e
    simpa using ReadsAll.cons (Reads.int (h := h) _ t) (readsAll_ints r)
theorem ne_same {w : World} {A : Around} {E : Value → Shared → Prop} {s : Shared} {Q : Value → Shared → Prop} {a b : Addr} {ys zs : List Value} {ds : List PyData} {as bs : List Addr}
    (ha : s.heap.IsList a ys.toArray) (hb : s.heap.IsList b zs.toArray) (ra : ReadsAll s.heap ys ds as) (rb : ReadsAll s.heap zs ds bs) (hg : ∀ d ∈ ds, good d) (hu : A.units + 64 < cLine)
    (h : Q (.bool false) s) : wpAny (model prog w) A (compareOp .NotEq (.ref a) (.ref b)) Q E s := by
  obtain ⟨g1, g2⟩ := good_list hg
  obtain ⟨oa, a1, a2, na, a3⟩ := ha
  obtain ⟨ob, b1, b2, nb, b3⟩ := hb
  refine ne_dataH (Reads.list a1 a2 a3 (by simpa using ra)) (Reads.list b1 b2 b3 (by simpa using rb)) g1 g1 hu ?_
  rw [g2]; exact h
end Mine
namespace Mine
open Builtin
theorem forIn_steps {σ : Type} (f : Nat → σ → Sem (ForInStep σ)) (st : Nat → σ) : ∀ (m k : Nat), (∀ i x, k ≤ i → i < k + m → f x (st i) = pure (.yield (st (i + 1)))) →
    forIn (List.range' k m) (st k) f = pure (st (k + m))
  | 0, _, _ => rfl
  | m + 1, k, h => by
    rw [List.range'_succ, List.forIn_cons, h k k (Nat.le_refl _) (by omega), pure_bind]
    have := forIn_steps f st m (k + 1) (fun i x h1 h2 => h i x (by omega) (by omega))
    rw [show k + 1 + m = k + (m + 1) from by omega] at this
    exact this
theorem find_ascii (b : Array UInt8) (i : Nat) (h : i < b.size) (hb : b[i].toNat < 128) : _codecs.utf8Decoder.find true b i = .text [b[i].toNat] (i + 1) := by
  have e : Bytes.utf8At b i = (.char b[i].toNat, i + 1) := by
    unfold Bytes.utf8At
    have : b.getD i 0 = b[i] := by simp [Array.getD, h]
    simp only [this]
    rw [if_pos hb]
  unfold _codecs.utf8Decoder
  dsimp only
  rw [e]; rfl
theorem run_ascii (id : String) (b : Array UInt8) (hb : ∀ i (h : i < b.size), b[i].toNat < 128) (hs : b.size ≤ sizeLine) :
    _codecs.runDecoder id _codecs.utf8Decoder none true b 0 [] = pure (b.map (·.toNat), b.size) := by
  unfold _codecs.runDecoder
  simp only [Std.Legacy.Range.forIn_eq_forIn_range', Std.Legacy.Range.size]
  rw [show (b.size - 0 + 1 - 1) / 1 = b.size from by simp]
  have e0 : ((0 : Nat), (#[] : Array Nat), ({} : _codecs.Faults)) = (fun i => (i, (b.map (·.toNat)).extract 0 i, ({} : _codecs.Faults))) 0 := by simp
  rw [e0, forIn_steps _ (fun i => (i, (b.map (·.toNat)).extract 0 i, ({} : _codecs.Faults))) b.size 0]
  · have : (b.map (·.toNat)).extract 0 b.size = b.map (·.toNat) := by
      have := Array.extract_size (xs := b.map (·.toNat))
      simpa using this
    simp [this]
  · intro i x _ hi
    have hi' : i < b.size := by omega
    dsimp only
    rw [if_neg (by simp; omega), if_neg (by omega), find_ascii b i hi' (hb i hi')]
    dsimp only
    congr 3
    have := Array.extract_append_extract (as := b.map (·.toNat)) (i := 0) (j := i) (k := i + 1)
    rw [Nat.min_eq_left (by omega), Nat.max_eq_right (by omega)] at this
    rw [← this]
    congr 2
    apply Array.ext
    · simp; omega
    · intro j h1 h2
      simp at h1 h2
      have : j = 0 := by omega
      subst this
      simp
theorem decode_empty_eq {t : Tok} : «bytes.decode» ⟨[.bytes #[] t], []⟩ = (rule "bytes.decode.empty" >>= fun _ => retStr Str.empty) := by kernel_rfl
/-- the text of figures -/
noncomputable def letS (l : List Nat) : List Nat := l.map (65 + ·)
theorem figs_lt : ∀ n, ∀ d ∈ figs n, d < 16 := by
  intro n
  induction n using Nat.strongRecOn with
  | _ n ih =>
    intro d hd
    by_cases h : n = 0
    · subst h; rw [figs_zero] at hd; cases hd
    · rw [figs_pos h] at hd
      rcases List.mem_append.mp hd with h1 | h1
      · exact ih (n / 16) (by omega) d h1
      · simp at h1; omega
theorem meets_decode_empty {t : Tok} : Meets («bytes.decode» ⟨[.bytes #[] t], []⟩) (fun _ R s => ∀ t' k, R (.ok (.ret (.str Str.empty t'))) { s with toks := k }) := by
  refine .of_wp fun prog w A R s h => ?_
  rw [decode_empty_eq]
  refine wpAny_bind (wpAny_rule ?_)
  unfold retStr
  exact wpAny_bind (wpAny_mkStr (wpAny_pure ⟨_, rfl, h _ _⟩) (by decide))
theorem decode_letB {w : World} {A : Around} {E : Value → Shared → Prop} {s : Shared} {Q : Value → Shared → Prop} {t : Tok} {l : List Nat} (hl : ∀ d ∈ l, d < 16) (hn : l.length ≤ 64)
    (h : ∀ t' k, Q (.str ⟨(letS l).toArray⟩ t') { s with toks := k }) : wpAny (model prog w) A (call (.builtin "bytes.decode") [.bytes (letB l) t]) Q E s := by
  cases l with
  | nil => exact call_meets FB.slot_bytes_decode (typeIs_bytes _ _ _) FB.entry_bytes_decode (FB.args_bytes_decode_1 _) meets_decode_empty h
  | cons d ds =>
    have e : letB (d :: ds) = (UInt8.ofNat (65 + d) :: ds.map fun d => UInt8.ofNat (65 + d)).toArray := rfl
    have hx : (⟨(letS (d :: ds)).toArray⟩ : Str).cps = (letB (d :: ds)).map (·.toNat) := by
      show (letS (d :: ds)).toArray = _
      unfold letB letS
      rw [List.map_toArray, List.map_map]
      congr 1
      apply List.map_congr_left
      intro x hx
      have := hl x hx
      simp [UInt8.toNat_ofNat']
      omega
    rw [e]
    refine KBd.decode (x := ⟨(letS (d :: ds)).toArray⟩) (n := (letB (d :: ds)).size) (fun id => ?_) ?_ h
    · rw [← e, hx]
      refine run_ascii id _ (fun i hi => ?_) ?_
      · simp only [letB, List.getElem_toArray, List.getElem_map]
        have hi' : i < (d :: ds).length := by simpa [letB] using hi
        have := hl _ (List.getElem_mem hi')
        simp [UInt8.toNat_ofNat']
        omega
      · simp [letB, sizeLine_eq] at *; omega
    · simp [Str.length, letS] at *; omega
end Mine
namespace Mine
theorem resetF2 : True := by
  w_top off
  trivial
local macro_rules | `(tactic| walk_at "eval ListComp") => `(tactic| k_dflt (refine comp_open ?_))
/-- the pieces of a path: so many signs each, a slash ahead of each -/
noncomputable def piece (st : Nat) (l : List Nat) (i : Nat) : List Nat := 47 :: (l.drop (i * st)).take st
noncomputable def hostL (m : Bool) : List Nat := if m then [109] else [112]
noncomputable def stepOf (m : Bool) : Nat := if m then 2 else 1
noncomputable def pathL (m : Bool) (n slash : Nat) : List Nat :=
  hostL m ++ ((List.range (((figs n).length + stepOf m - 1) / stepOf m)).map (piece (stepOf m) (letS (figs n)))).flatten ++ List.replicate slash 47
theorem mul_slash (k : Nat) (h : k ≤ 1) : Txt.mul (Str.ofString "/") (k : Int) = S (List.replicate k 47) := by
  have : ∀ k : Nat, k < 2 → Txt.mul (Str.ofString "/") (k : Int) = S (List.replicate k 47) := by decide +kernel
  exact this k (by omega)
theorem isStrR_of {x y : Str} {t : Tok} (e : x = y) : isStrR y (.str x t) := ⟨t, by rw [e]⟩
theorem pieces_eq (st : Nat) (hst : 0 < st) (l : List Nat) (c : Nat) : (List.map (fun (i : Nat) => (0 : Int) + (i : Int) * (st : Int)) (List.range c)).filterMap (fun k => some (S (piece st l (k.toNat / st)))) = ((List.range c).map (piece st l)).map S := by
  rw [List.filterMap_map, List.map_map]
  have : ((fun k : Int => some (S (piece st l (k.toNat / st)))) ∘ fun (i : Nat) => (0 : Int) + (i : Int) * (st : Int)) = fun i => some ((S ∘ piece st l) i) := by
    funext i
    have e : ((0 : Int) + (i : Int) * (st : Int)).toNat = i * st := by rw [Int.zero_add, ← Int.natCast_mul]; rfl
    simp only [Function.comp, e, Nat.mul_div_cancel _ hst]
  rw [this]
  induction List.range c with
  | nil => rfl
  | cons a r ih => simp
theorem piece_len (st : Nat) (hst : st ≤ 2) (l : List Nat) (c : Nat) : ∀ x ∈ (List.range c).map (piece st l), x.length ≤ 3 := by
  intro x hx
  obtain ⟨i, _, rfl⟩ := List.mem_map.mp hx
  simp [piece]; omega
theorem pieces_sum (st : Nat) (hst : st ≤ 2) (l : List Nat) (c : Nat) (hc : c ≤ 64) : ((((List.range c).map (piece st l)).map S).map fun x => x.length + (Str.ofString "").length).sum ≤ 16777216 := by
  refine Nat.le_trans (sum_le 3 _ ?_) ?_
  · intro x hx
    rw [List.map_map] at hx
    obtain ⟨y, hy, rfl⟩ := List.mem_map.mp hx
    have := piece_len st hst l c y hy
    have e0 : (Str.ofString "").length = 0 := by decide +kernel
    simp only [Function.comp, S_length, e0]; omega
  · simp; omega
theorem small_range (n c : Nat) (hn : n ≤ 64) (hc : c = 1 ∨ c = 2) : Builtin.Range.small 0 (n : Int) (c : Int) = true := by
  have h : ∀ n : Nat, n < 65 → Builtin.Range.small 0 (n : Int) 1 = true ∧ Builtin.Range.small 0 (n : Int) 2 = true := by decide +kernel
  rcases hc with rfl | rfl
  · exact (h n (by omega)).1
  · exact (h n (by omega)).2
theorem size_range (n c : Nat) (hn : n ≤ 64) (hc : c = 1 ∨ c = 2) : Builtin.Range.rangeSize 0 (n : Int) (c : Int) = (((n + c - 1) / c : Nat) : Int) := by
  have h : ∀ n : Nat, n < 65 → Builtin.Range.rangeSize 0 (n : Int) 1 = (((n + 1 - 1) / 1 : Nat) : Int) ∧ Builtin.Range.rangeSize 0 (n : Int) 2 = (((n + 2 - 1) / 2 : Nat) : Int) := by decide +kernel
  rcases hc with rfl | rfl
  · exact (h n (by omega)).1
  · exact (h n (by omega)).2
noncomputable def mkPathTail {w : World} {oc : Value} {od : Option Addr} {osl : Array (Option Value)} {name qual : Str} {params : Arguments} {scope : Scope} {dV kV doc pm cdv ct : Value} {an : Option Addr} {s0 s1 s2 : Stmt}
    (_ : (hd.heap_39 w.params).lookup 109 = some ⟨oc, od, .func (fnOf name qual params [s0, s1, s2] scope dV kV doc pm an cdv ct), osl⟩) : List Stmt × Str × Scope × Value := ([s2], qual, scope, cdv)
/-- the return of _law_path, read off the written heap -/
noncomputable def pathTail (w : World) : List Stmt × Str × Scope × Value := mkPathTail (w := w) (by k_is)
theorem path_tail {w : World} {h : Heap} {L : Addr} {m : Str → Option Value} {dp un : Nat} {fr : Option (List Env)} {gd : Option (List Code)} {s : Shared} {o1 o2 : Obj} {mm : Bool} {n slash : Nat} {tl ts t1 t3 : Tok}
    (hB : Base w h) (hs : slash ≤ 1) (hn : (figs n).length ≤ 64) (F : Fr h L s.heap m) (N : News h L s.heap [(L + 1 + 1, o2), (L + 1, o1)])
    (e1 : o1.data = .cell (some (.str ⟨(letS (figs n)).toArray⟩ tl))) (e2 : o2.data = .cell (some (.int ((stepOf mm : Nat) : Int) ts)))
    (vt : Vals m [(Str.ofString "host", .str (S (hostL mm)) t1), (Str.ofString "slash", .int slash t3)]) :
    wpAny (model prog w) (At dp un fr gd) (execs (pathTail w).1 (envOfC (pathTail w).2.1 (pathTail w).2.2.1 L 109 (pathTail w).2.2.2)) (fun fl s' => Stop (∃ h' tk' t, s' = { s with heap := h', toks := tk' } ∧ Keeps h h' ∧ fl = .ret (.str (S (pathL mm n slash)) t))) (fun _ _ => False) s := by
  obtain ⟨X, loose, mean, mg, mb, T⟩ := hB
  have hlen : Str.length { cps := (letS (figs n)).toArray } = (figs n).length := by simp [Str.length, letS]
  have hll : (letS (figs n)).length = (figs n).length := by simp [letS]
  have hhl : (hostL mm).length ≤ 1 := by cases mm <;> decide
  have h12 : stepOf mm = 1 ∨ stepOf mm = 2 := by cases mm <;> simp [stepOf]
  have hpath : pathL mm n slash = hostL mm ++ ((List.range (((figs n).length + stepOf mm - 1) / stepOf mm)).map (piece (stepOf mm) (letS (figs n)))).flatten ++ List.replicate slash 47 := rfl
  generalize stepOf mm = st at *
  have hp : 0 < st := by omega
  have h2 : st ≤ 2 := by omega
  have hi0 : (0 : Int) < (st : Int) := by omega
  have hi2 : (st : Int) ≤ 2 := by omega
  have ec : ((figs n).length + st - 1) / st ≤ 64 := by rcases h12 with rfl | rfl <;> omega
  dsimp only [pathTail, mkPathTail]
  have F0 := F
  replace F := Fr.shows F vt
  k_steps
  rename IsRange _ _ _ _ _ _ _ _ => hr
  rename Fr _ _ _ _ => F2
  rename News _ _ _ _ => N2
  rw [hlen] at hr
  refine iter_range (n := ((figs n).length + st - 1) / st) rfl F2 N2 hr (small_range _ st hn h12) (size_range _ st hn h12) ?_
  intro I h3 St eI it st3 F3 N3 lt
  refine comp_block it st3 F3 N3 (fun p hp => Nat.ne_of_lt (lt p hp)) (by intro p hp; cases hp) (by rw [List.length_map, List.length_range, sizeLine_eq]; omega) (by decide) rfl rfl (fun k => some (S (piece st (letS (figs n)) (k.toNat / st)))) isStrR ?_ ?_
  · intro a v oI C oC D oD m2 h4 tk4 ha hv hC hx F4 N4 n1 n2 n3 l1 l2
    obtain ⟨ta, rfl⟩ := hv
    refine wpAny_tests_nil ?_
    simp only [if_true]
    k_steps
    rename Fr _ _ _ _ => F9
    rename News _ _ _ _ => N9
    refine CEnd.mk F9 N9 ⟨_, rfl, isStrR_of ?_⟩
    obtain ⟨i, hi, rfl⟩ := List.mem_map.mp ha
    rw [show (0 : Int) + (i : Int) * (st : Int) = ((i * st : Nat) : Int) from by rw [Int.zero_add, Int.natCast_mul], show ((i * st : Nat) : Int) + (st : Int) = ((i * st + st : Nat) : Int) from (Int.natCast_add _ _).symm, slice_nat _ _ _ (Nat.le_add_right _ _),
      show Str.ofString "/" = S [47] from by decide +kernel, S_append, Int.toNat_natCast, Nat.mul_div_cancel _ hp, Nat.add_sub_cancel_left]
    rfl
  · intro D h4 tk4 ys F4 N4 l1 hR
    dsimp only
    k_steps
    have hm := pieces_eq st hp (letS (figs n)) (((figs n).length + st - 1) / st)
    rw [hm] at hR
    have hX := length_flatten_le 3 _ (piece_len st h2 (letS (figs n)) (((figs n).length + st - 1) / st))
    refine join_list (N4.isList (.head _)) hR (pieces_sum st h2 _ _ ec) ?_
    intro t5 k5
    rw [join_empty]
    simp only [List.length_map, List.length_range] at hX
    generalize hXX : ((List.range (((figs n).length + st - 1) / st)).map (piece st (letS (figs n)))).flatten = XX at *
    refine add_str ?_ (by rw [S_length, S_length, sizeLine_eq]; omega)
    intro t6 k6
    rw [S_append]
    dsimp only
    k_steps
    rw [mul_slash slash hs]
    refine add_str ?_ (by rw [S_length, S_length, sizeLine_eq]; simp; omega)
    intro t7 k7
    rw [S_append, ← hpath]
    exact Stop.mk ⟨_, _, _, rfl, F4.keep, rfl⟩
theorem law_path {w : World} {h : Heap} {mm : Bool} {n slash : Nat} {t1 t2 t3 : Tok} (hs : slash ≤ 1) (hn : (figs n).length ≤ 64) :
    Calls w 2 30 109 [.str (S (hostL mm)) t1, .int n t2, .int slash t3] h (fun _ v => ∃ t, v = .str (S (pathL mm n slash)) t) := by
  refine' callsC_of (d := 1) (u := 27) (binds := [(Str.ofString "host", .str (S (hostL mm)) t1), (Str.ofString "number", .int n t2), (Str.ofString "slash", .int slash t3)]) ?k6 ?k7 ?kb ?kB ?kD ?_ ?c2 ?c3 ?c4
  case k6 => k_is
  case k7 => k_is
  case kb => exact fun _ => BindsTo.of_eq rfl
  case kB => rfl
  case kD => decide
  case c2 => exact rfl
  case c3 => exact rfl
  case c4 => exact rfl
  intro dp un fr gd s L cells hd hu hB F N Y
  have hB0 := hB
  obtain ⟨X, loose, mean, mg, mb, T⟩ := hB
  obtain ⟨o1, o2, rfl, d1, d2⟩ := CellsAre.two Y
  clear Y
  have hlen : Str.length { cps := (letS (figs n)).toArray } = (figs n).length := by simp [Str.length, letS]
  have hll : (letS (figs n)).length = (figs n).length := by simp [letS]
  show wpAny _ _ (execs (_ :: _ :: (pathTail w).1) _) _ _ _
  generalize hst : (pathTail w).1 = tl
  cases mm with
  | false =>
    have e1 : S (hostL false) = Str.ofString "p" := by decide +kernel
    have ec : (((figs n).length + 1 - 1) / 1) ≤ 64 := by omega
    rw [e1] at *
    k_steps
    refine use (int2ap (by simpa using hn)) hB0 F N (by omega) (by omega) ?_
    intro v h1 tk1 k1 F1 N1 r
    obtain ⟨tb, rfl⟩ := r
    clear F N
    dsimp only
    k_steps
    rw [show (n : Int).natAbs = n from by omega]
    refine decode_letB (figs_lt _) hn ?_
    intro t4 k4
    dsimp only
    k_steps
    subst hst
    rename Fr _ _ _ _ => F2
    rename News _ _ _ _ => N2
    rename Obj.data _ = Data.cell (some (Value.int _ _)) => eS
    rename Obj.data _ = Data.cell (some (Value.str _ _)) => eL
    refine wpAny_mono (path_tail (mm := false) (n := n) (slash := slash) hB0 hs hn F2 N2 eL eS ⟨congrArg (fun z => some (Value.str z t1)) e1.symm, rfl, trivial⟩) (fun fl s' q => ?_) (fun _ _ x => x)
    obtain ⟨h', tk', t, rfl, k, rfl⟩ := q
    exact ⟨_, _, rfl, k, t, rfl⟩
  | true =>
    have e1 : S (hostL true) = Str.ofString "m" := by decide +kernel
    have ec : (((figs n).length + 2 - 1) / 2) ≤ 64 := by omega
    rw [e1] at *
    k_steps
    refine use (int2ap (by simpa using hn)) hB0 F N (by omega) (by omega) ?_
    intro v h1 tk1 k1 F1 N1 r
    obtain ⟨tb, rfl⟩ := r
    clear F N
    dsimp only
    k_steps
    rw [show (-n : Int).natAbs = n from by omega]
    refine decode_letB (figs_lt _) hn ?_
    intro t4 k4
    dsimp only
    k_steps
    subst hst
    rename Fr _ _ _ _ => F2
    rename News _ _ _ _ => N2
    rename Obj.data _ = Data.cell (some (Value.int _ _)) => eS
    rename Obj.data _ = Data.cell (some (Value.str _ _)) => eL
    refine wpAny_mono (path_tail (mm := true) (n := n) (slash := slash) hB0 hs hn F2 N2 eL eS ⟨congrArg (fun z => some (Value.str z t1)) e1.symm, rfl, trivial⟩) (fun fl s' q => ?_) (fun _ _ x => x)
    obtain ⟨h', tk', t, rfl, k, rfl⟩ := q
    exact ⟨_, _, rfl, k, t, rfl⟩
end Mine
namespace Mine
theorem resetF3 : True := by
  w_top off
  trivial
/-- letters A to P, read to the base 16; slashes passed over -/
noncomputable def numL (l : List Nat) : Nat := l.foldl (fun a c => if c = 47 then a else 16 * a + (c - 65)) 0
def isAP (c : Nat) : Prop := c = 47 ∨ (65 ≤ c ∧ c ≤ 80)
theorem find_ap (c : Nat) (h0 : 65 ≤ c) (h1 : c ≤ 80) : Txt.find (Str.ofString "ABCDEFGHIJKLMNOP") (S [c]) = ((c - 65 : Nat) : Int) := by
  have : ∀ c : Nat, c < 81 → 65 ≤ c → Txt.find (Str.ofString "ABCDEFGHIJKLMNOP") (S [c]) = ((c - 65 : Nat) : Int) := by decide +kernel
  exact this c (by omega) h0
theorem law_number {w : World} {h : Heap} {l : List Nat} {t1 : Tok} (hl : l.length ≤ 1000) (hA : ∀ c ∈ l.drop 1, isAP c) :
    Calls w 1 30 116 [.str (S l) t1] h (fun _ v => ∃ t, v = .int (numL (l.drop 1)) t) := by
  refine' calls_of (d := 0) (u := 27) (binds := [(Str.ofString "path", .str (S l) t1)]) ?k6 ?k7 ?kb ?kB ?_ ?c2 ?c3 ?c4 ?c5
  case k6 => k_is
  case k7 => k_is
  case kb => exact fun _ => BindsTo.of_eq rfl
  case kB => exact locs rfl
  case c2 => exact rfl
  case c3 => exact rfl
  case c4 => exact rfl
  case c5 => decide
  intro dp un fr gd s L hd hu hB F
  obtain ⟨X, loose, mean, mg, mb, T⟩ := hB
  have N : News h L s.heap [] := News.nil
  have hlen : Str.length (S l) ≤ 1000 := by rw [S_length]; exact hl
  generalize hlp : Stmt.For _ _ _ _ _ = lp
  k_steps
  subst hlp
  refine wpAny_For ?_
  k_steps
  rename Fr _ _ _ _ => F1
  rename News _ _ _ _ => N1
  rw [show Txt.slice (S l) (some 1) none = S (l.drop 1) from slice_from l 1]
  dsimp only
  refine iter_str rfl F1 N1 ?_
  intro I h2 St eI it st F2 N2 lt
  dsimp only
  refine for_inv it st F2 N2 (fun p hp => Nat.ne_of_lt (lt p hp)) (fun done m' news' => news' = [] ∧ ∃ t, Vals m' [(Str.ofString "number", .int ((numL done : Nat) : Int) t)]) (by intro _ _ _ _ p hp; cases hp) ⟨rfl, _, rfl, trivial⟩ ?_ ?_
  · rintro done c rest v oI h3 tk3 m3 news3 hsp ⟨tv, rfl⟩ F3 N3 off ⟨rfl, tn, vals⟩
    have hc : isAP c := hA c (by simp at hsp; rw [List.drop_one, hsp]; simp)
    have hnum : numL (done ++ [c]) = if c = 47 then numL done else 16 * numL done + (c - 65) := by simp [numL]
    have F := Fr.shows F3 vals
    clear F3 F2 N2 F1 N1
    k_steps
    · rename Fr _ _ _ _ => F9
      rename News _ _ _ _ => N9
      rename _ = _ => hne
      refine Mid.mk F9 N9 off ⟨rfl, _, congrArg (fun z => some (Value.int z _)) ?_, trivial⟩
      have h47 : c ≠ 47 := by rintro rfl; revert hne; decide +kernel
      rcases hc with rfl | ⟨h0, h1⟩
      · exact absurd rfl h47
      · rw [hnum, if_neg h47, find_ap c h0 h1]; omega
    · rename Fr _ _ _ _ => F9
      rename News _ _ _ _ => N9
      rename _ = _ => hne
      refine Mid.mk F9 N9 off ⟨rfl, _, congrArg (fun z => some (Value.int z _)) ?_, trivial⟩
      have h47 : c = 47 := by
        have : S [c] = Str.ofString "/" := by simpa using hne
        rw [show Str.ofString "/" = S [47] from by decide +kernel] at this
        simpa using S_inj this
      rw [hnum, if_pos h47]
  · rintro h3 tk3 m3 news3 F3 N3 ⟨rfl, tn, vals⟩
    have F := Fr.shows F3 vals
    clear F3
    k_steps
    exact fin_of F ⟨_, rfl⟩
end Mine
namespace Mine
theorem resetF4 : True := by
  w_top off
  trivial
local macro_rules | `(tactic| walk_at "subscriptTail Name Constant ref int") => `(tactic| refine item_tupleT (Fr.tup (by assumption) (by assumption)) (by omega) (by omega) (by rfl) (by rfl) ?_)
theorem reads_pair {h : Heap} {a : Addr} {x0 x1 : Str} {u0 u1 : Tok} (ht : IsTup h a [Value.str x0 u0, Value.str x1 u1].toArray) : Reads h (.ref a) (.tuple [.str x0, .str x1]) [] := by
  obtain ⟨o, ho, hc, n, hd⟩ := ht
  have r : ReadsAll h [Value.str x0 u0, Value.str x1 u1] [.str x0, .str x1] [] := by
    have := ReadsAll.cons (Reads.str (h := h) x0 u0) (ReadsAll.cons (Reads.str (h := h) x1 u1) ReadsAll.nil)
    simpa using this
  exact Reads.tuple (as := []) ho hc hd (by simpa using r)
theorem shaped_pair {x y : List Nat} (hx : ∀ c ∈ x, c < 128) (hy : ∀ c ∈ y, c < 128) : SeqAt.shaped (.tuple [.str (S x), .str (S y)]) = true := by
  simp [SeqAt.shaped, PyData.canLay0, PyData.canLayAll0, PyData.depth, PyData.depthAll, PyData.strOk]
  exact ⟨fun c hc => Nat.lt_of_lt_of_le (hx c hc) (by decide), fun c hc => Nat.lt_of_lt_of_le (hy c hc) (by decide)⟩
theorem eqv_pair (x y x' y' : Str) : PyData.eqv (.tuple [.str x, .str y]) (.tuple [.str x', .str y']) = decide (x = x' ∧ y = y') := by
  by_cases h1 : x = x' <;> by_cases h2 : y = y' <;> simp [PyData.eqv, PyData.eqvAll, h1, h2]
/-- what is_suburi tells: the places are one, or the asked path opens with the known one and a slash -/
noncomputable def subB (a0 a1 b0 b1 : List Nat) : Bool := decide (a0 = b0) && (decide (a1 = b1) || decide ((if a1.drop (a1.length - 1) = [47] then a1 else a1 ++ [47]) <+: b1))
theorem is_suburi {w : World} {h : Heap} {b t : Addr} {self : Value} {a0 a1 b0 b1 : List Nat} {u0 u1 v0 v1 : Tok} (hb : IsTup h b [Value.str (S a0) u0, Value.str (S a1) u1].toArray) (ht : IsTup h t [Value.str (S b0) v0, Value.str (S b1) v1].toArray)
    (l1 : a1.length ≤ 1000) (l2 : b1.length ≤ 1000) (c1 : ∀ c ∈ a0, c < 128) (c2 : ∀ c ∈ a1, c < 128) (c3 : ∀ c ∈ b0, c < 128) (c4 : ∀ c ∈ b1, c < 128) :
    Calls w 1 200 71 [self, .ref b, .ref t] h (fun _ v => v = .bool (subB a0 a1 b0 b1)) := by
  refine' calls_of (d := 0) (u := 197) (binds := [(Str.ofString "self", self), (Str.ofString "base", .ref b), (Str.ofString "test", .ref t)]) ?k6 ?k7 ?kb ?kB ?_ ?c2 ?c3 ?c4 ?c5
  case k6 => k_is
  case k7 => k_is
  case kb => exact fun _ => BindsTo.of_eq rfl
  case kB => exact locs rfl
  case c2 => exact rfl
  case c3 => exact rfl
  case c4 => exact rfl
  case c5 => decide
  intro dp un fr gd s L hd hu hB F
  obtain ⟨X, loose, mean, mg, mb, T⟩ := hB
  have N : News h L s.heap [] := News.nil
  have rb := reads_pair hb
  have rt := reads_pair ht
  have hl1 : (S a1).length ≤ 1000 := by rw [S_length]; exact l1
  have hl2 : (S b1).length ≤ 1000 := by rw [S_length]; exact l2
  k_steps
  refine eq_dataH (Reads.keeps F.keep rb) (Reads.keeps F.keep rt) (shaped_pair c1 c2) (shaped_pair c3 c4) (by show un + 64 < _; omega) ?_
  rw [eqv_pair]
  k_steps
  · rename _ ∧ _ => e
    refine fin_of F (congrArg Value.bool ?_)
    have e1 := S_inj e.1
    have e2 := S_inj e.2
    simp [subB, e1, e2]
  · rename (S a0 != S b0) = true => e
    refine fin_of F (congrArg Value.bool ?_)
    have e1 : a0 ≠ b0 := by rintro rfl; simp at e
    simp [subB, e1]
  · rename Fr _ _ _ _ => F9
    rename (S a0 != S b0) = false => e
    rename (Txt.slice (S a1) (some (-1)) none != Str.ofString "/") = true => e'
    rename ¬ (_ ∧ _) => en
    refine fin_of F9 (congrArg Value.bool ?_)
    have e1 : a0 = b0 := S_inj (by simpa using e)
    have e2 : a1 ≠ b1 := by rintro rfl; exact en ⟨by rw [e1], rfl⟩
    have e3 : a1.drop (a1.length - 1) ≠ [47] := by
      intro q
      rw [slice_last, q, show Str.ofString "/" = S [47] from by decide +kernel] at e'
      simp at e'
    rw [show Str.ofString "/" = S [47] from by decide +kernel, S_append, startswith_S]
    simp [subB, e1, e2, e3]
  · rename Fr _ _ _ _ => F9
    rename (S a0 != S b0) = false => e
    rename (Txt.slice (S a1) (some (-1)) none != Str.ofString "/") = false => e'
    rename ¬ (_ ∧ _) => en
    refine fin_of F9 (congrArg Value.bool ?_)
    have e1 : a0 = b0 := S_inj (by simpa using e)
    have e2 : a1 ≠ b1 := by rintro rfl; exact en ⟨by rw [e1], rfl⟩
    have e3 : a1.drop (a1.length - 1) = [47] := by
      rw [slice_last, show Str.ofString "/" = S [47] from by decide +kernel] at e'
      exact S_inj (by simpa using e')
    rw [startswith_S]
    simp only [subB, e1, e2, if_pos e3]
    simp
end Mine
namespace Mine
theorem resetF5 : True := by
  w_top off
  trivial
local macro_rules | `(tactic| walk_at "mine 0") => `(tactic| skip)
local macro_rules | `(tactic| walk_at "eval ListComp") => `(tactic| k_dflt (refine comp_open ?_))
/-- the state of parse_http_list's loop -/
structure HS where
  res : List (List Nat)
  part : List Nat
  esc : Bool
  quo : Bool
noncomputable def hstep (s : HS) (c : Nat) : HS :=
  if s.esc then { s with part := s.part ++ [c], esc := false }
  else if s.quo then
    if c = 92 then { s with esc := true }
    else { s with part := s.part ++ [c], quo := decide (c ≠ 34) }
  else if c = 44 then { s with res := s.res ++ [s.part], part := [] }
  else { s with part := s.part ++ [c], quo := decide (c = 34) }
noncomputable def hrun (l : List Nat) : HS := l.foldl hstep ⟨[], [], false, false⟩
noncomputable def hparts (l : List Nat) : List (List Nat) := if (hrun l).part = [] then (hrun l).res else (hrun l).res ++ [(hrun l).part]
theorem sign_eq {c k : Nat} {x : Str} {b : Bool} (h : ((⟨#[c]⟩ : Str) == x) = b) (hx : x = S [k]) : decide (c = k) = b := by
  subst hx
  rw [← h]
  by_cases q : c = k
  · subst q; simp
  · rw [decide_eq_false q]
    symm
    rw [beq_eq_false_iff_ne]
    intro e
    exact q (by simpa using S_inj (a := [c]) (b := [k]) e)
theorem hrun_snoc (l : List Nat) (c : Nat) : hrun (l ++ [c]) = hstep (hrun l) c := by simp [hrun]
theorem hstep_len (s : HS) (c : Nat) : (hstep s c).part.length ≤ s.part.length + 1 ∧ (hstep s c).res.length ≤ s.res.length + 1 := by
  unfold hstep
  repeat' split
  all_goals simp
theorem foldl_len (l : List Nat) : ∀ s : HS, (l.foldl hstep s).part.length ≤ s.part.length + l.length ∧ (l.foldl hstep s).res.length ≤ s.res.length + l.length := by
  induction l with
  | nil => intro s; simp
  | cons c r ih =>
    intro s
    have h1 := ih (hstep s c)
    have h2 := hstep_len s c
    simp only [List.foldl_cons, List.length_cons]
    omega
theorem hrun_len (l : List Nat) : (hrun l).part.length ≤ l.length ∧ (hrun l).res.length ≤ l.length := by
  have := foldl_len l ⟨[], [], false, false⟩
  simpa [hrun] using this
theorem hstep_parts (n : Nat) (s : HS) (c : Nat) (h1 : s.part.length ≤ n) (h2 : ∀ p ∈ s.res, p.length ≤ n) : (hstep s c).part.length ≤ n + 1 ∧ ∀ p ∈ (hstep s c).res, p.length ≤ n + 1 := by
  unfold hstep
  repeat' split
  all_goals simp
  all_goals first
    | exact ⟨by omega, fun p hp => Nat.le_succ_of_le (h2 p hp)⟩
    | (intro p hp; rcases hp with hp | rfl
       · exact Nat.le_succ_of_le (h2 p hp)
       · omega)
theorem foldl_parts (l : List Nat) : ∀ (n : Nat) (s : HS), s.part.length ≤ n → (∀ p ∈ s.res, p.length ≤ n) → ∀ p ∈ (l.foldl hstep s).res, p.length ≤ n + l.length := by
  induction l with
  | nil => intro n s _ h2; simpa using h2
  | cons c r ih =>
    intro n s h1 h2 p hp
    have h3 := hstep_parts n s c h1 h2
    have := ih (n + 1) (hstep s c) h3.1 h3.2 p hp
    simp only [List.length_cons]; omega
theorem hrun_parts_len (l : List Nat) : ∀ p ∈ (hrun l).res, p.length ≤ l.length := by
  have := foldl_parts l 0 ⟨[], [], false, false⟩ (by simp) (by simp)
  simpa [hrun] using this
/-- what holds between two turns of parse_http_list -/
def HttpJ (ra : Addr) (done : List Nat) (m' : Str → Option Value) (news' : List (Addr × Obj)) : Prop := ∃ ys n t, news' = [(ra, W.listOf ys.toArray n)] ∧ Reps isStrR ((hrun done).res.map S) ys ∧
  Vals m' [(Str.ofString "res", .ref ra), (Str.ofString "part", .str (S (hrun done).part) t), (Str.ofString "escape", .bool (hrun done).esc), (Str.ofString "quote", .bool (hrun done).quo)]
/-- what parse_http_list hands back -/
def HttpR (h : Heap) (l : List Nat) (h' : Heap) (v : Value) : Prop := ∃ a ys n, v = .ref a ∧ h'.get? a = some (W.listOf ys.toArray n) ∧ h.get? a = none ∧ Reps isStrR ((hparts l).map fun p => Txt.strip (S p)) ys
theorem parse_http {w : World} {h : Heap} {l : List Nat} {t1 : Tok} (hl : l.length ≤ 100000) :
    Calls w 1 200 90 [.str (S l) t1] h (HttpR h l) := by
  refine' calls_of (d := 0) (u := 197) (binds := [(Str.ofString "s", .str (S l) t1)]) ?k6 ?k7 ?kb ?kB ?_ ?c2 ?c3 ?c4 ?c5
  case k6 => k_is
  case k7 => k_is
  case kb => exact fun _ => BindsTo.of_eq rfl
  case kB => exact locs rfl
  case c2 => exact rfl
  case c3 => exact rfl
  case c4 => exact rfl
  case c5 => decide
  intro dp un fr gd s L hd hu hB F
  obtain ⟨X, loose, mean, mg, mb, T⟩ := hB
  have N : News h L s.heap [] := News.nil
  have hlen : Str.length (S l) ≤ 100000 := by rw [S_length]; exact hl
  generalize hlp : Stmt.For _ _ _ _ _ = lp
  k_steps
  subst hlp
  refine wpAny_For ?_
  k_steps
  rename_i ra _ _ _ _ _ _ F1 N1
  refine iter_str rfl F1 N1 ?_
  intro I h2 St eI it st F2 N2 lt
  dsimp only
  have hrI : ra < I := lt (ra, _) (.head _)
  refine for_inv it st F2 N2 (fun p hp => Nat.ne_of_lt (lt p hp)) (HttpJ ra)
    (by intro _ _ _ _ p hp; cases hp) ⟨[], 0, _, rfl, .nil, ⟨rfl, congrArg (fun z => some (Value.str z _)) (by decide +kernel), rfl, rfl, trivial⟩⟩ ?_ ?_
  · rintro done c rest v oI h3 tk3 m3 news3 hsp ⟨tv, rfl⟩ F3 N3 off ⟨ys, n, t, rfl, hys, vals⟩
    have hb := hrun_len done
    have hdl : done.length ≤ 100000 := by
      have := congrArg List.length hsp
      simp at this
      omega
    have hnx := hrun_snoc done c
    generalize hst : hrun done = stt at *
    obtain ⟨res, part, e, q⟩ := stt
    dsimp only at hys vals hb
    have hpl : Str.length (S part) ≤ 100000 := by rw [S_length]; omega
    have hyl : ys.length ≤ 100000 := by have := hys.length; simp at this; omega
    have F := Fr.shows F3 vals
    clear F3 F2 N2 F1 N1 vals
    cases e with
    | true =>
      have hx : hrun (done ++ [c]) = ⟨res, part ++ [c], false, q⟩ := by rw [hnx]; rfl
      k_steps
      rename Fr _ _ _ _ => F9
      rename News _ _ _ _ => N9
      exact Mid.mk F9 N9 off ⟨ys, n, _, rfl, by rw [hx]; exact hys, by rw [hx]; exact ⟨rfl, congrArg (fun z => some (Value.str z _)) (S_append part [c]), rfl, rfl, trivial⟩⟩
    | false =>
      cases q with
      | true =>
        k_steps
        · rename Fr _ _ _ _ => F9
          rename News _ _ _ _ => N9
          rename (_ == Str.ofString "\\") = true => e1
          have hc := of_decide_eq_true (sign_eq (k := 92) e1 (by decide +kernel))
          have hx : hrun (done ++ [c]) = ⟨res, part, true, true⟩ := by rw [hnx, hc]; rfl
          exact Mid.mk F9 N9 off ⟨ys, n, _, rfl, by rw [hx]; exact hys, by rw [hx]; exact ⟨rfl, rfl, rfl, rfl, trivial⟩⟩
        · rename Fr _ _ _ _ => F9
          rename News _ _ _ _ => N9
          rename (_ == Str.ofString "\"") = true => e1
          have hc := of_decide_eq_true (sign_eq (k := 34) e1 (by decide +kernel))
          have hx : hrun (done ++ [c]) = ⟨res, part ++ [c], false, false⟩ := by rw [hnx, hc]; rfl
          exact Mid.mk F9 N9 off ⟨ys, n, _, rfl, by rw [hx]; exact hys, by rw [hx]; exact ⟨rfl, congrArg (fun z => some (Value.str z _)) (S_append part [c]), rfl, rfl, trivial⟩⟩
        · rename Fr _ _ _ _ => F9
          rename News _ _ _ _ => N9
          rename (_ == Str.ofString "\\") = false => e1
          rename (_ == Str.ofString "\"") = false => e2
          have hc1 := of_decide_eq_false (sign_eq (k := 92) e1 (by decide +kernel))
          have hc2 := of_decide_eq_false (sign_eq (k := 34) e2 (by decide +kernel))
          have hx : hrun (done ++ [c]) = ⟨res, part ++ [c], false, true⟩ := by rw [hnx]; simp [hstep, hc1, hc2]
          exact Mid.mk F9 N9 off ⟨ys, n, _, rfl, by rw [hx]; exact hys, by rw [hx]; exact ⟨rfl, congrArg (fun z => some (Value.str z _)) (S_append part [c]), rfl, rfl, trivial⟩⟩
      | false =>
        k_steps
        · have hra : ∀ p ∈ [(I, oI)], p.1 ≠ ra := by intro p hp; rw [List.mem_singleton.mp hp]; exact Ne.symm (Nat.ne_of_lt hrI)
          rename Fr _ _ _ _ => F9
          rename News _ _ _ _ => N9
          rename (_ == Str.ofString ",") = true => e1
          have hc := of_decide_eq_true (sign_eq (k := 44) e1 (by decide +kernel))
          have hx : hrun (done ++ [c]) = ⟨res ++ [part], [], false, false⟩ := by rw [hnx, hc]; rfl
          refine append_N (pre := [(I, oI)]) (post := []) F9 N9 hra (by intro p hp; cases hp) (by omega) ?_
          intro h9 F9 N9
          dsimp only
          k_steps
          rename Fr _ _ _ _ => F9
          rename News _ _ _ _ => N9
          exact Mid.mk F9 N9 (by intro p hp; rw [List.mem_singleton.mp hp]; exact Nat.ne_of_lt hrI) ⟨_, _, _, rfl, by rw [hx, List.map_append]; exact hys.snoc ⟨_, rfl⟩, by rw [hx]; exact ⟨rfl, congrArg (fun z => some (Value.str z _)) (show Str.ofString "" = S [] from by decide +kernel), rfl, rfl, trivial⟩⟩
        · rename Fr _ _ _ _ => F9
          rename News _ _ _ _ => N9
          rename (_ == Str.ofString ",") = false => e1
          rename (_ == Str.ofString "\"") = true => e2
          have hc := of_decide_eq_true (sign_eq (k := 34) e2 (by decide +kernel))
          have hx : hrun (done ++ [c]) = ⟨res, part ++ [c], false, true⟩ := by rw [hnx, hc]; rfl
          exact Mid.mk F9 N9 off ⟨ys, n, _, rfl, by rw [hx]; exact hys, by rw [hx]; exact ⟨rfl, congrArg (fun z => some (Value.str z _)) (S_append part [c]), rfl, rfl, trivial⟩⟩
        · rename Fr _ _ _ _ => F9
          rename News _ _ _ _ => N9
          rename (_ == Str.ofString ",") = false => e1
          rename (_ == Str.ofString "\"") = false => e2
          have hc1 := of_decide_eq_false (sign_eq (k := 44) e1 (by decide +kernel))
          have hc2 := of_decide_eq_false (sign_eq (k := 34) e2 (by decide +kernel))
          have hx : hrun (done ++ [c]) = ⟨res, part ++ [c], false, false⟩ := by rw [hnx]; simp [hstep, hc1, hc2]
          exact Mid.mk F9 N9 off ⟨ys, n, _, rfl, by rw [hx]; exact hys, by rw [hx]; exact ⟨rfl, congrArg (fun z => some (Value.str z _)) (S_append part [c]), rfl, rfl, trivial⟩⟩
  · rintro h3 tk3 m3 news3 F3 N3 ⟨ys, n, t, rfl, hys, vals⟩
    have el : (S l).cps.toList = l := by simp
    rw [el] at hys vals
    have hb := hrun_len l
    have hbl := hrun_parts_len l
    have hpl : Str.length (S (hrun l).part) ≤ 100000 := by rw [S_length]; omega
    have hyl : ys.length ≤ 100000 := by have := hys.length; simp at this; omega
    have F := Fr.shows F3 vals
    clear F3 F2 N2 F1 N1
    k_steps
    · rename _ ≠ _ => hne
      have hp : (hrun l).part ≠ [] := by
        intro e
        apply hne
        rw [S_length, e]; rfl
      have hq : hparts l = (hrun l).res ++ [(hrun l).part] := by rw [hparts, if_neg hp]
      have hall : ∀ p ∈ (hrun l).res ++ [(hrun l).part], p.length ≤ 100000 := by
        intro p hp
        rcases List.mem_append.mp hp with hp | hp
        · exact Nat.le_trans (hbl p hp) hl
        · rw [List.mem_singleton.mp hp]; omega
      replace hys := hys.snoc (a := S (hrun l).part) (v := .str (S (hrun l).part) t) ⟨_, rfl⟩
      rw [show List.map S (hrun l).res ++ [S (hrun l).part] = List.map S ((hrun l).res ++ [(hrun l).part]) from by simp] at hys
      have hrl : ((hrun l).res ++ [(hrun l).part]).length ≤ 100001 := by simp; omega
      rename Fr _ _ _ _ => F9
      rename News _ _ _ _ => N9
      refine iter_listN rfl F9 N9 (.head _) hys ?_
      intro I2 h6 St2 eI2 it2 st2 F6 N6 lt2
      dsimp only
      refine comp_block it2 st2 F6 N6 (fun p hp => Nat.ne_of_lt (lt2 p hp)) (fun p hp => hp) (by rw [List.length_map, sizeLine_eq]; omega) (by decide) rfl rfl (fun x => some (Txt.strip x)) isStrR ?_ ?_
      · intro a v oI C oC D oD m2 h7 tk7 ha hv hC hx F7 N7 n1 n2 n3 l1 l2
        obtain ⟨ta, rfl⟩ := hv
        obtain ⟨pp, hpp, rfl⟩ := List.mem_map.mp ha
        have hpl : Str.length (S pp) ≤ 100000 := by
          rw [S_length]
          exact hall pp hpp
        refine wpAny_tests_nil ?_
        simp only [if_true]
        k_steps
        rename Fr _ _ _ _ => F8
        rename News _ _ _ _ => N8
        exact CEnd.mk F8 N8 ⟨_, rfl, ⟨_, rfl⟩⟩
      · intro D h7 tk7 ys7 F7 N7 l7 hR
        dsimp only
        have hn7 := N7 _ (.head _)
        refine fin_of F7 ⟨D, ys7, _, rfl, hn7.1, hn7.2.2, ?_⟩
        rw [hq]
        rw [List.filterMap_map] at hR
        have ef : ((fun x => some (Txt.strip x)) ∘ S) = fun p => some (Txt.strip (S p)) := rfl
        rw [ef, List.filterMap_eq_map'] at hR
        exact hR
    · rename ((S (hrun l).part).length : Int) = 0 => hne
      have hp : (hrun l).part = [] := by
        rw [S_length] at hne
        exact List.length_eq_zero_iff.mp (by omega)
      have hq : hparts l = (hrun l).res := by rw [hparts, if_pos hp]
      have hall : ∀ p ∈ (hrun l).res, p.length ≤ 100000 := fun p hp => Nat.le_trans (hbl p hp) hl
      rename Fr _ _ _ _ => F9
      rename News _ _ _ _ => N9
      refine iter_listN rfl F9 N9 (.head _) hys ?_
      intro I2 h6 St2 eI2 it2 st2 F6 N6 lt2
      dsimp only
      refine comp_block it2 st2 F6 N6 (fun p hp => Nat.ne_of_lt (lt2 p hp)) (fun p hp => hp) (by rw [List.length_map, sizeLine_eq]; omega) (by decide) rfl rfl (fun x => some (Txt.strip x)) isStrR ?_ ?_
      · intro a v oI C oC D oD m2 h7 tk7 ha hv hC hx F7 N7 n1 n2 n3 l1 l2
        obtain ⟨ta, rfl⟩ := hv
        obtain ⟨pp, hpp, rfl⟩ := List.mem_map.mp ha
        have hpl : Str.length (S pp) ≤ 100000 := by
          rw [S_length]
          exact hall pp hpp
        refine wpAny_tests_nil ?_
        simp only [if_true]
        k_steps
        rename Fr _ _ _ _ => F8
        rename News _ _ _ _ => N8
        exact CEnd.mk F8 N8 ⟨_, rfl, ⟨_, rfl⟩⟩
      · intro D h7 tk7 ys7 F7 N7 l7 hR
        dsimp only
        have hn7 := N7 _ (.head _)
        refine fin_of F7 ⟨D, ys7, _, rfl, hn7.1, hn7.2.2, ?_⟩
        rw [hq]
        rw [List.filterMap_map] at hR
        have ef : ((fun x => some (Txt.strip x)) ∘ S) = fun p => some (Txt.strip (S p)) := rfl
        rw [ef, List.filterMap_eq_map'] at hR
        exact hR
end Mine
namespace Mine
theorem resetF6 : True := by
  w_top off
  trivial
noncomputable def unq (v : List Nat) : List Nat := if v.head? = some 34 ∧ v.getLast? = some 34 then (v.drop 1).dropLast else v
noncomputable abbrev Row2 := List Nat × List Nat
def isRow2 (p : Row2) (v : Value) : Prop := ∃ t, v = .str (S (p.1 ++ 61 :: p.2)) t
noncomputable def keqv (ps : List Row2) : List (Str × List Nat) := ps.foldl (fun d p => put d (S p.1) (unq p.2)) []
theorem put_len {κ β : Type} [DecidableEq κ] (es : List (κ × β)) (k : κ) (b : β) : (put es k b).length ≤ es.length + 1 := by
  unfold put; split <;> simp
theorem keqv_len_aux (ps : List Row2) : ∀ d : List (Str × List Nat), (ps.foldl (fun d p => put d (S p.1) (unq p.2)) d).length ≤ d.length + ps.length := by
  induction ps with
  | nil => intro d; simp
  | cons p r ih =>
    intro d
    have h1 := ih (put d (S p.1) (unq p.2))
    have h2 := put_len d (S p.1) (unq p.2)
    simp only [List.foldl_cons, List.length_cons]; omega
theorem keqv_len (ps : List Row2) : (keqv ps).length ≤ ps.length := by
  have := keqv_len_aux ps []
  simpa [keqv] using this
theorem sign_eq2 {c k : Nat} {b : Bool} (h : (S [c] == S [k]) = b) : decide (c = k) = b := by
  rw [← h]
  by_cases q : c = k
  · subst q; simp
  · rw [decide_eq_false q]
    symm
    rw [beq_eq_false_iff_ne]
    intro e
    exact q (by simpa using S_inj e)
/-- what holds between two turns of parse_keqv_list -/
def KeqvJ (w : World) (da : Addr) (done : List Row2) (m' : Str → Option Value) (news' : List (Addr × Obj)) : Prop := ∃ o kvs, news' = [(da, o)] ∧ DObj (PySem.strKind prog w) o kvs ∧ DReps (fun b v => isStrR (S b) v) (keqv done) kvs ∧
  Vals m' [(Str.ofString "parsed", .ref da)]
/-- what parse_keqv_list hands back -/
def KeqvR (w : World) (h : Heap) (ps : List Row2) (h' : Heap) (v : Value) : Prop := ∃ d o kvs, v = .ref d ∧ h'.get? d = some o ∧ h.get? d = none ∧ (d == sysModules) = false ∧ DObj (PySem.strKind prog w) o kvs ∧ DReps (fun b v => isStrR (S b) v) (keqv ps) kvs
theorem parse_keqv {w : World} {h : Heap} {la : Addr} {ys : List Value} {n0 : Nat} {ps : List Row2} (hla : h.get? la = some (W.listOf ys.toArray n0)) (hr : Reps isRow2 ps ys)
    (hp : ∀ p ∈ ps, 61 ∉ p.1 ∧ p.2 ≠ [] ∧ p.1.length + p.2.length ≤ 10000) (hlen : ps.length ≤ 1000) :
    Calls w 1 200 85 [.ref la] h (KeqvR w h ps) := by
  refine' calls_of (d := 0) (u := 197) (binds := [(Str.ofString "l", .ref la)]) ?k6 ?k7 ?kb ?kB ?_ ?c2 ?c3 ?c4 ?c5
  case k6 => k_is
  case k7 => k_is
  case kb => exact fun _ => BindsTo.of_eq rfl
  case kB => exact locs rfl
  case c2 => exact rfl
  case c3 => exact rfl
  case c4 => exact rfl
  case c5 => decide
  intro dp un fr gd s L hd hu hB F
  obtain ⟨X, loose, mean, mg, mb, T⟩ := hB
  have N : News h L s.heap [] := News.nil
  generalize hlp : Stmt.For _ _ _ _ _ = lp
  k_steps
  subst hlp
  refine wpAny_For ?_
  k_steps
  rename_i da _ o0 hlo hs0 _ _ _ _ _ F1 N1
  refine iter_list rfl F1 N1 [] ⟨_, F1.keep _ _ hla, rfl, n0, rfl⟩ (.inl ⟨_, hla⟩) hr ?_
  intro I h2 St eI it st F2 N2 lt
  dsimp only
  have hrI : da < I := lt (da, _) (.head _)
  refine for_inv it st F2 N2 (fun p hp => Nat.ne_of_lt (lt p hp)) (KeqvJ w da) (by intro _ _ _ _ p hp; cases hp) ⟨_, [], rfl, hs0, .nil, rfl, trivial⟩ ?_ ?_
  · rintro done ⟨k, vv⟩ rest v oI h3 tk3 m3 news3 hsp ⟨tv, rfl⟩ F3 N3 off ⟨o, kvs, rfl, hdo, hdr, vals⟩
    obtain ⟨hk, hv, hkl⟩ := hp (k, vv) (by rw [hsp]; simp)
    dsimp only at hk hv hkl
    have hl1 : Str.length (S (k ++ 61 :: vv)) ≤ 10001 := by rw [S_length]; simp; omega
    have F := Fr.shows F3 vals
    clear F3 F2 N2 F1 N1 vals
    k_steps
    rename List.map _ _ = _ => hsplit
    rw [split_eq k vv hk] at hsplit
    obtain ⟨tk1, tk2, rfl⟩ := two_strs hsplit
    simp only [strValues, List.map_cons, List.map_nil] at *
    have hvl : Str.length (S vv) ≤ 10000 := by rw [S_length]; omega
    have hvp : 1 ≤ Str.length (S vv) := by
      rw [S_length]
      cases vv with
      | nil => exact absurd rfl hv
      | cons _ _ => simp
    have hst : keqv (done ++ [(k, vv)]) = put (keqv done) (S k) (unq vv) := by simp [keqv]
    have hkl2 : kvs.length ≤ 1000 := by
      have h1 := hdr.length
      have h2 := keqv_len done
      have h3 := congrArg List.length hsp
      simp at h3
      omega
    have e34 : Str.ofString "\"" = S [34] := by decide +kernel
    have hv0 : ∀ b : Bool, (Txt.item (S vv) 0 == S [34]) = b → decide (vv.head? = some 34) = b := by
      intro b e
      cases vv with
      | nil => exact absurd rfl hv
      | cons a r =>
        rw [item_first] at e
        have := sign_eq2 e
        simpa using this
    have hv1 : ∀ b : Bool, (Txt.item (S vv) (-1) == S [34]) = b → decide (vv.getLast? = some 34) = b := by
      intro b e
      rw [item_last vv hv] at e
      have := sign_eq2 e
      rw [List.getLast?_eq_some_getLast hv]
      simpa using this
    have hne : ∀ p ∈ [(I, oI)], p.1 ≠ da := by intro p hp; rw [List.mem_singleton.mp hp]; exact Ne.symm (Nat.ne_of_lt hrI)
    have hoff' : ∀ o', ∀ p ∈ [(da, (o' : Obj))], p.1 ≠ I := by intro o' p hp; rw [List.mem_singleton.mp hp]; exact Nat.ne_of_lt hrI
    k_steps
    · rename (Txt.item (S vv) 0 == _) = true => c1
      rename (Txt.item (S vv) (-1) == _) = true => c2
      rw [e34] at c1 c2
      have g1 := of_decide_eq_true (hv0 _ c1)
      have g2 := of_decide_eq_true (hv1 _ c2)
      rename Fr _ _ _ _ => F9
      rename News _ _ _ _ => N9
      replace N9 : News _ _ _ ([(I, oI)] ++ (da, o) :: []) := fun p hp => N9 p (.tail _ hp)
      rw [slice_mid vv hv]
      refine set_N (pre := [(I, oI)]) (post := []) F9 N9 hdo str_is hne (by intro p hp; cases hp) (by omega) ?_
      intro h9 o9 F9 N9 hd9
      dsimp only
      refine wpAny_execs_nil ?_
      dsimp only
      refine Mid.mk F9 N9 (hoff' o9) ⟨o9, _, rfl, hd9, ?_, rfl, trivial⟩
      rw [hst, unq, if_pos ⟨g1, g2⟩]
      exact hdr.put ⟨_, rfl⟩
    · rename (Txt.item (S vv) (-1) == _) = false => c2
      rw [e34] at c2
      have g2 := of_decide_eq_false (hv1 _ c2)
      rename Fr _ _ _ _ => F9
      rename News _ _ _ _ => N9
      replace N9 : News _ _ _ ([(I, oI)] ++ (da, o) :: []) := fun p hp => N9 p (.tail _ hp)
      refine set_N (pre := [(I, oI)]) (post := []) F9 N9 hdo str_is hne (by intro p hp; cases hp) (by omega) ?_
      intro h9 o9 F9 N9 hd9
      dsimp only
      refine wpAny_execs_nil ?_
      dsimp only
      refine Mid.mk F9 N9 (hoff' o9) ⟨o9, _, rfl, hd9, ?_, rfl, trivial⟩
      rw [hst, unq, if_neg (fun q => g2 q.2)]
      exact hdr.put ⟨_, rfl⟩
    · rename (Txt.item (S vv) 0 == _) = false => c1
      rw [e34] at c1
      have g1 := of_decide_eq_false (hv0 _ c1)
      rename Fr _ _ _ _ => F9
      rename News _ _ _ _ => N9
      replace N9 : News _ _ _ ([(I, oI)] ++ (da, o) :: []) := fun p hp => N9 p (.tail _ hp)
      refine set_N (pre := [(I, oI)]) (post := []) F9 N9 hdo str_is hne (by intro p hp; cases hp) (by omega) ?_
      intro h9 o9 F9 N9 hd9
      dsimp only
      refine wpAny_execs_nil ?_
      dsimp only
      refine Mid.mk F9 N9 (hoff' o9) ⟨o9, _, rfl, hd9, ?_, rfl, trivial⟩
      rw [hst, unq, if_neg (fun q => g1 q.1)]
      exact hdr.put ⟨_, rfl⟩
  · rintro h3 tk3 m3 news3 F3 N3 ⟨o, kvs, rfl, hdo, hdr, vals⟩
    have F := Fr.shows F3 vals
    clear F3
    k_steps
    have hn := N3 _ (.head _)
    exact fin_of F ⟨da, o, kvs, rfl, hn.1, hn.2.2, hlo, hdo, hdr⟩
end Mine
namespace Mine
theorem resetF7 : True := by
  w_top off
  trivial
local macro_rules | `(tactic| walk_at "exec Assign cons ListComp") => `(tactic| k_dflt (refine comp_openA ?_))
noncomputable def codeN (m : Bool) (n s : Nat) : Nat := 4 * n + 2 * s + (if m then 1 else 0)
theorem code_eq (mm : Bool) (n s : Nat) : (4 * (n : Int) + 2 * (s : Int) + (if S (hostL mm) = Str.ofString "m" then 1 else 0)) = (codeN mm n s : Nat) := by
  have h1 : S (hostL true) = Str.ofString "m" := by decide +kernel
  have h2 : S (hostL false) ≠ Str.ofString "m" := by decide +kernel
  cases mm
  · rw [if_neg h2]; simp [codeN]
  · rw [if_pos h1]; simp [codeN]
theorem law_codeN {w : World} {h : Heap} {mm : Bool} {n s : Nat} {t1 t2 t3 : Tok} :
    Calls w 1 3 104 [.str (S (hostL mm)) t1, .int n t2, .int s t3] h (fun _ v => isIntR (codeN mm n s : Nat) v) := by
  intro A s' Q E hs hh hd hu hB hQ
  refine law_code A s' Q E hs hh hd hu hB fun v h' tk' k r => hQ v h' tk' k ?_
  obtain ⟨t, rfl⟩ := r
  rw [code_eq]; exact ⟨t, rfl⟩
/-- the codes on the way up -/
noncomputable def wayUp (m : Bool) (k n : Nat) : List Nat :=
  if k = 0 then [] else
    let c := if m = true ∧ k % 2 = 0 then 2 else 1
    [codeN m (n / 16 ^ c) 1, codeN m (n / 16 ^ c) 0] ++ wayUp m (k - c) (n / 16 ^ c)
termination_by k
decreasing_by split <;> omega
noncomputable def wayL (m : Bool) (n s : Nat) : List Nat := ([1, 0].filter (fun o => decide (o ≤ s))).map (codeN m n) ++ wayUp m (figs n).length n
theorem figs_len_iff : ∀ (k n : Nat), 16 ^ k ≤ n ↔ k < (figs n).length := by
  intro k
  induction k with
  | zero =>
    intro n
    by_cases h : n = 0
    · subst h; rw [figs_zero]; simp
    · rw [figs_pos h]; simp; omega
  | succ k ih =>
    intro n
    by_cases h : n = 0
    · subst h; rw [figs_zero]; simp
    · rw [figs_pos h, List.length_append, List.length_singleton]
      have := ih (n / 16)
      rw [Nat.pow_succ]
      constructor
      · intro q
        have : 16 ^ k ≤ n / 16 := (Nat.le_div_iff_mul_le (by decide)).mpr q
        omega
      · intro q
        have : 16 ^ k ≤ n / 16 := this.mpr (by omega)
        exact (Nat.le_div_iff_mul_le (by decide)).mp this
theorem figs_len_le (n : Nat) (h : n < 16 ^ 40) : (figs n).length ≤ 40 := by
  rcases Nat.lt_or_ge 40 (figs n).length with q | q
  · exact absurd ((figs_len_iff 40 n).mpr q) (by omega)
  · exact q
theorem reps_map : ∀ {as : List Nat} {ys : List Value}, Reps (fun (a : Nat) v => isIntR (a : Int) v) as ys → Reps isIntR (as.map fun c => ((c : Nat) : Int)) ys
  | _, _, .nil => .nil
  | _, _, .cons h r => .cons h (reps_map r)
theorem filt_map (f : Nat → Nat) (s : Nat) : ∀ l : List Nat, (l.filter (fun o => decide (o ≤ s))).map f = l.filterMap (fun o => if o ≤ s then some (f o) else none)
  | [] => rfl
  | a :: r => by
    have ih := filt_map f s r
    by_cases h : a ≤ s <;> simp [h, ih]
noncomputable def mkWayTail {w : World} {oc : Value} {od : Option Addr} {osl : Array (Option Value)} {name qual : Str} {params : Arguments} {scope : Scope} {dV kV doc pm cdv ct : Value} {an : Option Addr} {s0 s1 s2 s4 c1 c2 c3 c4 : Stmt} {t2 : Expr} {o : List Stmt} {p : Pos}
    (_ : (hd.heap_39 w.params).lookup 121 = some ⟨oc, od, .func (fnOf name qual params [s0, s1, s2, .While t2 [c1, c2, c3, c4] o p, s4] scope dV kV doc pm an cdv ct), osl⟩) : List Stmt × Str × Scope × Value := ([c2, c3, c4], qual, scope, cdv)
/-- the last statements of the second loop's body in _law_way, read off the written heap -/
noncomputable def wayTail (w : World) : List Stmt × Str × Scope × Value := mkWayTail (w := w) (by k_is)
theorem way_tail {w : World} {h : Heap} {L D : Addr} {m : Str → Option Value} {dp un : Nat} {fr : Option (List Env)} {gd : Option (List Code)} {s : Shared} {o1 oN o3 : Obj} {ys : List Value} {n' k num c : Nat} {t tn tc t1 : Tok} {mm : Bool} {Q : Flow → Shared → Prop}
    (hB : Base w h) (hd : dp + 1 < recursionLimit) (hu : un + 247 < cLine) (F : Fr h L s.heap m) (N : News h L s.heap [(D, W.listOf ys.toArray n'), (L + 1 + 1 + 1, o1), (L + 1 + 1, oN), (L + 1, o3)]) (hL1 : L + 1 + 1 + 1 < D)
    (e3 : o3.data = .cell (some (.str (S (hostL mm)) t1))) (eN : oN.data = .cell (some (.int ((num : Nat) : Int) tn))) (hyl : ys.length ≤ 100) (hc0 : (0 : Int) ≤ (c : Int)) (hc2 : (c : Int) ≤ 2) (hck : c ≤ k)
    (vt : Vals m [(Str.ofString "way", .ref D), (Str.ofString "figures", .int ((k : Nat) : Int) t), (Str.ofString "cut", .int ((c : Nat) : Int) tc)])
    (hQ : ∀ h' tk m' oN' u1 u2 n'' t' tn', Fr h L h' m' → News h L h' [(D, W.listOf (ys ++ [Value.int ((codeN mm (num / 16 ^ c) 1 : Nat) : Int) u1, Value.int ((codeN mm (num / 16 ^ c) 0 : Nat) : Int) u2]).toArray n''), (L + 1 + 1 + 1, o1), (L + 1 + 1, oN'), (L + 1, o3)] →
      oN'.data = .cell (some (.int ((num / 16 ^ c : Nat) : Int) tn')) → Vals m' [(Str.ofString "way", .ref D), (Str.ofString "figures", .int ((k - c : Nat) : Int) t')] → Q .next { s with heap := h', toks := tk }) :
    wpAny (model prog w) (At dp un fr gd) (execs (wayTail w).1 (envOfC (wayTail w).2.1 (wayTail w).2.2.1 L 121 (wayTail w).2.2.2)) Q (fun _ _ => False) s := by
  have hB0 := hB
  obtain ⟨X, loose, mean, mg, mb, T⟩ := hB
  dsimp only [wayTail, mkWayTail]
  have en : (num : Int).fdiv (16 ^ Int.toNat (c : Int)) = ((num / 16 ^ c : Nat) : Int) := by
    rw [Int.toNat_natCast]
    have := fdiv_nat num (16 ^ c)
    rwa [Int.natCast_pow] at this
  have efg : (k : Int) - (c : Int) = ((k - c : Nat) : Int) := by omega
  replace F := Fr.shows F vt
  k_steps
  have hP : (0 : Int) < 16 ^ Int.toNat (c : Int) := Int.pow_pos (by decide)
  have hlog : ((16 : Int) ^ Int.toNat (c : Int)).natAbs.log2 < 9000 := by
    rcases (by omega : c = 0 ∨ c = 1 ∨ c = 2) with rfl | rfl | rfl <;> decide +kernel
  refine floordiv_int (Int.ne_of_gt hP) ?_ (Or.inl (PyProof.noPylong_of_log2 hlog))
  k_steps
  rename Obj.data _ = Data.cell (some (Value.int (Int.fdiv _ _) _)) => hcell
  rw [en] at hcell ⊢
  rename Fr _ _ _ _ => F9
  rename News _ _ _ _ => N9
  refine use (law_codeN (s := 1)) hB0 F9 N9 (by omega) (by omega) ?_
  intro v1 h9 tk9 k9 F9 N9 r1
  obtain ⟨u1, rfl⟩ := r1
  dsimp only
  k_steps
  rename Fr _ _ _ _ => F9
  rename News _ _ _ _ => N9
  refine use (law_codeN (s := 0)) hB0 F9 N9 (by omega) (by omega) ?_
  intro v1 h9 tk9 k9 F9 N9 r1
  obtain ⟨u2, rfl⟩ := r1
  dsimp only
  k_steps
  rename Fr _ _ _ _ => F9
  rename News _ _ _ _ => N9
  refine extend_in (own := []) (rest := [(L + 1 + 1 + 1, o1), (L + 1 + 1, _), (L + 1, o3)]) F9 (fun p hp => N9 p (.tail _ hp)) (fun p hp => nomatch hp) ?_ (N9 _ (.head _)).1 ?_ ?_
  · intro p hp
    rcases List.mem_cons.mp hp with rfl | hp
    · exact Nat.ne_of_lt hL1
    rcases List.mem_cons.mp hp with rfl | hp
    · exact Nat.ne_of_lt (Nat.lt_of_succ_lt hL1)
    · rw [List.mem_singleton.mp hp]; exact Nat.ne_of_lt (Nat.lt_of_succ_lt (Nat.lt_of_succ_lt hL1))
  · intro h9 n9 F9 N9
    dsimp only
    exact wpAny_execs_nil (hQ h9 _ _ _ u1 u2 n9 _ _ F9 N9 hcell ⟨rfl, congrArg (fun z => some (Value.int z _)) efg, trivial⟩)
  · rw [sizeLine_eq]; simp; omega
/-- what holds between two turns of the loops in _law_way -/
def WayI1 (h : Heap) (L D : Addr) (s : Shared) (ys : List Value) (o1 o2 o3 : Obj) (n k : Nat) (s' : Shared) : Prop := ∃ h' tk m' t f, s' = { s with heap := h', toks := tk } ∧ Fr h L h' m' ∧ News h L h' [(D, LCg.lst ys), (L + 1 + 1 + 1, o1), (L + 1 + 1, o2), (L + 1, o3)] ∧ Vals m' [(Str.ofString "way", .ref D), (Str.ofString "figures", .int ((f : Nat) : Int) t)] ∧ f ≤ (figs n).length ∧ k = (figs n).length - f
def WayI2 (h : Heap) (L D : Addr) (s : Shared) (mm : Bool) (n slash : Nat) (o1 o3 : Obj) (k : Nat) (s' : Shared) : Prop := ∃ h' tk m' oN ys' n' t tn num done, s' = { s with heap := h', toks := tk } ∧ Fr h L h' m' ∧ News h L h' [(D, W.listOf ys'.toArray n'), (L + 1 + 1 + 1, o1), (L + 1 + 1, oN), (L + 1, o3)] ∧ oN.data = .cell (some (.int ((num : Nat) : Int) tn)) ∧ Vals m' [(Str.ofString "way", .ref D), (Str.ofString "figures", .int ((k : Nat) : Int) t)] ∧ Reps isIntR (done.map fun c => ((c : Nat) : Int)) ys' ∧ wayL mm n slash = done ++ wayUp mm k num ∧ 2 * k + done.length ≤ 100 ∧ num ≤ n ∧ k ≤ 40
/-- what _law_way hands back -/
def WayR (h : Heap) (mm : Bool) (n slash : Nat) (h' : Heap) (v : Value) : Prop := ∃ a ys k, v = .ref a ∧ h'.get? a = some (W.listOf ys.toArray k) ∧ h.get? a = none ∧ Reps isIntR ((wayL mm n slash).map fun c => ((c : Nat) : Int)) ys
theorem law_way {w : World} {h : Heap} {mm : Bool} {n slash : Nat} {t1 t2 t3 : Tok} (hs : slash ≤ 1) (hn : n < 16 ^ 40) :
    Calls w 2 250 121 [.str (S (hostL mm)) t1, .int n t2, .int slash t3] h (WayR h mm n slash) := by
  refine' callsC_of (d := 1) (u := 247) (binds := [(Str.ofString "host", .str (S (hostL mm)) t1), (Str.ofString "number", .int n t2), (Str.ofString "slash", .int slash t3)]) ?k6 ?k7 ?kb ?kB ?kD ?_ ?c2 ?c3 ?c4
  case k6 => k_is
  case k7 => k_is
  case kb => exact fun _ => BindsTo.of_eq rfl
  case kB => rfl
  case kD => decide
  case c2 => exact rfl
  case c3 => exact rfl
  case c4 => exact rfl
  intro dp un fr gd s L cells hd hu hB F N Y
  have hB0 := hB
  obtain ⟨X, loose, mean, mg, mb, T⟩ := hB
  obtain ⟨o1, o2, o3, rfl, d1, d2, d3⟩ := CellsAre.three Y
  clear Y
  have e1 : o1.data = .cell (some (.int slash t3)) := d1
  have e2 : o2.data = .cell (some (.int n t2)) := d2
  have e3 : o3.data = .cell (some (.str (S (hostL mm)) t1)) := d3
  clear d1 d2 d3
  k_steps
  rename_i TD _ F1 N1 l1
  refine iter_tupleN rfl F1 N1 (vs := [Value.int 1 s.toks, Value.int 0 (s.toks + 1)]) (as := [(1 : Nat), 0]) (R := fun (a : Nat) v => isIntR (a : Int) v) (.head _) (.cons ⟨_, rfl⟩ (.cons ⟨_, rfl⟩ .nil)) ?_
  intro I h2 St eI it st F2 N2 lt
  dsimp only
  refine comp_blockA it st F2 N2 (fun p hp => Nat.ne_of_lt (lt p hp)) (fun p hp => by rw [List.mem_singleton.mp hp]; exact .head _) (by decide) (by decide) rfl rfl rfl rfl rfl (fun o => if o ≤ slash then some (codeN mm n o) else none) (fun (a : Nat) v => isIntR (a : Int) v) ?_ ?_
  · intro a v oI C oC D oD m2 h4 tk4 ha hv hC hx F4 N4 n1 n2 n3 l1 l2
    obtain ⟨ta, rfl⟩ := hv
    refine wpAny_tests_one ?_
    k_steps
    · rename (a : Int) ≤ (slash : Int) => hle
      refine use law_codeN hB0 F4 N4 (by omega) (by omega) ?_
      intro v h5 tk5 k5 F5 N5 r
      k_steps
      exact CEnd.mk F5 N5 ⟨_, if_pos (by omega), r⟩
    · rename ¬ ((a : Int) ≤ (slash : Int)) => hle
      exact CEnd.mk F4 N4 (if_neg (by omega))
  · intro D h4 tk4 ys F4 N4 l4 hR
    dsimp only
    generalize hl1 : Stmt.While _ _ _ _ = lp1
    k_steps
    subst hl1
    rename Fr _ _ _ _ => F5
    rename News _ _ _ _ => N5
    replace N5 : News _ _ _ [(D, LCg.lst ys), (L + 1 + 1 + 1, o1), (L + 1 + 1, o2), (L + 1, o3)] := fun p hp => N5 p (by
      rcases List.mem_cons.mp hp with rfl | hp
      · exact .head _
      · exact .tail _ (.tail _ hp))
    have hK := figs_len_le n hn
    refine while_rule (WayI1 h L D s ys o1 o2 o3 n) ?_ (figs n).length ⟨_, _, _, _, 0, rfl, F5, N5, ⟨rfl, rfl, trivial⟩, Nat.zero_le _, rfl⟩
    rintro k s' ⟨h6, tk6, m6, t6, f, rfl, F6, N6, vals, hf, rfl⟩
    have F := Fr.shows F6 vals
    clear F6 vals F5 N5
    have hf40 : (f : Int) ≤ 40 := by omega
    have hf0 : (0 : Int) ≤ (f : Int) := by omega
    generalize hl2 : Stmt.While _ _ _ _ = lp2
    k_steps
    · rename Fr _ _ _ _ => F9
      rename News _ _ _ _ => N9
      rename _ ≤ (n : Int) => hle
      have hlt : f < (figs n).length := (figs_len_iff f n).mp (by
        rw [show ((f : Int)).toNat = f from by omega] at hle
        exact_mod_cast hle)
      exact Stop.mk ⟨(figs n).length - (f + 1), by omega, _, _, _, _, f + 1, rfl, F9, N9, ⟨rfl, rfl, trivial⟩, by omega, rfl⟩
    · subst hl2
      rename ¬ _ ≤ (n : Int) => hle
      have hfe : f = (figs n).length := by
        have : ¬ f < (figs n).length := fun q => hle (by
          have := (figs_len_iff f n).mpr q
          rw [show ((f : Int)).toNat = f from by omega]
          exact_mod_cast this)
        omega
      subst hfe
      refine while_rule (WayI2 h L D s mm n slash o1 o3)
        ?_ (figs n).length ⟨_, _, _, _, ys, _, _, _, n, _, rfl, F, N6, e2, ⟨rfl, rfl, trivial⟩, reps_map hR, ?_, ?_, Nat.le_refl _, hK⟩
      · rintro k s' ⟨h7, tk7, m7, oN, ys7, n7, t7, tn7, num, done, rfl, F7, N7, eN, vals, hys, hway, hkd, hnum, hk40⟩
        have F8 := Fr.shows F7 vals
        have hL1 : L + 1 + 1 + 1 < D := l4 (L + 1 + 1 + 1, o1) (.tail _ (.head _))
        have hyl : ys7.length ≤ 100 := by have := hys.length; simp at this; omega
        clear F7 F vals N6
        show wpAny _ _ (isTrue _ _ _) (fun b s₂ => if b then wpAny _ _ (execs (_ :: (wayTail w).1) _) _ _ s₂ else _) _ _
        generalize hst : (wayTail w).1 = st
        k_steps
        · rename (S (hostL mm) == _) = true => cm
          rename (k : Int).fmod 2 = 0 => ck
          have hm : mm = true := by cases mm <;> revert cm <;> decide +kernel
          have hk2 : k % 2 = 0 := by rw [show (k : Int).fmod 2 = ((k % 2 : Nat) : Int) from fmod_nat k 2] at ck; omega
          have hcc : (if mm = true ∧ k % 2 = 0 then 2 else 1) = 2 := if_pos ⟨hm, hk2⟩
          have hup : wayUp mm k num = [codeN mm (num / 16 ^ 2) 1, codeN mm (num / 16 ^ 2) 0] ++ wayUp mm (k - 2) (num / 16 ^ 2) := by
            rw [wayUp, if_neg (by omega)]; simp only [hcc]
          have hkc : 2 ≤ k := by omega
          have hn2 : num / 16 ^ 2 ≤ n := Nat.le_trans (Nat.div_le_self _ _) hnum
          subst hst
          rename Fr _ _ _ _ => F9
          rename News _ _ _ _ => N9
          refine way_tail (mm := mm) (c := 2) (k := k) (num := num) hB0 hd hu F9 N9 hL1 e3 eN hyl (by decide) (by decide) hkc ⟨rfl, rfl, rfl, trivial⟩ ?_
          intro h9 tk9 m9 oN' u1 u2 n9 t9 tn9 F9 N9 eN' V9
          dsimp only
          refine Stop.mk ⟨k - 2, by omega, _, _, _, _, _, n9, _, _, num / 16 ^ 2, done ++ [codeN mm (num / 16 ^ 2) 1, codeN mm (num / 16 ^ 2) 0], rfl, F9, N9, eN', V9, ?_, ?_, ?_, hn2, by omega⟩
          · rw [List.map_append]
            exact hys.append (.cons ⟨_, rfl⟩ (.cons ⟨_, rfl⟩ .nil))
          · rw [hway, hup, List.append_assoc]
          · simp; omega
        · rename (S (hostL mm) == _) = true => cm
          rename (k : Int).fmod 2 ≠ 0 => ck
          have hk2 : ¬ k % 2 = 0 := by rw [show (k : Int).fmod 2 = ((k % 2 : Nat) : Int) from fmod_nat k 2] at ck; omega
          have hcc : (if mm = true ∧ k % 2 = 0 then 2 else 1) = 1 := if_neg (fun q => hk2 q.2)
          have hup : wayUp mm k num = [codeN mm (num / 16 ^ 1) 1, codeN mm (num / 16 ^ 1) 0] ++ wayUp mm (k - 1) (num / 16 ^ 1) := by
            rw [wayUp, if_neg (by omega)]; simp only [hcc]
          have hkc : 1 ≤ k := by omega
          have hn2 : num / 16 ^ 1 ≤ n := Nat.le_trans (Nat.div_le_self _ _) hnum
          subst hst
          rename Fr _ _ _ _ => F9
          rename News _ _ _ _ => N9
          refine way_tail (mm := mm) (c := 1) (k := k) (num := num) hB0 hd hu F9 N9 hL1 e3 eN hyl (by decide) (by decide) hkc ⟨rfl, rfl, rfl, trivial⟩ ?_
          intro h9 tk9 m9 oN' u1 u2 n9 t9 tn9 F9 N9 eN' V9
          dsimp only
          refine Stop.mk ⟨k - 1, by omega, _, _, _, _, _, n9, _, _, num / 16 ^ 1, done ++ [codeN mm (num / 16 ^ 1) 1, codeN mm (num / 16 ^ 1) 0], rfl, F9, N9, eN', V9, ?_, ?_, ?_, hn2, by omega⟩
          · rw [List.map_append]
            exact hys.append (.cons ⟨_, rfl⟩ (.cons ⟨_, rfl⟩ .nil))
          · rw [hway, hup, List.append_assoc]
          · simp; omega
        · rename (S (hostL mm) == _) = false => cm
          have hm : mm ≠ true := by cases mm <;> revert cm <;> decide +kernel
          have hcc : (if mm = true ∧ k % 2 = 0 then 2 else 1) = 1 := if_neg (fun q => hm q.1)
          have hup : wayUp mm k num = [codeN mm (num / 16 ^ 1) 1, codeN mm (num / 16 ^ 1) 0] ++ wayUp mm (k - 1) (num / 16 ^ 1) := by
            rw [wayUp, if_neg (by omega)]; simp only [hcc]
          have hkc : 1 ≤ k := by omega
          have hn2 : num / 16 ^ 1 ≤ n := Nat.le_trans (Nat.div_le_self _ _) hnum
          subst hst
          rename Fr _ _ _ _ => F9
          rename News _ _ _ _ => N9
          refine way_tail (mm := mm) (c := 1) (k := k) (num := num) hB0 hd hu F9 N9 hL1 e3 eN hyl (by decide) (by decide) hkc ⟨rfl, rfl, rfl, trivial⟩ ?_
          intro h9 tk9 m9 oN' u1 u2 n9 t9 tn9 F9 N9 eN' V9
          dsimp only
          refine Stop.mk ⟨k - 1, by omega, _, _, _, _, _, n9, _, _, num / 16 ^ 1, done ++ [codeN mm (num / 16 ^ 1) 1, codeN mm (num / 16 ^ 1) 0], rfl, F9, N9, eN', V9, ?_, ?_, ?_, hn2, by omega⟩
          · rw [List.map_append]
            exact hys.append (.cons ⟨_, rfl⟩ (.cons ⟨_, rfl⟩ .nil))
          · rw [hway, hup, List.append_assoc]
          · simp; omega
        · have hk0 : k = 0 := by omega
          subst hk0
          have hup : wayUp mm 0 num = [] := by rw [wayUp, if_pos rfl]
          rw [hup, List.append_nil] at hway
          have hn9 := N7 _ (.head _)
          exact fin_of F8 ⟨D, ys7, n7, rfl, hn9.1, hn9.2.2, by rw [hway]; exact hys⟩
      · unfold wayL
        rw [filt_map]
      · have : (List.filterMap (fun o => if o ≤ slash then some (codeN mm n o) else none) [1, 0]).length ≤ 2 := List.length_filterMap_le ..
        omega
end Mine
namespace Mine
theorem resetF8 : True := by
  w_top off
  trivial
structure Row where
  m : Bool
  here : Nat
  slash : Nat
  word : List Nat
noncomputable def pieceL (k : Nat) : List Nat := [[], [34], [44], [32], [92], [61], [47], [97], [65]].getD k []
noncomputable def rowStep (st : Bool × Nat) (v : Nat) : Bool × Nat :=
  if v % 5 = 0 then (decide (v / 5 % 2 = 1), v / 10 % 4096)
  else if v % 5 = 1 then (st.1, 16 * st.2 + v / 5 % 16)
  else if v % 5 = 2 then (st.1, st.2 / 16)
  else if v % 5 = 3 then (!st.1, st.2)
  else st
noncomputable def rowOf (st : Bool × Nat) (v : Nat) : Row := ⟨st.1, st.2, v / 40960 % 2, pieceL (v / 81920 % 9) ++ pieceL (v / 737280)⟩
noncomputable def stOf (xs : List Int) : Bool × Nat := xs.foldl (fun st x => rowStep st (x % 6635520).toNat) (true, 0)
noncomputable def rowsFrom (st : Bool × Nat) : List Int → List Row
  | [] => []
  | x :: r => let st' := rowStep st (x % 6635520).toNat; rowOf st' (x % 6635520).toNat :: rowsFrom st' r
noncomputable def seed4 : List Int := [1556495, 5570621, 2580483, 2]
noncomputable def rowsL (ns : List Int) : List Row := rowsFrom (true, 0) (seed4 ++ ns.take 4)
noncomputable def rowVals (r : Row) (t1 t2 t3 t4 : Tok) : List Value := [.str (S (hostL r.m)) t1, .int r.here t2, .int r.slash t3, .str (S r.word) t4]
def isRowR (h : Heap) (r : Row) (v : Value) : Prop := ∃ b t1 t2 t3 t4, v = .ref b ∧ IsTup h b (rowVals r t1 t2 t3 t4).toArray
noncomputable def pobj (t : Tok) : Obj := W.listOf #[Value.str (Str.ofString "") t, Value.str (Str.ofString "\"") (t + 1), Value.str (Str.ofString ",") (t + 1 + 1), Value.str (Str.ofString " ") (t + 1 + 1 + 1), Value.str (Str.ofString "\\") (t + 1 + 1 + 1 + 1),
  Value.str (Str.ofString "=") (t + 1 + 1 + 1 + 1 + 1), Value.str (Str.ofString "/") (t + 1 + 1 + 1 + 1 + 1 + 1), Value.str (Str.ofString "a") (t + 1 + 1 + 1 + 1 + 1 + 1 + 1), Value.str (Str.ofString "A") (t + 1 + 1 + 1 + 1 + 1 + 1 + 1 + 1)] 0
theorem reps_ints : ∀ {vs : List Value} {ns : List Int}, IntsAre vs ns → Reps isIntR ns vs
  | _, _, .nil => .nil
  | _, _, .cons _ t r => .cons ⟨t, rfl⟩ (reps_ints r)
/-- a row's tuple, in a part of the ledger -/
def rowIn (tl : List (Addr × Obj)) (r : Row) (v : Value) : Prop := ∃ b t1 t2 t3 t4, v = .ref b ∧ (b, ({ cls := .type "tuple", data := .seq (rowVals r t1 t2 t3 t4).toArray } : Obj)) ∈ tl
theorem pieces_at (k : Nat) (h : k < 9) : [Str.ofString "", Str.ofString "\"", Str.ofString ",", Str.ofString " ", Str.ofString "\\", Str.ofString "=", Str.ofString "/", Str.ofString "a", Str.ofString "A"].getD k Str.empty = S (pieceL k) := by
  have : ∀ k : Nat, k < 9 → [Str.ofString "", Str.ofString "\"", Str.ofString ",", Str.ofString " ", Str.ofString "\\", Str.ofString "=", Str.ofString "/", Str.ofString "a", Str.ofString "A"].getD k Str.empty = S (pieceL k) := by decide +kernel
  exact this k h
theorem pm_at (k : Nat) (h : k < 2) : Txt.item (Str.ofString "pm") (k : Int) = S (hostL (decide (k = 1))) := by
  have : ∀ k : Nat, k < 2 → Txt.item (Str.ofString "pm") (k : Int) = S (hostL (decide (k = 1))) := by decide +kernel
  exact this k h
theorem rowsFrom_snoc (x : Int) : ∀ (xs : List Int) (st : Bool × Nat), rowsFrom st (xs ++ [x]) = rowsFrom st xs ++ [rowOf (rowStep (xs.foldl (fun st x => rowStep st (x % 6635520).toNat) st) (x % 6635520).toNat) (x % 6635520).toNat]
  | [], st => rfl
  | y :: r, st => by
    have ih := rowsFrom_snoc x r (rowStep st (y % 6635520).toNat)
    simp only [List.cons_append, rowsFrom, ih, List.foldl_cons]
theorem rowsFrom_len : ∀ (xs : List Int) (st : Bool × Nat), (rowsFrom st xs).length = xs.length
  | [], _ => rfl
  | x :: r, st => by simp only [rowsFrom, List.length_cons, rowsFrom_len r]
theorem rowStep_lt (mm : Bool) (he v k : Nat) (h : he < 16 ^ (3 + k)) : (rowStep (mm, he) v).2 < 16 ^ (3 + (k + 1)) := by
  have e : 16 ^ (3 + (k + 1)) = 16 * 16 ^ (3 + k) := by rw [show 3 + (k + 1) = (3 + k) + 1 from by omega, Nat.pow_succ]; omega
  have e2 : 4096 ≤ 16 ^ (3 + k) := by
    have : 16 ^ 3 ≤ 16 ^ (3 + k) := Nat.pow_le_pow_right (by decide) (by omega)
    simpa using this
  rw [e]
  unfold rowStep
  dsimp only
  have h1 := Nat.mod_lt (v / 10) (y := 4096) (by decide)
  have h2 := Nat.mod_lt (v / 5) (y := 16) (by decide)
  repeat' split
  all_goals (dsimp only; omega)
/-- what holds between two turns of _law_rows -/
def RowJ (ra pa ca I : Addr) (tp : Tok) (ws : List Value) (done : List Int) (m' : Str → Option Value) (news' : List (Addr × Obj)) : Prop :=
  ∃ ys n tl t1 t2, news' = (ra, W.listOf ys.toArray n) :: (pa, pobj tp) :: (ca, W.listOf ws.toArray 0) :: tl ∧ (∀ p ∈ tl, I < p.1) ∧
    Reps (rowIn tl) (rowsFrom (true, 0) done) ys ∧ (stOf done).2 < 16 ^ (3 + done.length) ∧
    Vals m' [(Str.ofString "rows", .ref ra), (Str.ofString "pieces", .ref pa), (Str.ofString "host", .str (S (hostL (stOf done).1)) t1), (Str.ofString "here", .int ((stOf done).2 : Nat) t2)]
theorem row_end {w : World} {A : Around} {E : Value → Shared → Prop} {s s' : Shared} {h₀ : Heap} {L : Addr} {m : Str → Option Value} {all tl : List (Addr × Obj)} {ra pa ca I D : Addr} {oI : Obj} {tp ta tb tc td : Tok} {ws ys : List Value} {n : Nat}
    {mm : Bool} {he : Nat} {hostV wordV : Str} {hereV slashV : Int} {done : List Int} {x : Int}
    (F : Fr h₀ L s'.heap m) (N : News h₀ L s'.heap all) (hD : (D, ({ cls := .type "tuple", data := .seq #[.str hostV ta, .int hereV tb, .int slashV tc, .str wordV td] } : Obj)) ∈ all) (hI : (I, oI) ∈ all) (hra : (ra, W.listOf ys.toArray n) ∈ all)
    (hpa : (pa, pobj tp) ∈ all) (hca : (ca, W.listOf ws.toArray 0) ∈ all) (htl : ∀ p ∈ tl, p ∈ all) (rp : ra < pa) (rc : ra < ca) (rI : ra < I) (pI : pa < I) (cI : ca < I) (ID : I < D) (tlI : ∀ p ∈ tl, I < p.1) (hyl : ys.length ≤ 1000)
    (hso : stOf done = (mm, he)) (hhere : he < 16 ^ (3 + done.length)) (hys : Reps (rowIn tl) (rowsFrom (true, 0) done) ys)
    (e1 : hostV = S (hostL (rowStep (mm, he) (x % 6635520).toNat).1)) (e2 : hereV = ((rowStep (mm, he) (x % 6635520).toNat).2 : Nat)) (e3 : slashV = (((x % 6635520).toNat / 40960 % 2 : Nat) : Int))
    (e4 : wordV = S (pieceL ((x % 6635520).toNat / 81920 % 9) ++ pieceL ((x % 6635520).toNat / 737280)))
    (vr : m (Str.ofString "rows") = some (.ref ra)) (vp : m (Str.ofString "pieces") = some (.ref pa)) (vh : m (Str.ofString "host") = some (.str hostV ta)) (ve : m (Str.ofString "here") = some (.int hereV tb))
    (hs : s' = { s with heap := s'.heap, toks := s'.toks } := by rfl) :
    wpAny (model prog w) A (call (.builtin "list.append") [.ref ra, .ref D]) (fun _ s'' => Stop (Mid s h₀ L I (RowJ ra pa ca I tp ws (done ++ [x])) oI s'')) E s' := by
  have N' : News h₀ L s'.heap ([(I, oI)] ++ (ra, W.listOf ys.toArray n) :: ((pa, pobj tp) :: (ca, W.listOf ws.toArray 0) :: (D, ({ cls := .type "tuple", data := .seq #[.str hostV ta, .int hereV tb, .int slashV tc, .str wordV td] } : Obj)) :: tl)) := by
    intro p hp
    apply N
    rcases List.mem_cons.mp hp with rfl | hp
    · exact hI
    rcases List.mem_cons.mp hp with rfl | hp
    · exact hra
    rcases List.mem_cons.mp hp with rfl | hp
    · exact hpa
    rcases List.mem_cons.mp hp with rfl | hp
    · exact hca
    rcases List.mem_cons.mp hp with rfl | hp
    · exact hD
    · exact htl p hp
  refine append_N F N' ?_ ?_ (by omega) ?_
  · intro p hp; rw [List.mem_singleton.mp hp]; exact Ne.symm (Nat.ne_of_lt rI)
  · intro p hp
    rcases List.mem_cons.mp hp with rfl | hp
    · exact Ne.symm (Nat.ne_of_lt rp)
    rcases List.mem_cons.mp hp with rfl | hp
    · exact Ne.symm (Nat.ne_of_lt rc)
    rcases List.mem_cons.mp hp with rfl | hp
    · exact Ne.symm (Nat.ne_of_lt (Nat.lt_trans rI ID))
    · exact Ne.symm (Nat.ne_of_lt (Nat.lt_trans rI (tlI p hp)))
  · intro h9 F9 N9
    rw [hs]
    have hst : stOf (done ++ [x]) = rowStep (mm, he) (x % 6635520).toNat := by rw [← hso]; simp [stOf]
    refine Mid.mk F9 N9 ?_ ⟨ys ++ [.ref D], n + 1, (D, _) :: tl, ta, tb, rfl, ?_, ?_, ?_, vr, vp, ?_, ?_, trivial⟩
    · intro p hp
      rcases List.mem_cons.mp hp with rfl | hp
      · exact Nat.ne_of_lt rI
      rcases List.mem_cons.mp hp with rfl | hp
      · exact Nat.ne_of_lt pI
      rcases List.mem_cons.mp hp with rfl | hp
      · exact Nat.ne_of_lt cI
      rcases List.mem_cons.mp hp with rfl | hp
      · exact Ne.symm (Nat.ne_of_lt ID)
      · exact Ne.symm (Nat.ne_of_lt (tlI p hp))
    · intro p hp
      rcases List.mem_cons.mp hp with rfl | hp
      · exact ID
      · exact tlI p hp
    · rw [rowsFrom_snoc]
      have hfold : done.foldl (fun st x => rowStep st (x % 6635520).toNat) (true, 0) = (mm, he) := hso
      rw [hfold]
      refine (hys.mono ?_).snoc ⟨D, ta, tb, tc, td, rfl, ?_⟩
      · rintro r v ⟨b, u1, u2, u3, u4, rfl, hm⟩
        exact ⟨b, u1, u2, u3, u4, rfl, .tail _ hm⟩
      · rw [e1, e2, e3, e4]
        exact .head _
    · rw [hst, List.length_append, List.length_singleton]
      exact rowStep_lt mm he _ _ hhere
    · rw [hst, vh, e1]
    · rw [hst, ve, e2]
noncomputable def mkRowTail {w : World} {oc : Value} {od : Option Addr} {osl : Array (Option Value)} {name qual : Str} {params : Arguments} {scope : Scope} {dV kV doc pm cdv ct : Value} {an : Option Addr} {s0 s1 s2 s4 b1 b2 b3 : Stmt} {tg it : Expr} {o : List Stmt} {p : Pos}
    (_ : (hd.heap_39 w.params).lookup 97 = some ⟨oc, od, .func (fnOf name qual params [s0, s1, s2, .For tg it [b1, b2, b3] o p, s4] scope dV kV doc pm an cdv ct), osl⟩) : List Stmt × Str × Scope × Value := ([b3], qual, scope, cdv)
/-- the last statement of the loop's body in _law_rows, read off the written heap -/
noncomputable def rowTail (w : World) : List Stmt × Str × Scope × Value := mkRowTail (w := w) (by k_is)
theorem append_ok {w : World} {h : Heap} {L : Addr} {m : Str → Option Value} {tl : List (Addr × Obj)} {dp un : Nat} {fr : Option (List Env)} {gd : Option (List Code)} {s : Shared} {ra pa ca I : Addr} {oI : Obj} {tp ta tb tv : Tok} {ws ys : List Value} {n : Nat}
    {mm : Bool} {he : Nat} {hostV : Str} {hereV : Int} {done : List Int} {x : Int}
    (hB : Base w h) (F : Fr h L s.heap m) (N : News h L s.heap ((I, oI) :: (ra, W.listOf ys.toArray n) :: (pa, pobj tp) :: (ca, W.listOf ws.toArray 0) :: tl)) (rp : ra < pa) (rc : ra < ca) (rI : ra < I) (pI : pa < I) (cI : ca < I) (htl : ∀ p ∈ tl, I < p.1) (hyl : ys.length ≤ 1000)
    (hso : stOf done = (mm, he)) (hhere : he < 16 ^ (3 + done.length)) (hys : Reps (rowIn tl) (rowsFrom (true, 0) done) ys)
    (e1 : hostV = S (hostL (rowStep (mm, he) (x % 6635520).toNat).1)) (e2 : hereV = ((rowStep (mm, he) (x % 6635520).toNat).2 : Nat))
    (vt : Vals m [(Str.ofString "rows", .ref ra), (Str.ofString "pieces", .ref pa), (Str.ofString "host", .str hostV ta), (Str.ofString "here", .int hereV tb), (Str.ofString "v", .int (x.fmod 6635520) tv)]) :
    wpAny (model prog w) (At dp un fr gd) (execs (rowTail w).1 (envOf (rowTail w).2.1 (rowTail w).2.2.1 L 97 (rowTail w).2.2.2)) (fun f s' => f = .next ∧ Stop (Mid s h L I (RowJ ra pa ca I tp ws (done ++ [x])) oI s')) (fun _ _ => False) s := by
  obtain ⟨X, loose, mean, mg, mb, T⟩ := hB
  dsimp only [rowTail, mkRowTail]
  obtain ⟨v, hv⟩ : ∃ v : Nat, (x % 6635520).toNat = v := ⟨_, rfl⟩
  have hvx : x.fmod 6635520 = (v : Int) := by rw [Int.fmod_eq_emod_of_nonneg _ (by decide)]; omega
  have hvl : v < 6635520 := by omega
  have f3 : ((x.fmod 6635520).fdiv 40960).fmod 2 = (((x % 6635520).toNat / 40960 % 2 : Nat) : Int) := by rw [hvx, hv, show (v : Int).fdiv 40960 = ((v / 40960 : Nat) : Int) from fdiv_nat v 40960]; exact fmod_nat _ 2
  have f4 : [Str.ofString "", Str.ofString "\"", Str.ofString ",", Str.ofString " ", Str.ofString "\\", Str.ofString "=", Str.ofString "/", Str.ofString "a", Str.ofString "A"].getD (((x.fmod 6635520).fdiv 81920).fmod 9).toNat Str.empty ++
      [Str.ofString "", Str.ofString "\"", Str.ofString ",", Str.ofString " ", Str.ofString "\\", Str.ofString "=", Str.ofString "/", Str.ofString "a", Str.ofString "A"].getD ((x.fmod 6635520).fdiv 737280).toNat Str.empty
      = S (pieceL ((x % 6635520).toNat / 81920 % 9) ++ pieceL ((x % 6635520).toNat / 737280)) := by
    have g1 : (((x.fmod 6635520).fdiv 81920).fmod 9).toNat = v / 81920 % 9 := by
      rw [hvx, show (v : Int).fdiv 81920 = ((v / 81920 : Nat) : Int) from fdiv_nat v 81920, show ((v / 81920 : Nat) : Int).fmod 9 = ((v / 81920 % 9 : Nat) : Int) from fmod_nat _ 9]; rfl
    have g2 : ((x.fmod 6635520).fdiv 737280).toNat = v / 737280 := by
      rw [hvx, show (v : Int).fdiv 737280 = ((v / 737280 : Nat) : Int) from fdiv_nat v 737280]; rfl
    rw [g1, g2, hv, pieces_at _ (Nat.mod_lt _ (by decide)), pieces_at _ (by omega), S_append]
  simp only [pobj] at N
  replace F := Fr.shows F vt
  have hx0 : 0 ≤ x.fmod 6635520 := by omega
  have hx1 : x.fmod 6635520 < 6635520 := by omega
  clear vt
  k_steps
  rename Fr _ _ _ _ => F9
  rename News _ _ _ _ => N9
  rename _ ∧ _ ∧ _ ∧ _ ∧ _ => lD
  exact wpAny_mono (row_end (E := fun _ _ => False) (x := x) F9 N9 (by k_mem) (by k_mem) (by k_mem) (by k_mem) (by k_mem) (fun p hp => .tail _ (.tail _ (.tail _ (.tail _ (.tail _ hp))))) rp rc rI pI cI lD.1 htl hyl hso hhere hys e1 e2 f3 f4 rfl rfl rfl rfl) (fun _ s' q => wpAny_execs_nil ⟨rfl, q⟩) (fun _ _ x => x)
/-- what _law_rows hands back -/
def RowsR (h : Heap) (ns : List Int) (h' : Heap) (v : Value) : Prop := ∃ a ys n, v = .ref a ∧ h'.get? a = some (W.listOf ys.toArray n) ∧ h.get? a = none ∧ Reps (isRowR h') (rowsL ns) ys
theorem law_rows {w : World} {h : Heap} {sa : Addr} {vals : List Value} {ns : List Int} (hs : h.IsList sa vals.toArray) (hi : IntsAre vals ns) (hn : ns.length ≤ 63) :
    Calls w 1 200 97 [.ref sa] h (RowsR h ns) := by
  refine' calls_of (d := 0) (u := 197) (binds := [(Str.ofString "script", .ref sa)]) ?k6 ?k7 ?kb ?kB ?_ ?c2 ?c3 ?c4 ?c5
  case k6 => k_is
  case k7 => k_is
  case kb => exact fun _ => BindsTo.of_eq rfl
  case kB => exact locs rfl
  case c2 => exact rfl
  case c3 => exact rfl
  case c4 => exact rfl
  case c5 => decide
  intro dp un fr gd s L hd hu hB F
  have hB0 := hB
  obtain ⟨X, loose, mean, mg, mb, T⟩ := hB
  have N : News h L s.heap [] := News.nil
  generalize hlp : Stmt.For _ _ _ _ _ = lp
  k_steps
  subst hlp
  refine wpAny_For ?_
  k_steps
  rename_i ra _ _ _ _ _ _ _ _ _ _ tp pa _ o1 _ l0 _ _ D1 _ _ _ _ _ _ ca ws hh1 F1 N1 hI l1
  have N1' : News h L hh1 [(ra, W.listOf ([] : List Value).toArray 0), (pa, pobj tp), (ca, W.listOf ws.toArray 0)] := by
    intro p hp
    rcases List.mem_cons.mp hp with rfl | hp
    · exact N1 _ (.tail _ (.tail _ (.tail _ (.tail _ (.tail _ (.head _))))))
    rcases List.mem_cons.mp hp with rfl | hp
    · exact N1 _ (.tail _ (.tail _ (.tail _ (.head _))))
    · rw [List.mem_singleton.mp hp]; exact N1 _ (.head _)
  refine iter_listN rfl F1 N1' (.tail _ (.tail _ (.head _))) (reps_ints hI) ?_
  intro I h2 St eI it st F2 N2 lt
  dsimp only
  have rI : ra < I := lt _ (.head _)
  have pI : pa < I := lt _ (.tail _ (.head _))
  have cI : ca < I := lt _ (.tail _ (.tail _ (.head _)))
  have rp : ra < pa := o1.2
  have rc : ra < ca := l1.2.2.2.2
  have pc : pa < ca := l1.2.2.1
  clear N1
  refine for_inv it st F2 N2 (fun p hp => Nat.ne_of_lt (lt p hp)) (RowJ ra pa ca I tp ws) ?_ ?_ ?_ ?_
  · rintro done m' news' ⟨ys, n, tl, t1, t2, rfl, _⟩ p hp
    rw [List.mem_singleton.mp hp]; exact .tail _ (.tail _ (.head _))
  · exact ⟨[], 0, [], _, _, rfl, (fun p hp => nomatch hp), .nil, by decide, rfl, rfl, congrArg (fun z => some (Value.str z _)) (show Str.ofString "m" = S (hostL (stOf []).1) from by decide +kernel), rfl, trivial⟩
  · rintro done x rest v oI h3 tk3 m3 news3 hsp ⟨tv, rfl⟩ F3 N3 off ⟨ys, n, tl, t1, t2, rfl, htl, hys, hhere, vals⟩
    have F := Fr.shows F3 vals
    clear F3 F2 N2 F1 N1' vals
    generalize hso : stOf done = so at *
    obtain ⟨mm, he⟩ := so
    dsimp only at *
    have hyl : ys.length ≤ 1000 := by
      have h1 := hys.length
      have h2 := rowsFrom_len done (true, 0)
      have h3 := congrArg List.length hsp
      simp at h3
      omega
    obtain ⟨v, hv⟩ : ∃ v : Nat, (x % 6635520).toNat = v := ⟨_, rfl⟩
    have hvx : x.fmod 6635520 = (v : Int) := by rw [Int.fmod_eq_emod_of_nonneg _ (by decide)]; omega
    have hvl : v < 6635520 := by omega
    have f5 : (x.fmod 6635520).fmod 5 = ((v % 5 : Nat) : Int) := by rw [hvx]; exact fmod_nat v 5
    show wpAny _ _ (assign _ _ _) (fun _ s₂ => wpAny _ _ (execs (_ :: _ :: (rowTail w).1) _) _ _ s₂) _ _
    generalize hst : (rowTail w).1 = st
    k_steps
    · rename Fr _ _ _ _ => F9
      rename News _ _ _ _ => N9
      subst hst
      refine wpAny_mono (append_ok (x := x) hB0 F9 (fun p hp => N9 p (.tail _ hp)) rp rc rI pI cI htl hyl hso hhere hys ?_ ?_ ⟨rfl, rfl, rfl, rfl, rfl, trivial⟩) (fun f s' q => by obtain ⟨rfl, q⟩ := q; exact q) (fun _ _ x => x)
      · rename (x.fmod 6635520).fmod 5 = 0 => c0
        have c0' : v % 5 = 0 := by omega
        rw [hvx, show (v : Int).fdiv 5 = ((v / 5 : Nat) : Int) from fdiv_nat v 5, show ((v / 5 : Nat) : Int).fmod 2 = ((v / 5 % 2 : Nat) : Int) from fmod_nat _ 2, pm_at _ (Nat.mod_lt _ (by decide)), hv]
        simp [rowStep, c0']
      · rename (x.fmod 6635520).fmod 5 = 0 => c0
        have c0' : v % 5 = 0 := by omega
        rw [hvx, show (v : Int).fdiv 10 = ((v / 10 : Nat) : Int) from fdiv_nat v 10, show ((v / 10 : Nat) : Int).fmod 4096 = ((v / 10 % 4096 : Nat) : Int) from fmod_nat _ 4096, hv]
        simp [rowStep, c0']
    · rename Fr _ _ _ _ => F9
      rename News _ _ _ _ => N9
      subst hst
      refine wpAny_mono (append_ok (x := x) hB0 F9 N9 rp rc rI pI cI htl hyl hso hhere hys ?_ ?_ ⟨rfl, rfl, rfl, rfl, rfl, trivial⟩) (fun f s' q => by obtain ⟨rfl, q⟩ := q; exact q) (fun _ _ x => x)
      · rename (x.fmod 6635520).fmod 5 = 1 => c0
        have c0' : v % 5 = 1 := by omega
        rw [hv]; simp [rowStep, c0']
      · rename (x.fmod 6635520).fmod 5 = 1 => c0
        have c0' : v % 5 = 1 := by omega
        rw [hvx, show (v : Int).fdiv 5 = ((v / 5 : Nat) : Int) from fdiv_nat v 5, show ((v / 5 : Nat) : Int).fmod 16 = ((v / 5 % 16 : Nat) : Int) from fmod_nat _ 16, hv]
        simp [rowStep, c0']
    · rename Fr _ _ _ _ => F9
      rename News _ _ _ _ => N9
      subst hst
      refine wpAny_mono (append_ok (x := x) hB0 F9 N9 rp rc rI pI cI htl hyl hso hhere hys ?_ ?_ ⟨rfl, rfl, rfl, rfl, rfl, trivial⟩) (fun f s' q => by obtain ⟨rfl, q⟩ := q; exact q) (fun _ _ x => x)
      · rename (x.fmod 6635520).fmod 5 = 2 => c0
        have c0' : v % 5 = 2 := by omega
        rw [hv]; simp [rowStep, c0']
      · rename (x.fmod 6635520).fmod 5 = 2 => c0
        have c0' : v % 5 = 2 := by omega
        rw [show (he : Int).fdiv 16 = ((he / 16 : Nat) : Int) from fdiv_nat he 16, hv]
        simp [rowStep, c0']
    · rename Fr _ _ _ _ => F9
      rename News _ _ _ _ => N9
      subst hst
      refine wpAny_mono (append_ok (x := x) hB0 F9 N9 rp rc rI pI cI htl hyl hso hhere hys ?_ ?_ ⟨rfl, rfl, rfl, rfl, rfl, trivial⟩) (fun f s' q => by obtain ⟨rfl, q⟩ := q; exact q) (fun _ _ x => x)
      · rename (x.fmod 6635520).fmod 5 = 3 => c0
        rename (S (hostL mm) == _) = true => cm
        have c0' : v % 5 = 3 := by omega
        have hm : mm = true := by cases mm <;> revert cm <;> decide +kernel
        have hr : (rowStep (true, he) v).1 = false := by simp [rowStep, c0']
        rw [hv, hm, hr]; decide +kernel
      · rename (x.fmod 6635520).fmod 5 = 3 => c0
        have c0' : v % 5 = 3 := by omega
        rw [hv]; simp [rowStep, c0']
    · rename Fr _ _ _ _ => F9
      rename News _ _ _ _ => N9
      subst hst
      refine wpAny_mono (append_ok (x := x) hB0 F9 N9 rp rc rI pI cI htl hyl hso hhere hys ?_ ?_ ⟨rfl, rfl, rfl, rfl, rfl, trivial⟩) (fun f s' q => by obtain ⟨rfl, q⟩ := q; exact q) (fun _ _ x => x)
      · rename (x.fmod 6635520).fmod 5 = 3 => c0
        rename (S (hostL mm) == _) = false => cm
        have c0' : v % 5 = 3 := by omega
        have hm : mm = false := by cases mm <;> revert cm <;> decide +kernel
        have hr : (rowStep (false, he) v).1 = true := by simp [rowStep, c0']
        rw [hv, hm, hr]; decide +kernel
      · rename (x.fmod 6635520).fmod 5 = 3 => c0
        have c0' : v % 5 = 3 := by omega
        rw [hv]; simp [rowStep, c0']
    · rename Fr _ _ _ _ => F9
      rename News _ _ _ _ => N9
      subst hst
      refine wpAny_mono (append_ok (x := x) hB0 F9 N9 rp rc rI pI cI htl hyl hso hhere hys ?_ ?_ ⟨rfl, rfl, rfl, rfl, rfl, trivial⟩) (fun f s' q => by obtain ⟨rfl, q⟩ := q; exact q) (fun _ _ x => x)
      · have c0' : v % 5 = 4 := by omega
        rw [hv]; simp [rowStep, c0']
      · have c0' : v % 5 = 4 := by omega
        rw [hv]; simp [rowStep, c0']
  · rintro h3 tk3 m3 news3 F3 N3 ⟨ys, n, tl, t1, t2, rfl, htl, hys, hhere, vals⟩
    have F := Fr.shows F3 vals
    clear F3
    k_steps
    have hn := N3 _ (.head _)
    refine fin_of F ⟨ra, ys, n, rfl, hn.1, hn.2.2, hys.mono ?_⟩
    rintro r v ⟨b, u1, u2, u3, u4, rfl, hm⟩
    exact ⟨b, u1, u2, u3, u4, rfl, _, (N3 _ (.tail _ (.tail _ (.tail _ hm)))).1, rfl, _, rfl⟩
end Mine
namespace Mine
theorem resetF9 : True := by
  w_top off
  trivial
local macro_rules | `(tactic| walk_at "eval ListComp") => `(tactic| k_dflt (refine comp_open ?_))
noncomputable def rowCode (r : Row) : Int := (codeN r.m r.here r.slash : Nat)
noncomputable def rowPath (r : Row) : List Nat := pathL r.m r.here r.slash
noncomputable def wordsL (rs : List Row) : List (Int × List Nat) := rs.foldl (fun d r => put d (rowCode r) r.word) []
noncomputable def pathsL (rs : List Row) : List (Int × List Nat) := rs.foldl (fun d r => put d (rowCode r) (rowPath r)) []
noncomputable def bareC (c : Nat) : Bool := decide (c = 61 ∨ c = 47 ∨ c = 97 ∨ c = 65)
noncomputable def bare (w : List Nat) : Bool := !w.isEmpty && w.all bareC
noncomputable def escC (c : Nat) : List Nat := if c = 92 then [92, 92] else if c = 34 then [92, 34] else [c]
noncomputable def itemV (w : List Nat) : List Nat := if bare w then w else [34] ++ w.flatMap escC ++ [34]
noncomputable def itemL (r : Row) : List Nat := rowPath r ++ 61 :: itemV r.word
def okRow (r : Row) : Prop := (figs r.here).length ≤ 64 ∧ r.slash ≤ 1 ∧ ∃ i j, i < 9 ∧ j < 9 ∧ r.word = pieceL i ++ pieceL j
abbrev strL (b : List Nat) (v : Value) : Prop := isStrR (S b) v
theorem put_len9 (d : List (Int × List Nat)) (k : Int) (b : List Nat) : (put d k b).length ≤ d.length + 1 := by
  unfold put; split <;> simp
theorem foldput_len (f : Row → Int) (g : Row → List Nat) (rs : List Row) : ∀ d : List (Int × List Nat), (rs.foldl (fun d r => put d (f r) (g r)) d).length ≤ d.length + rs.length := by
  induction rs with
  | nil => intro d; simp
  | cons p r ih =>
    intro d
    have h1 := ih (put d (f p) (g p))
    have h2 := put_len9 d (f p) (g p)
    simp only [List.foldl_cons, List.length_cons]; omega
theorem wordsL_len (rs : List Row) : (wordsL rs).length ≤ rs.length := by
  have := foldput_len rowCode (·.word) rs []
  simpa [wordsL] using this
theorem pathsL_len (rs : List Row) : (pathsL rs).length ≤ rs.length := by
  have := foldput_len rowCode rowPath rs []
  simpa [pathsL] using this
theorem lit1 : Str.ofString "=\"" = S [61, 34] := by decide +kernel
theorem lit2 : Str.ofString "=" = S [61] := by decide +kernel
theorem lit3 : Str.ofString "\"" = S [34] := by decide +kernel
theorem told_else {r : Row} {wd : List Nat} (hw : r.word = wd) (h : bare r.word = false) : S (pathL r.m r.here r.slash) ++ Str.ofString "=\"" ++ S (wd.flatMap escC) ++ Str.ofString "\"" = S (itemL r) := by
  rw [lit1, lit3, S_append, S_append, S_append]
  simp [itemL, itemV, rowPath, h, ← hw]
theorem told_then {r : Row} (h : bare r.word = true) : S (pathL r.m r.here r.slash) ++ Str.ofString "=" ++ S r.word = S (itemL r) := by
  rw [lit2, S_append, S_append]
  simp [itemL, itemV, rowPath, h]
local macro_rules | `(tactic| walk_at "eval Call") => `(tactic| k_dflt (refine Call_ ?_))
theorem valueAt_stored_self {κ : Type} [DecidableEq κ] (kvs : List (κ × Value)) (k : κ) (v : Value) : valueAt (stored kvs k v) k = some v := by
  unfold stored
  split
  · rename_i h
    induction kvs with
    | nil => simp at h
    | cons e r ih =>
      unfold valueAt at *
      by_cases q : e.1 = k
      · simp [q]
      · have h' : (r.any fun kv => decide (kv.1 = k)) = true := by simpa [q] using h
        have := ih h'
        simp only [List.map_cons, if_neg q, List.find?_cons, decide_eq_false q]
        exact this
  · rename_i h
    have hn : kvs.find? (fun kv => decide (kv.1 = k)) = none := by
      rw [List.find?_eq_none]
      intro x hx hk
      exact h (List.any_eq_true.mpr ⟨x, hx, hk⟩)
    unfold valueAt
    rw [List.find?_append, hn]
    simp
theorem pathL_len (m : Bool) (n slash : Nat) (hs : slash ≤ 1) (hn : (figs n).length ≤ 64) : (pathL m n slash).length ≤ 1000 := by
  have h1 : ∀ (st c : Nat) (l : List Nat), st ≤ 2 → c ≤ 64 → ((List.range c).map (piece st l)).flatten.length ≤ 3 * 64 := by
    intro st c l h1 h2
    have := length_flatten_le 3 _ (piece_len st h1 l c)
    simp only [List.length_map, List.length_range] at this
    omega
  have h2 : (hostL m).length ≤ 1 := by cases m <;> decide
  have h3 : stepOf m ≤ 2 := by cases m <;> decide
  have h4 : 1 ≤ stepOf m := by cases m <;> decide
  unfold pathL
  simp only [List.length_append, List.length_replicate]
  refine Nat.le_trans (Nat.add_le_add (Nat.add_le_add h2 (h1 _ _ _ h3 ?_)) hs) (by decide)
  refine Nat.le_trans (Nat.div_le_div_right (c := stepOf m) (b := 64 + stepOf m - 1) (by omega)) ?_
  cases m <;> decide
theorem item_N {κ : Type} [DecidableEq κ] {w : World} {A : Around} {E : Value → Shared → Prop} {s : Shared} {h₀ : Heap} {L : Addr} {news : List (Addr × Obj)} {knd : KeyKind prog w κ} {value slice : Expr} {da : Addr} {o : Obj} {kvs : List (κ × Value)} {k : κ} {key v : Value} {Q : Value → Shared → Prop}
    (N : News h₀ L s.heap news) (hm : (da, o) ∈ news) (hd : DObj knd o kvs) (hkey : knd.is k key = true) (hv : valueAt kvs k = some v) (hn : ∀ a, v ≠ .ref a) (h : Q v { s with toks := s.toks + 1 })
    (hs : subscripted slice false (.ref da) key = operate [.ref da, key] (getItem (.ref da) key) := by with_unfolding_all rfl) :
    wpAny (model prog w) A (subscriptTail value slice (.ref da) key) Q E s := by
  have hd' := DObj.dictOf hd (N _ hm).1
  exact subscriptTail_builtin_flat hd'.mapOf.typeIs slot_dict_getitem.lookup (wpAny_getItem_of hkey hd'.mapOf hv ⟨hn, h⟩) hs
theorem addS {w : World} {A : Around} {E : Value → Shared → Prop} {s : Shared} {x y : Str} {t u : Tok} {Q : Value → Shared → Prop} (h : Stop (x.length + y.length ≤ sizeLine ∧ ∀ t' k, s.toks ≤ k → Q (.str (x ++ y) t') { s with toks := k })) :
    wpAny (model prog w) A (binaryOp .Add (.str x t) (.str y u)) Q E s := by
  obtain ⟨hsz, h⟩ := h
  refine P.add_str ?_
  by_cases hx : (x.length == 0) = true
  · rw [if_pos hx]; have h' := h u s.toks (Nat.le_refl _); rw [Str.append_left_empty hx] at h'; exact h'
  · rw [if_neg hx]
    by_cases hy : (y.length == 0) = true
    · rw [if_pos hy]; have h' := h t s.toks (Nat.le_refl _); rw [Str.append_right_empty hy] at h'; exact h'
    · rw [if_neg hy]; exact ⟨by rw [PySem.Str.length_append]; exact hsz, h _ _ (Nat.le_succ _)⟩
open Builtin Builtin.Str in
theorem replaceS {w : World} {A : Around} {E : Value → Shared → Prop} {s : Shared} {x y z : Str} {t u v : Tok} {Q : Value → Shared → Prop}
    (h : Stop (u ≠ 0 ∧ v ≠ 0 ∧ u ≠ v ∧ (y == z) = false ∧ x.length + (x.length + 1) * z.length ≤ 16777216 ∧ ∀ t' k, s.toks ≤ k → Q (.str (Txt.replace x y z) t') { s with toks := k })) :
    wpAny (model prog w) A (call (.builtin "str.replace") [.str x t, .str y u, .str z v]) Q E s := by
  obtain ⟨hu, hv, huv, hyz, hb, hq⟩ := h
  have hl : tooLong (x.length + (occurrences x y 0 x.length (x.length + 1)).length * z.length) = false := by
    have h1 := StrLaws.occ_length_le x y 0 x.length (x.length + 1)
    have h2 : (occurrences x y 0 x.length (x.length + 1)).length * z.length ≤ (x.length + 1) * z.length := Nat.mul_le_mul_right _ h1
    have e : (2 : Nat) ^ 24 = 16777216 := by decide
    unfold tooLong sizeLine
    exact decide_eq_false (by omega)
  refine call_gives F.slot_str_replace (typeIs_str _ _ _) F.entry_str_replace (F.args_str_replace_3 _ _ _)
    (gives_str_replace x y z t u v fun _ => ⟨by simp [hu, hv], by simp [huv], hyz, hl⟩) ?_
  have hq' := hq
  unfold Txt.replace at hq'
  cases hc : ((occurrences x y 0 x.length (x.length + 1)).isEmpty || (y.length == 0 && z.length == 0))
  · rw [hc] at hq'
    simp only [Bool.false_eq_true, if_false] at hq' ⊢
    exact ⟨fits_replaced y hb, hq' _ _ (Nat.le_succ _)⟩
  · rw [hc] at hq'
    simp only [if_true] at hq' ⊢
    exact hq' t s.toks (Nat.le_refl _)
theorem rep_words : ∀ i < 9, ∀ j < 9, Txt.replace (S (pieceL i ++ pieceL j)) (Str.ofString "\\") (Str.ofString "\\\\") = S ((pieceL i ++ pieceL j).flatMap fun c => if c = 92 then [92, 92] else [c]) := by decide +kernel
theorem rep_words2 : ∀ i < 9, ∀ j < 9, Txt.replace (S ((pieceL i ++ pieceL j).flatMap fun c => if c = 92 then [92, 92] else [c])) (Str.ofString "\"") (Str.ofString "\\\"") = S ((pieceL i ++ pieceL j).flatMap escC) := by decide +kernel
theorem len_words : ∀ i < 9, ∀ j < 9, ((pieceL i ++ pieceL j).flatMap escC).length ≤ 4 ∧ ((pieceL i ++ pieceL j).flatMap fun c => if c = 92 then [92, 92] else [c]).length ≤ 4 := by decide +kernel
theorem bare_words : ∀ i < 9, ∀ j < 9, ∀ c ∈ pieceL i ++ pieceL j, (Builtin.Str.occurrences (Str.ofString "=/aA") ⟨#[c]⟩ 0 (Str.length (Str.ofString "=/aA")) 1).isEmpty = !bareC c := by decide +kernel
theorem words_all : ∀ i < 9, ∀ j < 9, (pieceL i ++ pieceL j).length ≤ 2 := by decide +kernel
local macro_rules | `(tactic| walk_at "binaryOp Add str str") => `(tactic| k_dflt (refine addS ?_))
local macro_rules | `(tactic| walk_at "call builtin:str.replace") => `(tactic| k_dflt (refine replaceS ?_))
theorem bare_of {l : List Nat} (hne : (S l != Str.ofString "") = true) (hf : l.filterMap (fun c => if bareC c = true then none else some c) = []) : bare l = true := by
  unfold bare
  have h1 : l ≠ [] := by rintro rfl; revert hne; decide +kernel
  have h2 : l.all bareC = true := by
    rw [List.all_eq_true]
    intro c hc
    have := List.filterMap_eq_nil_iff.mp hf c hc
    by_cases q : bareC c = true
    · exact q
    · rw [if_neg q] at this; cases this
  rw [h2]
  cases l with
  | nil => exact absurd rfl h1
  | cons _ _ => rfl
theorem not_bare_of {l : List Nat} (hf : l.filterMap (fun c => if bareC c = true then none else some c) ≠ []) : bare l = false := by
  unfold bare
  have h2 : l.all bareC = false := by
    rw [Bool.eq_false_iff]
    intro h
    refine hf (List.filterMap_eq_nil_iff.mpr fun c hc => if_pos (List.all_eq_true.mp h c hc))
  rw [h2, Bool.and_false]
theorem not_bare_empty {l : List Nat} (h : S l = Str.ofString "") : bare l = false := by
  have : l = [] := S_inj (h.trans (by decide +kernel : Str.ofString "" = S []))
  subst this; rfl
theorem newsTl {h h' : Heap} {L : Addr} {a : Addr × Obj} {l : List (Addr × Obj)} (N : News h L h' (a :: l)) : News h L h' l := fun p hp => N p (.tail _ hp)
theorem stopHere {P : Prop} (h : Stop P) : P := h
local macro_rules | `(tactic| walk_at "compareOp Eq ref ref") => `(tactic| refine stopHere ?_)
noncomputable def mkToldElse {w : World} {oc : Value} {od : Option Addr} {osl : Array (Option Value)} {name qual : Str} {params : Arguments} {scope : Scope} {dV kV doc pm cdv ct : Value} {an : Option Addr} {s0 s2 b1 b2 b3 : Stmt} {tg it te : Expr} {o tb eb : List Stmt} {p ip : Pos}
    (_ : (hd.heap_39 w.params).lookup 126 = some ⟨oc, od, .func (fnOf name qual params [s0, .For tg it [b1, b2, b3, .If te tb eb ip] o p, s2] scope dV kV doc pm an cdv ct), osl⟩) : List Stmt × Str × Scope × Value := (eb, qual, scope, cdv)
/-- the else of _law_told's loop, read off the written heap -/
noncomputable def toldElse (w : World) : List Stmt × Str × Scope × Value := mkToldElse (w := w) (by k_is)
theorem else_ok {w : World} {h : Heap} {L : Addr} {m : Str → Option Value} {dp un : Nat} {fr : Option (List Env)} {gd : Option (List Code)} {s : Shared} {I il pd wd : Addr} {oI op' ow' : Obj} {ys : List Value} {n : Nat} {kp' : List (Int × Value)} {code : Int} {path wd0 : List Nat} {tp tc u4 : Tok} {wi' wj' : Nat} {Q : Flow → Shared → Prop}
    (hB : Base w h) (F : Fr h L s.heap m) (N : News h L s.heap [(I, oI), (il, W.listOf ys.toArray n), (pd, op'), (wd, ow')]) (iI : il < I) (wi : wd < il) (pi : pd < il) (hyl : ys.length ≤ 1000)
    (dp'' : DObj (PySem.intKind prog w) op' kp') (hself : valueAt kp' code = some (.str (S path) tp)) (hpl : path.length ≤ 1000) (hwl : wd0.length ≤ 2) (hi9 : wi' < 9) (hj9 : wj' < 9) (hword : wd0 = pieceL wi' ++ pieceL wj')
    (vt : Vals m [(Str.ofString "paths", .ref pd), (Str.ofString "items", .ref il), (Str.ofString "code", .int code tc), (Str.ofString "word", .str (S wd0) u4)])
    (hQ : ∀ h' tk n' t', Fr h L h' m → News h L h' [(I, oI), (il, W.listOf (ys ++ [Value.str (S path ++ Str.ofString "=\"" ++ S (wd0.flatMap escC) ++ Str.ofString "\"") t']).toArray n'), (pd, op'), (wd, ow')] → Q .next { s with heap := h', toks := tk }) :
    wpAny (model prog w) (At dp un fr gd) (execs (toldElse w).1 (envOf (toldElse w).2.1 (toldElse w).2.2.1 L 126 (toldElse w).2.2.2)) Q (fun _ _ => False) s := by
  obtain ⟨X, loose, mean, mg, mb, T⟩ := hB
  dsimp only [toldElse, mkToldElse]
  have F0 := F
  replace F := Fr.shows F vt
  k_steps
  refine item_N N (by k_mem) dp'' int_is hself (fun a e => by cases e) ?_
  dsimp only
  k_steps
  refine Stop.mk ⟨(by show Str.length (S _) + Str.length (Str.ofString "=\"") ≤ _; rw [lit1, S_length, S_length, sizeLine_eq]; simp only [List.length_cons, List.length_nil]; omega), fun t1 k1 hk1 => ?_⟩
  dsimp only at hk1 ⊢
  k_steps
  refine Stop.mk ⟨(by show k1 ≠ 0; omega), (by show k1 + 1 ≠ 0; omega), (by show k1 ≠ k1 + 1; omega), (by decide +kernel), (by show Str.length (S _) + (Str.length (S _) + 1) * 2 ≤ _; rw [S_length]; omega), fun t2 k2 hk2 => ?_⟩
  dsimp only at hk2 ⊢
  rw [show Txt.replace (S wd0) (Str.ofString "\\") (Str.ofString "\\\\") = _ from (congrArg (fun z => Txt.replace (S z) (Str.ofString "\\") (Str.ofString "\\\\")) hword).trans (rep_words wi' hi9 wj' hj9)]
  k_steps
  refine Stop.mk ⟨(by show k2 ≠ 0; omega), (by show k2 + 1 ≠ 0; omega), (by show k2 ≠ k2 + 1; omega), (by decide +kernel), (by show Str.length (S _) + (Str.length (S _) + 1) * 2 ≤ _; rw [S_length]; have := (len_words wi' hi9 wj' hj9).2; omega), fun t3 k3 hk3 => ?_⟩
  dsimp only at hk3 ⊢
  rw [show Txt.replace (S _) (Str.ofString "\"") (Str.ofString "\\\"") = _ from rep_words2 wi' hi9 wj' hj9]
  k_steps
  refine Stop.mk ⟨(by show Str.length (S _ ++ Str.ofString "=\"") + Str.length (S _) ≤ _; rw [lit1, S_append, S_length, S_length, sizeLine_eq]; have := (len_words wi' hi9 wj' hj9).1; simp only [List.length_append, List.length_cons, List.length_nil]; omega), fun t4 k4 hk4 => ?_⟩
  dsimp only at hk4 ⊢
  k_steps
  refine Stop.mk ⟨(by show Str.length (S _ ++ Str.ofString "=\"" ++ S _) + Str.length (Str.ofString "\"") ≤ _; rw [lit1, lit3, S_append, S_append, S_length, S_length, sizeLine_eq]; have := (len_words wi' hi9 wj' hj9).1; simp only [List.length_append, List.length_cons, List.length_nil]; omega), fun t5 k5 hk5 => ?_⟩
  dsimp only at hk5 ⊢
  k_steps
  refine append_N (pre := [(I, oI)]) (post := [(pd, op'), (wd, ow')]) F0 N ?_ ?_ (by omega) ?_
  · intro p hp
    rw [List.mem_singleton.mp hp]; exact Ne.symm (Nat.ne_of_lt iI)
  · intro p hp
    rcases List.mem_cons.mp hp with rfl | hp
    · exact Nat.ne_of_lt pi
    · rw [List.mem_singleton.mp hp]; exact Nat.ne_of_lt wi
  intro h10 F10 N10
  dsimp only
  exact wpAny_execs_nil (hQ h10 _ _ _ F10 (by rw [hword]; exact N10))
/-- what holds between two turns of _law_told -/
def ToldJ (w : World) (wd pd il : Addr) (done : List Row) (m' : Str → Option Value) (news' : List (Addr × Obj)) : Prop := ∃ ow op kw kp ys n, news' = [(il, W.listOf ys.toArray n), (pd, op), (wd, ow)] ∧ DObj (PySem.intKind prog w) ow kw ∧ DReps strL (wordsL done) kw ∧ DObj (PySem.intKind prog w) op kp ∧ DReps strL (pathsL done) kp ∧ Reps strL (done.map itemL) ys ∧ Vals m' [(Str.ofString "words", .ref wd), (Str.ofString "paths", .ref pd), (Str.ofString "items", .ref il)]
/-- what _law_told hands back -/
def ToldR (w : World) (h : Heap) (rs : List Row) (h' : Heap) (v : Value) : Prop := ∃ t wd pd il ow op kw kp ys n, v = .ref t ∧ IsTup h' t [Value.ref wd, Value.ref pd, Value.ref il].toArray ∧ h'.get? wd = some ow ∧ h'.get? pd = some op ∧ h'.get? il = some (W.listOf ys.toArray n) ∧ h.get? wd = none ∧ h.get? pd = none ∧ h.get? il = none ∧ wd < pd ∧ pd < il ∧ (wd == sysModules) = false ∧ (pd == sysModules) = false ∧ DObj (PySem.intKind prog w) ow kw ∧ DReps strL (wordsL rs) kw ∧ DObj (PySem.intKind prog w) op kp ∧ DReps strL (pathsL rs) kp ∧ Reps strL (rs.map itemL) ys
theorem law_told {w : World} {h : Heap} {ra : Addr} {vs : List Value} {n0 : Nat} {rs : List Row} (hra : h.get? ra = some (W.listOf vs.toArray n0)) (hr : Reps (isRowR h) rs vs) (hok : ∀ r ∈ rs, okRow r) (hlen : rs.length ≤ 100) :
    Calls w 3 300 126 [.ref ra] h (ToldR w h rs) := by
  refine' calls_of (d := 2) (u := 297) (binds := [(Str.ofString "rows", .ref ra)]) ?k6 ?k7 ?kb ?kB ?_ ?c2 ?c3 ?c4 ?c5
  case k6 => k_is
  case k7 => k_is
  case kb => exact fun _ => BindsTo.of_eq rfl
  case kB => exact locs rfl
  case c2 => exact rfl
  case c3 => exact rfl
  case c4 => exact rfl
  case c5 => decide
  intro dp un fr gd s L hd hu hB F
  have hB0 := hB
  obtain ⟨X, loose, mean, mg, mb, T⟩ := hB
  have N : News h L s.heap [] := News.nil
  generalize hlp : Stmt.For _ _ _ _ _ = lp
  k_steps
  subst hlp
  refine wpAny_For ?_
  k_steps
  rename_i wd _ ow0 hlow _ _ hiw _ _ pd _ op0 hlop _ _ hip _ l12 il _ l13 TD _ l14 _ _ _ hh F1 N1
  have N1' : News h L hh [(il, W.listOf ([] : List Value).toArray 0), (pd, op0), (wd, ow0)] := fun p hp => N1 p (.tail _ hp)
  refine iter_list rfl F1 N1' [] ⟨_, F1.keep _ _ hra, rfl, n0, rfl⟩ (.inl ⟨_, hra⟩) hr ?_
  intro I h2 St eI it st F2 N2 lt
  dsimp only
  have iI : il < I := lt _ (.head _)
  have pI : pd < I := lt _ (.tail _ (.head _))
  have wI : wd < I := lt _ (.tail _ (.tail _ (.head _)))
  have wp : wd < pd := l12
  have wi : wd < il := l13.2
  have pi : pd < il := l13.1
  clear N1
  refine for_inv it st F2 N2 (fun p hp => Nat.ne_of_lt (lt p hp)) (ToldJ w wd pd il)
    (fun _ _ _ _ p hp => nomatch hp) ⟨_, _, [], [], [], 0, rfl, hiw, .nil, hip, .nil, .nil, rfl, rfl, rfl, trivial⟩ ?_ ?_
  · rintro done r rest v oI h3 tk3 m3 news3 hsp ⟨b, u1, u2, u3, u4, rfl, htup⟩ F3 N3 off ⟨ow, op, kw, kp, ys, n, rfl, dw, rw', dp', rp, hys, vals⟩
    obtain ⟨hfig, hsl, wi', wj', hi9, hj9, hword⟩ := hok r (by rw [hsp]; simp)
    have F := Fr.shows F3 vals
    clear F3 F2 N2 F1 N1' vals
    have htup' : IsTup h b [Value.str (S (hostL r.m)) u1, Value.int r.here u2, Value.int r.slash u3, Value.str (S r.word) u4].toArray := htup
    show wpAny _ _ (assign _ _ _) (fun _ s₂ => wpAny _ _ (execs [_, _, _, Stmt.If _ _ (toldElse w).1 _] _) _ _ s₂) _ _
    generalize hst : (toldElse w).1 = st
    k_steps
    rename Fr _ _ _ _ => F9
    rename News _ _ _ _ => N9
    refine use (law_codeN (mm := r.m) (n := r.here) (s := r.slash)) hB0 F9 N9 (by omega) (by omega) ?_
    clear F9 N9
    rintro v1 h9 tk9 k9 F9 N9 ⟨tc, rfl⟩
    dsimp only
    have hkw : kw.length ≤ 1000 := by
      have h1 := rw'.length
      have h2 := wordsL_len done
      have h3 := congrArg List.length hsp
      simp at h3
      omega
    have hkp : kp.length ≤ 1000 := by
      have h1 := rp.length
      have h2 := pathsL_len done
      have h3 := congrArg List.length hsp
      simp at h3
      omega
    k_steps
    rename Fr _ _ _ _ => F9
    rename News _ _ _ _ => N9
    refine set_N (pre := [(I, oI), (il, W.listOf ys.toArray n), (pd, op)]) (post := []) F9 N9 dw int_is ?_ (fun p hp => nomatch hp) (by omega) ?_
    · intro p hp
      rcases List.mem_cons.mp hp with rfl | hp
      · exact Ne.symm (Nat.ne_of_lt wI)
      rcases List.mem_cons.mp hp with rfl | hp
      · exact Ne.symm (Nat.ne_of_lt wi)
      · rw [List.mem_singleton.mp hp]; exact Ne.symm (Nat.ne_of_lt wp)
    clear F9 N9
    intro h9 ow' F9 N9 dw'
    dsimp only
    k_steps
    rename Fr _ _ _ _ => F9
    rename News _ _ _ _ => N9
    refine use (law_path (mm := r.m) (n := r.here) (slash := r.slash) hsl hfig) hB0 F9 N9 (by omega) (by omega) ?_
    clear F9 N9
    rintro v1 h9 tk9 k9 F9 N9 ⟨tp, rfl⟩
    dsimp only
    k_steps
    rename Fr _ _ _ _ => F9
    rename News _ _ _ _ => N9
    refine set_N (pre := [(I, oI), (il, W.listOf ys.toArray n)]) (post := [(wd, ow')]) F9 N9 dp' int_is ?_ ?_ (by omega) ?_
    · intro p hp
      rcases List.mem_cons.mp hp with rfl | hp
      · exact Ne.symm (Nat.ne_of_lt pI)
      · rw [List.mem_singleton.mp hp]; exact Ne.symm (Nat.ne_of_lt pi)
    · intro p hp; rw [List.mem_singleton.mp hp]; exact Nat.ne_of_lt wp
    clear F9 N9
    intro h9 op' F9 N9 dp''
    dsimp only
    have hpl : (pathL r.m r.here r.slash).length ≤ 1000 := pathL_len _ _ _ hsl hfig
    have hwl : r.word.length ≤ 2 := by rw [hword]; exact words_all wi' hi9 wj' hj9
    have hself : valueAt (stored kp (codeN r.m r.here r.slash : Int) (Value.str (S (pathL r.m r.here r.slash)) tp)) (codeN r.m r.here r.slash : Int) = some (Value.str (S (pathL r.m r.here r.slash)) tp) := valueAt_stored_self _ _ _
    have hyl : ys.length ≤ 1000 := by
      have h1 := hys.length
      have h3 := congrArg List.length hsp
      simp at h1 h3
      omega
    have hstw : wordsL (done ++ [r]) = put (wordsL done) (codeN r.m r.here r.slash : Int) r.word := by simp [wordsL, rowCode]
    have hstp : pathsL (done ++ [r]) = put (pathsL done) (codeN r.m r.here r.slash : Int) (pathL r.m r.here r.slash) := by simp [pathsL, rowCode, rowPath]
    k_steps
    · rename Fr _ _ _ _ => F8
      rename News _ _ _ _ => N8
      refine iter_str rfl F8 N8 ?_
      clear F8 N8
      intro I2 h6 St2 eI2 it2 st2 F6 N6 lt2
      dsimp only
      have hsw : (S r.word).cps.toList = r.word := by simp [S]
      rw [hsw] at it2
      refine comp_block it2 st2 F6 N6 (fun p hp => Nat.ne_of_lt (lt2 p hp)) (fun p hp => nomatch hp) (by rw [sizeLine_eq]; omega) (by decide) rfl rfl (fun c => if bareC c then none else some c) isSignR ?_ ?_
      · intro a v oI C oC D oD m2 h7 tk7 ha hv hC hx F7 N7 n1 n2 n3 l1 l2
        obtain ⟨ta, rfl⟩ := hv
        refine wpAny_tests_one ?_
        k_steps
        · rename List.isEmpty _ = _ => e
          have hab := bare_words wi' hi9 wj' hj9 a (by rw [← hword]; exact ha)
          exact CEnd.mk F7 N7 ⟨a, if_neg (by have q := hab.symm.trans e; revert q; cases bareC a <;> simp), ⟨_, rfl⟩⟩
        · rename List.isEmpty _ = _ => e
          have hab := bare_words wi' hi9 wj' hj9 a (by rw [← hword]; exact ha)
          exact CEnd.mk F7 N7 (if_pos (by have q := hab.symm.trans e; revert q; cases bareC a <;> simp))
      · intro D h7 tk7 ys7 F7 N7 l7 hR
        dsimp only
        clear F6 N6
        k_steps
        rename News _ _ _ _ => N9
        rename Fr _ _ _ _ => F9
        rename_i D2 h8 lD2
        have D2D : D < D2 := lD2.1
        rename (S r.word != _) = true => hne
        dsimp only [List.cons_append, List.nil_append] at N9 l7
        have hD1 := (N9 _ (.tail _ (.head _))).1
        have hD2 := (N9 _ (.head _)).1
        rcases ys7 with _ | ⟨y0, yr⟩
        · have hb : bare r.word = true := bare_of hne (List.eq_nil_of_length_eq_zero (by rw [hR.length]; rfl))
          refine Stop.mk (SeqAt.eq_listAt (items := #[]) (items2 := #[]) (e := fun _ => true) ⟨_, hD1, rfl, _, rfl⟩ ⟨_, hD2, rfl, _, rfl⟩ rfl (by show un < _; omega) (fun j h1 => nomatch h1) ?_)
          dsimp only [Array.size, List.length_nil, List.range_zero, List.all_nil]
          k_steps
          refine item_N N9 (by k_mem) dp'' int_is hself (fun a e => by cases e) ?_
          dsimp only
          k_steps
          refine Stop.mk ⟨(by show Str.length (S _) + Str.length (Str.ofString "=") ≤ _; rw [lit2, S_length, S_length, sizeLine_eq]; simp only [List.length_cons, List.length_nil]; omega), fun t1 k1 hk1 => ?_⟩
          dsimp only at hk1 ⊢
          k_steps
          refine Stop.mk ⟨(by show Str.length (S _ ++ Str.ofString "=") + Str.length (S _) ≤ _; rw [lit2, S_append, S_length, S_length, sizeLine_eq]; simp only [List.length_append, List.length_cons, List.length_nil]; omega), fun t4 k4 hk4 => ?_⟩
          dsimp only at hk4 ⊢
          k_steps
          refine append_N (pre := [(D2, W.listOf ([] : List Value).toArray 0), (D, LCg.lst []), (I, oI)]) (post := [(pd, op'), (wd, ow')]) F9 N9 ?_ ?_ (by omega) ?_
          · intro p hp
            rcases List.mem_cons.mp hp with rfl | hp
            · exact Ne.symm (Nat.ne_of_lt (Nat.lt_trans (l7 (il, _) (.tail _ (.head _))) D2D))
            rcases List.mem_cons.mp hp with rfl | hp
            · exact Ne.symm (Nat.ne_of_lt (l7 (il, _) (.tail _ (.head _))))
            · rw [List.mem_singleton.mp hp]; exact Ne.symm (Nat.ne_of_lt iI)
          · intro p hp
            rcases List.mem_cons.mp hp with rfl | hp
            · exact Nat.ne_of_lt pi
            · rw [List.mem_singleton.mp hp]; exact Nat.ne_of_lt wi
          intro h10 F10 N10
          dsimp only
          k_steps
          dsimp only [List.cons_append, List.nil_append] at N10
          replace N10 := newsTl (newsTl N10)
          refine Mid.mk F10 N10 ?_ ⟨ow', op', _, _, _, _, rfl, dw', ?_, dp'', ?_, ?_, rfl, rfl, rfl, trivial⟩
          · intro p hp
            rcases List.mem_cons.mp hp with rfl | hp
            · exact Nat.ne_of_lt iI
            rcases List.mem_cons.mp hp with rfl | hp
            · exact Nat.ne_of_lt pI
            · rw [List.mem_singleton.mp hp]; exact Nat.ne_of_lt wI
          · rw [hstw]; exact rw'.put ⟨_, rfl⟩
          · rw [hstp]; exact rp.put ⟨_, rfl⟩
          · rw [List.map_append]; exact hys.snoc ⟨_, congrArg (fun z => Value.str z _) (told_then hb)⟩
        · have hnb : bare r.word = false := not_bare_of (fun q => by have := hR.length; rw [q] at this; simp at this)
          refine Stop.mk (SeqAt.eq_list_lengthsAt (items := (y0 :: yr).toArray) (items2 := #[]) ⟨_, hD1, rfl, _, rfl⟩ ⟨_, hD2, rfl, _, rfl⟩ (by simp) (by show un < _; omega) ?_)
          dsimp only
          k_steps
          subst hst
          refine else_ok (path := pathL r.m r.here r.slash) (wd0 := r.word) hB0 F9 (newsTl (newsTl N9)) iI wi pi hyl dp'' hself hpl hwl hi9 hj9 hword ⟨rfl, rfl, rfl, rfl, trivial⟩ ?_
          intro h10 tk10 n10 t10 F10 N10
          dsimp only
          refine wpAny_execs_nil (Mid.mk F10 N10 ?_ ⟨ow', op', _, _, _, _, rfl, dw', ?_, dp'', ?_, ?_, rfl, rfl, rfl, trivial⟩)
          · intro p hp
            rcases List.mem_cons.mp hp with rfl | hp
            · exact Nat.ne_of_lt iI
            rcases List.mem_cons.mp hp with rfl | hp
            · exact Nat.ne_of_lt pI
            · rw [List.mem_singleton.mp hp]; exact Nat.ne_of_lt wI
          · rw [hstw]; exact rw'.put ⟨_, rfl⟩
          · rw [hstp]; exact rp.put ⟨_, rfl⟩
          · rw [List.map_append]; exact hys.snoc (isStrR_of (told_else rfl hnb))
    · rename Fr _ _ _ _ => F9
      rename News _ _ _ _ => N9
      rename (S r.word != _) = false => hne
      have hnb : bare r.word = false := not_bare_empty (by simpa using hne)
      subst hst
      refine else_ok (path := pathL r.m r.here r.slash) (wd0 := r.word) hB0 F9 N9 iI wi pi hyl dp'' hself hpl hwl hi9 hj9 hword ⟨rfl, rfl, rfl, rfl, trivial⟩ ?_
      intro h10 tk10 n10 t10 F10 N10
      dsimp only
      refine wpAny_execs_nil (Mid.mk F10 N10 ?_ ⟨ow', op', _, _, _, _, rfl, dw', ?_, dp'', ?_, ?_, rfl, rfl, rfl, trivial⟩)
      · intro p hp
        rcases List.mem_cons.mp hp with rfl | hp
        · exact Nat.ne_of_lt iI
        rcases List.mem_cons.mp hp with rfl | hp
        · exact Nat.ne_of_lt pI
        · rw [List.mem_singleton.mp hp]; exact Nat.ne_of_lt wI
      · rw [hstw]; exact rw'.put ⟨_, rfl⟩
      · rw [hstp]; exact rp.put ⟨_, rfl⟩
      · rw [List.map_append]; exact hys.snoc (isStrR_of (told_else rfl hnb))
  · rintro h3 tk3 m3 news3 F3 N3 ⟨ow, op, kw, kp, ys, n, rfl, dw, rw', dp', rp, hys, vals⟩
    have F := Fr.shows F3 vals
    clear F3 F2 N2 F1 N1' vals
    k_steps
    rename Fr _ _ _ _ => F9
    rename News _ _ _ _ => N9
    have hT := N9 _ (.head _)
    have h1 := N9 _ (.tail _ (.head _))
    have h2 := N9 _ (.tail _ (.tail _ (.head _)))
    have h3 := N9 _ (.tail _ (.tail _ (.tail _ (.head _))))
    exact fin_of F9 ⟨_, wd, pd, il, ow, op, kw, kp, ys, n, rfl, ⟨_, hT.1, rfl, _, rfl⟩, h3.1, h2.1, h1.1, h3.2.2, h2.2.2, h1.2.2, wp, pi, hlow, hlop, dw, rw', dp', rp, hys⟩
end Mine
namespace Mine
theorem rowsFrom_here : ∀ (xs : List Int) (st : Bool × Nat) (k : Nat), st.2 < 16 ^ (3 + k) → ∀ r ∈ rowsFrom st xs, r.here < 16 ^ (3 + k + xs.length) ∧ r.slash ≤ 1 ∧ ∃ i j, i < 9 ∧ j < 9 ∧ r.word = pieceL i ++ pieceL j := by
  intro xs
  induction xs with
  | nil => intro st k h r hr; simp [rowsFrom] at hr
  | cons x xs ih =>
    intro st k h r hr
    have h1 := rowStep_lt st.1 st.2 (x % 6635520).toNat k h
    simp only [rowsFrom, List.mem_cons] at hr
    rcases hr with rfl | hr
    · refine ⟨Nat.lt_of_lt_of_le h1 (Nat.pow_le_pow_right (by decide) (by simp; omega)), ?_, (x % 6635520).toNat / 81920 % 9, (x % 6635520).toNat / 737280, ?_, ?_, rfl⟩
      · show (x % 6635520).toNat / 40960 % 2 ≤ 1; omega
      · omega
      · omega
    · have := ih _ (k + 1) h1 r hr
      refine ⟨Nat.lt_of_lt_of_le this.1 (Nat.pow_le_pow_right (by decide) (by simp; omega)), this.2⟩
theorem rows_len (ns : List Int) : (rowsL ns).length ≤ 8 := by
  unfold rowsL
  rw [rowsFrom_len, List.length_append, List.length_take]
  have : seed4.length = 4 := rfl
  omega
theorem rows_here (ns : List Int) : ∀ r ∈ rowsL ns, r.here < 16 ^ 11 := by
  intro r hr
  have h := (rowsFrom_here _ _ 0 (by decide) r hr).1
  refine Nat.lt_of_lt_of_le h (Nat.pow_le_pow_right (by decide) ?_)
  have : seed4.length = 4 := rfl
  rw [List.length_append, List.length_take]
  omega
theorem rows_ok (ns : List Int) : ∀ r ∈ rowsL ns, okRow r := by
  intro r hr
  refine ⟨?_, (rowsFrom_here _ _ 0 (by decide) r hr).2⟩
  have h := rows_here ns r hr
  refine Nat.le_of_not_lt fun q => ?_
  have h2 := (figs_len_iff 64 r.here).mpr q
  have h3 : (16 : Nat) ^ 11 ≤ 16 ^ 64 := Nat.pow_le_pow_right (by decide) (by decide)
  omega
end Mine
namespace Mine
noncomputable def joinedL (rs : List Row) : List Nat := (List.intersperse [44, 32] (rs.map itemL)).flatten
noncomputable def itemW (w : List Nat) : List Nat := if bare w then w else 34 :: w ++ [34]
noncomputable def psL (rs : List Row) : List Row2 := rs.map fun r => (rowPath r, itemW r.word)
theorem item_len {r : Row} (h : okRow r) : (itemL r).length ≤ 1010 := by
  obtain ⟨h1, h2, i, j, hi, hj, hw⟩ := h
  have hp := pathL_len r.m r.here r.slash h2 h1
  have hv : (itemV r.word).length ≤ 6 := by
    unfold itemV
    split
    · rw [hw]; have := words_all i hi j hj; omega
    · rw [hw]; have := (len_words i hi j hj).1; simp only [List.length_append, List.length_cons, List.length_nil]; omega
  simp only [itemL, rowPath, List.length_append, List.length_cons]
  omega
theorem items_sum (ns : List Int) : ((((rowsL ns).map itemL).map S).map fun x => x.length + (Str.ofString ", ").length).sum ≤ 16777216 := by
  have h := sum_le 1012 ((((rowsL ns).map itemL).map S).map fun x => x.length + (Str.ofString ", ").length) (by
    intro x hx
    simp only [List.mem_map] at hx
    obtain ⟨a, ⟨b, ⟨r, hr, rfl⟩, rfl⟩, rfl⟩ := hx
    have := item_len (rows_ok ns r hr)
    rw [S_length]
    have e : (Str.ofString ", ").length = 2 := by decide +kernel
    omega)
  have := rows_len ns
  simp only [List.length_map] at h
  omega
theorem inter_len (sep : List Nat) (c : Nat) : ∀ xs : List (List Nat), (∀ x ∈ xs, x.length ≤ c) → (List.intersperse sep xs).flatten.length ≤ (c + sep.length) * xs.length
  | [], _ => by simp
  | [x], h => by
    have := h x (.head _)
    simp; omega
  | x :: y :: r, h => by
    have h1 := h x (.head _)
    have h2 := inter_len sep c (y :: r) fun z hz => h z (.tail _ hz)
    rw [show List.intersperse sep (x :: y :: r) = x :: sep :: List.intersperse sep (y :: r) from rfl]
    simp only [List.flatten_cons, List.length_append, List.length_cons] at *
    rw [Nat.mul_add, Nat.mul_one]
    omega
theorem joined_len (ns : List Int) : (joinedL (rowsL ns)).length ≤ 100000 := by
  have h := inter_len [44, 32] 1010 ((rowsL ns).map itemL) (by
    intro x hx
    obtain ⟨r, hr, rfl⟩ := List.mem_map.mp hx
    exact item_len (rows_ok ns r hr))
  have h2 := rows_len ns
  unfold joinedL
  simp only [List.length_map, List.length_cons, List.length_nil] at h
  omega
end Mine
namespace Mine
theorem hrun_plain : ∀ (l : List Nat) (s : HS), s.esc = false → s.quo = false → (∀ c ∈ l, c ≠ 34 ∧ c ≠ 44) → l.foldl hstep s = { s with part := s.part ++ l }
  | [], s, _, _, _ => by simp
  | c :: r, s, h1, h2, h => by
    have hc := h c (.head _)
    have e : hstep s c = { s with part := s.part ++ [c] } := by
      obtain ⟨a, b, q, e⟩ := s
      simp_all [hstep]
    rw [List.foldl_cons, e, hrun_plain r { s with part := s.part ++ [c] } h1 h2 fun d hd => h d (.tail _ hd)]
    simp
theorem hrun_quoted : ∀ (l : List Nat) (s : HS), s.esc = false → s.quo = true → (l.flatMap escC).foldl hstep s = { s with part := s.part ++ l }
  | [], s, _, _ => by simp
  | c :: r, s, h1, h2 => by
    have e : (escC c).foldl hstep s = { s with part := s.part ++ [c] } := by
      obtain ⟨a, b, q, e⟩ := s
      unfold escC
      simp only at h1 h2
      subst h1 h2
      split
      · simp_all [hstep]
      split
      · simp_all [hstep]
      · simp_all [hstep]
    rw [List.flatMap_cons, List.foldl_append, e, hrun_quoted r { s with part := s.part ++ [c] } h1 h2]
    simp
theorem tw_nil {p : Nat → Bool} {c : Nat} {r : List Nat} (h : p c = false) : (c :: r).takeWhile p = [] := by rw [List.takeWhile_cons, h]; rfl
theorem strip_same (a : Nat) (m : List Nat) (b : Nat) (ha : Unicode.isSpace a = false) (hb : Unicode.isSpace b = false) : Txt.strip (S (a :: m ++ [b])) = S (a :: m ++ [b]) := by
  unfold Txt.strip Txt.stripBy
  have h1 : stripLo Unicode.isSpace true (S (a :: m ++ [b])) = 0 := by
    show ((a :: m ++ [b]).takeWhile Unicode.isSpace).length = 0
    rw [List.cons_append, tw_nil ha]; rfl
  have h2 : stripHi Unicode.isSpace true (S (a :: m ++ [b])) 0 = (S (a :: m ++ [b])).length := by
    show _ - (((a :: m ++ [b]).drop 0).reverse.takeWhile Unicode.isSpace).length = _
    rw [List.drop_zero, List.reverse_append]
    show _ - ((b :: (a :: m).reverse).takeWhile Unicode.isSpace).length = _
    rw [tw_nil hb]; rfl
  rw [if_pos]
  unfold stripSame
  rw [h1, h2]; simp
theorem strip_space (a : Nat) (m : List Nat) (b : Nat) (ha : Unicode.isSpace a = false) (hb : Unicode.isSpace b = false) : Txt.strip (S (32 :: (a :: m ++ [b]))) = S (a :: m ++ [b]) := by
  unfold Txt.strip Txt.stripBy
  have h1 : stripLo Unicode.isSpace true (S (32 :: (a :: m ++ [b]))) = 1 := by
    show ((32 :: (a :: m ++ [b])).takeWhile Unicode.isSpace).length = 1
    rw [List.takeWhile_cons, show Unicode.isSpace 32 = true from by decide +kernel, if_pos rfl, List.cons_append, tw_nil ha]; rfl
  have h2 : stripHi Unicode.isSpace true (S (32 :: (a :: m ++ [b]))) 1 = (S (32 :: (a :: m ++ [b]))).length := by
    show _ - (((a :: m ++ [b])).reverse.takeWhile Unicode.isSpace).length = _
    rw [List.reverse_append]
    show _ - ((b :: (a :: m).reverse).takeWhile Unicode.isSpace).length = _
    rw [tw_nil hb]; rfl
  rw [if_neg]
  · unfold PySem.stripped
    rw [h1, h2]
    apply Str.ext'
    show ((32 :: (a :: m ++ [b])).toArray).extract 1 ((32 :: (a :: m ++ [b])).toArray).size = (a :: m ++ [b]).toArray
    rw [List.extract_toArray, List.extract_eq_take_drop]
    simp
    exact List.take_of_length_le (by simp)
  · unfold stripSame
    rw [h1]; simp
end Mine
namespace Mine
theorem letS_chars (n : Nat) : ∀ c ∈ letS (figs n), 65 ≤ c ∧ c ≤ 80 := by
  intro c hc
  unfold letS at hc
  obtain ⟨d, hd, rfl⟩ := List.mem_map.mp hc
  have := figs_lt n d hd
  omega
theorem pathL_tail_chars (m : Bool) (n slash : Nat) : ∃ t, pathL m n slash = hostL m ++ t ∧ ∀ c ∈ t, c = 47 ∨ (65 ≤ c ∧ c ≤ 80) := by
  refine ⟨_, by unfold pathL; rw [List.append_assoc], ?_⟩
  intro c hc
  rcases List.mem_append.mp hc with hc | hc
  · obtain ⟨x, hx, hc⟩ := List.mem_flatten.mp hc
    obtain ⟨i, _, rfl⟩ := List.mem_map.mp hx
    unfold piece at hc
    rcases List.mem_cons.mp hc with rfl | hc
    · exact .inl rfl
    · exact .inr (letS_chars n c (List.mem_of_mem_drop (List.mem_of_mem_take hc)))
  · exact .inl (List.eq_of_mem_replicate hc)
theorem pathL_chars (m : Bool) (n slash : Nat) : ∀ c ∈ pathL m n slash, c = 109 ∨ c = 112 ∨ c = 47 ∨ (65 ≤ c ∧ c ≤ 80) := by
  intro c hc
  obtain ⟨t, e, h⟩ := pathL_tail_chars m n slash
  rw [e] at hc
  rcases List.mem_append.mp hc with hc | hc
  · cases m
    · right; left; simpa [hostL] using hc
    · left; simpa [hostL] using hc
  · exact .inr (.inr (h c hc))
theorem hrun_item (r : Row) (s : HS) (h1 : s.esc = false) (h2 : s.quo = false) : (itemL r).foldl hstep s = { s with part := s.part ++ (rowPath r ++ 61 :: itemW r.word) } := by
  have hp : ∀ c ∈ rowPath r ++ [61], c ≠ 34 ∧ c ≠ 44 := by
    intro c hc
    rcases List.mem_append.mp hc with hc | hc
    · have := pathL_chars _ _ _ c hc; omega
    · rw [List.mem_singleton.mp hc]; decide
  have e : itemL r = (rowPath r ++ [61]) ++ itemV r.word := by simp [itemL]
  rw [e, List.foldl_append, hrun_plain _ s h1 h2 hp]
  unfold itemV itemW
  split
  · rename_i hb
    have ha : ∀ c ∈ r.word, c ≠ 34 ∧ c ≠ 44 := by
      intro c hc
      have : r.word.all bareC = true := by
        unfold bare at hb; exact (Bool.and_eq_true _ _ ▸ hb).2
      have := List.all_eq_true.mp this c hc
      simp [bareC] at this
      omega
    rw [hrun_plain r.word { s with part := s.part ++ (rowPath r ++ [61]) } h1 h2 ha]
    simp
  · rw [List.foldl_append, List.foldl_append]
    have e1 : [34].foldl hstep { s with part := s.part ++ (rowPath r ++ [61]) } = { s with part := s.part ++ (rowPath r ++ [61]) ++ [34], quo := true } := by
      simp [hstep, h1, h2]
    rw [e1, hrun_quoted r.word { s with part := s.part ++ (rowPath r ++ [61]) ++ [34], quo := true } h1 rfl]
    simp [hstep, h1, h2]
end Mine
namespace Mine
noncomputable def partOf (r : Row) : List Nat := rowPath r ++ 61 :: itemW r.word
theorem partOf_ne (r : Row) : partOf r ≠ [] := by unfold partOf; simp
theorem hrun_join : ∀ (rest : List Row) (r : Row) (s : HS), s.esc = false → s.quo = false →
    ((joinedL (r :: rest)).foldl hstep s).res ++ [((joinedL (r :: rest)).foldl hstep s).part] = s.res ++ (s.part ++ partOf r) :: rest.map (fun q => 32 :: partOf q) ∧ ((joinedL (r :: rest)).foldl hstep s).part ≠ []
  | [], r, s, h1, h2 => by
    have e : joinedL [r] = itemL r := by simp [joinedL]
    rw [e, hrun_item r s h1 h2]
    refine ⟨rfl, ?_⟩
    show s.part ++ partOf r ≠ []
    intro q
    exact partOf_ne r (List.append_eq_nil_iff.mp q).2
  | r2 :: rest, r, s, h1, h2 => by
    have e : joinedL (r :: r2 :: rest) = itemL r ++ ([44, 32] ++ joinedL (r2 :: rest)) := by
      unfold joinedL
      rw [List.map_cons, List.map_cons, show List.intersperse [44, 32] (itemL r :: itemL r2 :: rest.map itemL) = itemL r :: [44, 32] :: List.intersperse [44, 32] (itemL r2 :: rest.map itemL) from rfl]
      simp
    have e2 : [44, 32].foldl hstep { s with part := s.part ++ (rowPath r ++ 61 :: itemW r.word) } = { s with res := s.res ++ [s.part ++ partOf r], part := [32] } := by
      simp [hstep, h1, h2, partOf]
    rw [e, List.foldl_append, List.foldl_append, hrun_item r s h1 h2, e2]
    have ih := hrun_join rest r2 { s with res := s.res ++ [s.part ++ partOf r], part := [32] } h1 h2
    refine ⟨?_, ih.2⟩
    rw [ih.1]
    simp
theorem part_shape (r : Row) : ∃ a m b, partOf r = a :: m ++ [b] ∧ Unicode.isSpace a = false ∧ Unicode.isSpace b = false := by
  obtain ⟨t, e, _⟩ := pathL_tail_chars r.m r.here r.slash
  have hw : ∃ m b, itemW r.word = m ++ [b] ∧ Unicode.isSpace b = false := by
    unfold itemW
    split
    · rename_i hb
      have hne : r.word ≠ [] := by rintro q; rw [q] at hb; simp [bare] at hb
      have ha : r.word.all bareC = true := by unfold bare at hb; exact (Bool.and_eq_true _ _ ▸ hb).2
      refine ⟨r.word.dropLast, r.word.getLast hne, (List.dropLast_concat_getLast hne).symm, ?_⟩
      have := List.all_eq_true.mp ha _ (List.getLast_mem hne)
      have key : ∀ c, bareC c = true → Unicode.isSpace c = false := by
        intro c hc
        simp [bareC] at hc
        rcases hc with rfl | rfl | rfl | rfl <;> decide +kernel
      exact key _ this
    · exact ⟨34 :: r.word, 34, rfl, by decide +kernel⟩
  obtain ⟨m, b, e2, hb⟩ := hw
  have hh : ∃ a, hostL r.m = [a] ∧ Unicode.isSpace a = false := by
    cases r.m
    · exact ⟨112, rfl, by decide +kernel⟩
    · exact ⟨109, rfl, by decide +kernel⟩
  obtain ⟨a, e3, ha⟩ := hh
  refine ⟨a, t ++ 61 :: m, b, ?_, ha, hb⟩
  unfold partOf rowPath
  rw [e, e2, e3]; simp
theorem http_rows (r : Row) (rest : List Row) : ((hparts (joinedL (r :: rest))).map fun p => Txt.strip (S p)) = (r :: rest).map fun r => S (partOf r) := by
  have h := hrun_join rest r ⟨[], [], false, false⟩ rfl rfl
  have e : hparts (joinedL (r :: rest)) = partOf r :: rest.map (fun q => 32 :: partOf q) := by
    unfold hparts hrun
    rw [if_neg h.2, h.1]; rfl
  rw [e, List.map_cons, List.map_cons, List.map_map]
  congr 1
  · obtain ⟨a, m, b, e, ha, hb⟩ := part_shape r
    rw [e]; exact strip_same a m b ha hb
  · apply List.map_congr_left
    intro q _
    obtain ⟨a, m, b, e, ha, hb⟩ := part_shape q
    show Txt.strip (S (32 :: partOf q)) = _
    rw [e]; exact strip_space a m b ha hb
theorem http_law (ns : List Int) : ((hparts (joinedL (rowsL ns))).map fun p => Txt.strip (S p)) = (psL (rowsL ns)).map fun p => S (p.1 ++ 61 :: p.2) := by
  have e : ∃ r rest, rowsL ns = r :: rest := ⟨_, _, rfl⟩
  obtain ⟨r, rest, e⟩ := e
  rw [e, http_rows]
  unfold psL
  rw [List.map_map]; rfl
theorem ps_ok (ns : List Int) : ∀ p ∈ psL (rowsL ns), 61 ∉ p.1 ∧ p.2 ≠ [] ∧ p.1.length + p.2.length ≤ 10000 := by
  intro p hp
  obtain ⟨r, hr, rfl⟩ := List.mem_map.mp hp
  obtain ⟨h1, h2, i, j, hi, hj, hw⟩ := rows_ok ns r hr
  refine ⟨?_, ?_, ?_⟩
  · intro q
    have := pathL_chars _ _ _ 61 q
    omega
  · show itemW r.word ≠ []
    unfold itemW
    split
    · rename_i hb
      rintro q; rw [q] at hb; simp [bare] at hb
    · simp
  · have hp := pathL_len r.m r.here r.slash h2 h1
    have hl := words_all i hi j hj
    show (pathL r.m r.here r.slash).length + (itemW r.word).length ≤ 10000
    have : (itemW r.word).length ≤ r.word.length + 2 := by
      unfold itemW
      split
      · omega
      · simp
    have hl2 : r.word.length ≤ 2 := by rw [hw]; exact hl
    omega
end Mine
namespace Mine
theorem reps_S {as : List (List Nat)} {vs : List Value} (h : Reps strL as vs) : Reps isStrR (as.map S) vs := by
  induction h with
  | nil => exact .nil
  | cons a b ih => exact .cons a ih
theorem join_S (rs : List Row) : Str.join (Str.ofString ", ") ((rs.map itemL).map S) = S (joinedL rs) := by
  rw [show Str.ofString ", " = S [44, 32] from by decide +kernel]
  exact join_toList [44, 32] (rs.map itemL)
theorem reps_row2 {ps : List Row2} {xs : List Str} {vs : List Value} (h : Reps isStrR xs vs) (e : xs = ps.map fun p => S (p.1 ++ 61 :: p.2)) : Reps isRow2 ps vs := by
  subst e
  induction ps generalizing vs with
  | nil => cases h; exact .nil
  | cons p r ih => cases h with | cons a b => exact .cons a (ih b)
end Mine
namespace Mine
theorem num_filter : ∀ (l : List Nat) (a : Nat), l.foldl (fun a c => if c = 47 then a else 16 * a + (c - 65)) a = (l.filter (· ≠ 47)).foldl (fun a c => 16 * a + (c - 65)) a
  | [], _ => rfl
  | c :: r, a => by
    by_cases h : c = 47
    · simp [h, num_filter r]
    · simp [h, num_filter r]
theorem chunks (st : Nat) (hst : 0 < st) (l : List Nat) : ∀ c, ((List.range c).map fun i => (l.drop (i * st)).take st).flatten = l.take (c * st)
  | 0 => by simp
  | c + 1 => by
    rw [List.range_succ, List.map_append, List.flatten_append, chunks st hst l c]
    simp only [List.map_cons, List.map_nil, List.flatten_cons, List.flatten_nil, List.append_nil]
    rw [Nat.succ_mul, List.take_add]
theorem fold_figs : ∀ n, ((letS (figs n)).foldl (fun a c => 16 * a + (c - 65)) 0) = n := by
  intro n
  induction n using Nat.strongRecOn with
  | ind n ih =>
    by_cases h : n = 0
    · subst h; rw [figs_zero]; rfl
    · rw [figs_pos h]
      unfold letS at *
      rw [List.map_append, List.foldl_append, ih (n / 16) (by omega)]
      simp
      omega
theorem letS_len (l : List Nat) : (letS l).length = l.length := by simp [letS]
theorem path_filter (m : Bool) (n slash : Nat) : ((pathL m n slash).drop 1).filter (· ≠ 47) = letS (figs n) := by
  have hst : 0 < stepOf m := by cases m <;> decide
  have e1 : (pathL m n slash).drop 1 = ((List.range (((figs n).length + stepOf m - 1) / stepOf m)).map (piece (stepOf m) (letS (figs n)))).flatten ++ List.replicate slash 47 := by
    unfold pathL
    cases m <;> simp [hostL]
  rw [e1, List.filter_append, List.filter_flatten, List.map_map]
  have e2 : (List.replicate slash 47).filter (fun x => decide (x ≠ 47)) = [] := by simp
  have e3 : (List.filter (fun x => decide (x ≠ 47)) ∘ piece (stepOf m) (letS (figs n))) = fun i => ((letS (figs n)).drop (i * stepOf m)).take (stepOf m) := by
    funext i
    show List.filter _ (47 :: _) = _
    rw [List.filter_cons, if_neg (by simp)]
    rw [List.filter_eq_self]
    intro c hc
    have := letS_chars n c (List.mem_of_mem_drop (List.mem_of_mem_take hc))
    simp; omega
  rw [e2, e3, List.append_nil, chunks _ hst]
  apply List.take_of_length_le
  rw [letS_len]
  generalize (figs n).length = k
  have := Nat.div_add_mod (k + stepOf m - 1) (stepOf m)
  have h2 := Nat.mod_lt (k + stepOf m - 1) hst
  rw [Nat.mul_comm]
  omega
theorem num_path (m : Bool) (n slash : Nat) : numL ((pathL m n slash).drop 1) = n := by
  unfold numL
  rw [num_filter, path_filter, fold_figs]
end Mine
namespace Mine
noncomputable def decP (p : List Nat) : Nat := 4 * numL (p.drop 1) + 2 * (if p.getLast? = some 47 then 1 else 0) + (if p.head? = some 109 then 1 else 0)
theorem path_last (m : Bool) (n : Nat) : (pathL m n 0).getLast? ≠ some 47 := by
  have hst : 0 < stepOf m := by cases m <;> decide
  unfold pathL
  rw [List.replicate_zero, List.append_nil]
  by_cases hk : (figs n).length = 0
  · rw [hk, show (0 + stepOf m - 1) / stepOf m = 0 from Nat.div_eq_of_lt (by omega)]
    cases m <;> simp [hostL]
  · obtain ⟨c, hc⟩ : ∃ c, ((figs n).length + stepOf m - 1) / stepOf m = c + 1 := by
      refine ⟨((figs n).length + stepOf m - 1) / stepOf m - 1, ?_⟩
      have : 1 ≤ ((figs n).length + stepOf m - 1) / stepOf m := (Nat.le_div_iff_mul_le hst).mpr (by omega)
      omega
    rw [hc, List.range_succ, List.map_append, List.flatten_append]
    simp only [List.map_cons, List.map_nil, List.flatten_cons, List.flatten_nil, List.append_nil]
    have hlt : c * stepOf m < (figs n).length := by
      have h1 := Nat.div_mul_le_self ((figs n).length + stepOf m - 1) (stepOf m)
      rw [hc, Nat.add_mul, Nat.one_mul] at h1
      omega
    generalize hch : ((letS (figs n)).drop (c * stepOf m)).take (stepOf m) = ch
    have hne : ch ≠ [] := by
      intro q
      have := congrArg List.length hch
      rw [q, List.length_take, List.length_drop, letS_len] at this
      simp at this
      omega
    have hp : piece (stepOf m) (letS (figs n)) c = 47 :: ch := by unfold piece; rw [hch]
    rw [hp, ← List.append_assoc, List.getLast?_append, List.getLast?_cons_of_ne_nil hne, List.getLast?_eq_some_getLast hne, Option.some_or]
    intro q
    have hm := List.getLast_mem hne
    rw [Option.some.inj q, ← hch] at hm
    have := letS_chars n 47 (List.mem_of_mem_drop (List.mem_of_mem_take hm))
    omega
theorem path_last1 (m : Bool) (n : Nat) : (pathL m n 1).getLast? = some 47 := by
  unfold pathL
  rw [show List.replicate 1 47 = [47] from rfl, List.getLast?_append]; rfl
theorem path_head (m : Bool) (n slash : Nat) : ((pathL m n slash).head? = some 109) ↔ m = true := by
  unfold pathL
  cases m <;> simp [hostL]
theorem decP_path (m : Bool) (n slash : Nat) (hs : slash ≤ 1) : decP (pathL m n slash) = codeN m n slash := by
  unfold decP codeN
  rw [num_path]
  have h2 : (if (pathL m n slash).head? = some 109 then 1 else 0) = if m = true then 1 else 0 := by
    by_cases q : m = true
    · rw [if_pos ((path_head m n slash).mpr q), if_pos q]
    · rw [if_neg (fun z => q ((path_head m n slash).mp z)), if_neg q]
  rw [h2]
  rcases (by omega : slash = 0 ∨ slash = 1) with rfl | rfl
  · rw [if_neg (path_last m n)]
  · rw [if_pos (path_last1 m n)]
end Mine
namespace Mine
/-- putting under keys that are carried over one to one -/
theorem put_map {κ κ' β : Type} [DecidableEq κ] [DecidableEq κ'] (f : κ → κ') (es : List (κ × β)) (k : κ) (b : β) (inj : ∀ e ∈ es, f e.1 = f k → e.1 = k) :
    put (es.map fun e => (f e.1, e.2)) (f k) b = (put es k b).map fun e => (f e.1, e.2) := by
  have hany : ((es.map fun e => (f e.1, e.2)).any fun e => decide (e.1 = f k)) = es.any fun e => decide (e.1 = k) := by
    induction es with
    | nil => rfl
    | cons e r ih =>
      rw [List.map_cons, List.any_cons, List.any_cons, ih fun e' he' => inj e' (.tail _ he')]
      congr 1
      by_cases q : e.1 = k
      · simp [q]
      · have q2 : ¬ f e.1 = f k := fun z => q (inj e (.head _) z)
        simp [q, q2]
  unfold put
  rw [hany]
  split
  · rw [List.map_map, List.map_map]
    apply List.map_congr_left
    intro e he
    simp only [Function.comp]
    by_cases q : e.1 = k
    · simp [q]
    · have q2 : ¬ f e.1 = f k := fun z => q (inj e he z)
      simp [q, q2]
  · simp
theorem put_keys {κ β : Type} [DecidableEq κ] {es : List (κ × β)} {k : κ} {b : β} {e : κ × β} (h : e ∈ put es k b) : e.1 = k ∨ ∃ e' ∈ es, e'.1 = e.1 := by
  unfold put at h
  split at h
  · obtain ⟨e', he', rfl⟩ := List.mem_map.mp h
    right
    refine ⟨e', he', ?_⟩
    split <;> rfl
  · rcases List.mem_append.mp h with h | h
    · exact .inr ⟨e, h, rfl⟩
    · rw [List.mem_singleton.mp h]; exact .inl rfl
end Mine
namespace Mine
noncomputable def pathOf (c : Int) : List Nat := pathL (decide (c % 2 = 1)) (c / 4).toNat (c / 2 % 2).toNat
theorem code_form (m : Bool) (n s : Nat) : ∃ b, b = (if m = true then 1 else 0) ∧ b ≤ 1 ∧ codeN m n s = 4 * n + 2 * s + b := ⟨if m = true then 1 else 0, rfl, by cases m <;> decide, rfl⟩
theorem code_mod2 (m : Bool) (n s : Nat) : codeN m n s % 2 = if m = true then 1 else 0 := by
  obtain ⟨b, hb, h, e⟩ := code_form m n s
  rw [e, ← hb]; clear hb e; omega
theorem code_div4 (m : Bool) {n s : Nat} (hs : s ≤ 1) : codeN m n s / 4 = n := by
  obtain ⟨b, hb, h, e⟩ := code_form m n s
  rw [e]; clear hb e; omega
theorem code_div2 (m : Bool) {n s : Nat} (hs : s ≤ 1) : codeN m n s / 2 % 2 = s := by
  obtain ⟨b, hb, h, e⟩ := code_form m n s
  rw [e]; clear hb e; omega
theorem code_parts (m : Bool) (n s : Nat) (hs : s ≤ 1) : decide (((codeN m n s : Nat) : Int) % 2 = 1) = m ∧ (((codeN m n s : Nat) : Int) / 4).toNat = n ∧ (((codeN m n s : Nat) : Int) / 2 % 2).toNat = s := by
  have h1 := code_mod2 m n s
  have h2 := code_div4 m (n := n) hs
  have h3 := code_div2 m (n := n) hs
  refine ⟨?_, ?_, ?_⟩
  · show decide (((codeN m n s : Nat) : Int) % ((2 : Nat) : Int) = 1) = m
    rw [← Int.natCast_emod, h1]
    cases m <;> rfl
  · show (((codeN m n s : Nat) : Int) / ((4 : Nat) : Int)).toNat = n
    rw [← Int.natCast_ediv, Int.toNat_natCast, h2]
  · show (((codeN m n s : Nat) : Int) / ((2 : Nat) : Int) % ((2 : Nat) : Int)).toNat = s
    rw [← Int.natCast_ediv, ← Int.natCast_emod, Int.toNat_natCast, h3]
theorem pathOf_code (m : Bool) (n s : Nat) (hs : s ≤ 1) : pathOf (codeN m n s : Nat) = pathL m n s := by
  obtain ⟨h1, h2, h3⟩ := code_parts m n s hs
  unfold pathOf; rw [h1, h2, h3]
theorem unq_item (w : List Nat) : unq (itemW w) = w := by
  unfold itemW
  split
  · rename_i hb
    unfold unq
    rw [if_neg]
    rintro ⟨h1, _⟩
    cases w with
    | nil => cases h1
    | cons c r =>
      have ha : (c :: r).all bareC = true := by unfold bare at hb; exact (Bool.and_eq_true _ _ ▸ hb).2
      have := List.all_eq_true.mp ha c (.head _)
      simp [bareC] at this
      have hc : c = 34 := by simpa using h1
      omega
  · unfold unq
    rw [if_pos ⟨rfl, by rw [List.getLast?_append]; rfl⟩]
    show (w ++ [34]).dropLast = w
    simp
def rowCodes (d : List (Int × List Nat)) : Prop := ∀ e ∈ d, ∃ m n s, s ≤ 1 ∧ e.1 = (codeN m n s : Nat)
theorem pathOf_inj {a b : Int} (ha : ∃ m n s, s ≤ 1 ∧ a = (codeN m n s : Nat)) (hb : ∃ m n s, s ≤ 1 ∧ b = (codeN m n s : Nat)) (h : pathOf a = pathOf b) : a = b := by
  obtain ⟨m, n, s, hs, rfl⟩ := ha
  obtain ⟨m', n', s', hs', rfl⟩ := hb
  rw [pathOf_code m n s hs, pathOf_code m' n' s' hs'] at h
  have := congrArg decP h
  rw [decP_path m n s hs, decP_path m' n' s' hs'] at this
  rw [this]
theorem keqv_fold (f : Row → List Nat) : ∀ (rs : List Row) (d : List (Int × List Nat)), (∀ r ∈ rs, r.slash ≤ 1) → rowCodes d →
    rs.foldl (fun d r => put d (S (rowPath r)) (f r)) (d.map fun e => (S (pathOf e.1), e.2)) = (rs.foldl (fun d r => put d (rowCode r) (f r)) d).map (fun e => (S (pathOf e.1), e.2)) ∧ rowCodes (rs.foldl (fun d r => put d (rowCode r) (f r)) d)
  | [], _, _, hd => ⟨rfl, hd⟩
  | r :: rs, d, hr, hd => by
    have hs := hr r (.head _)
    have e : S (rowPath r) = S (pathOf (rowCode r)) := by rw [show rowCode r = ((codeN r.m r.here r.slash : Nat) : Int) from rfl, pathOf_code _ _ _ hs]; rfl
    rw [List.foldl_cons, List.foldl_cons, e, put_map (fun c => S (pathOf c)) d (rowCode r) (f r) (fun e he q => pathOf_inj (hd e he) ⟨r.m, r.here, r.slash, hs, rfl⟩ (S_inj q))]
    refine keqv_fold f rs _ (fun q hq => hr q (.tail _ hq)) ?_
    intro e he
    rcases put_keys he with q | ⟨e', he', q⟩
    · exact ⟨r.m, r.here, r.slash, hs, q⟩
    · rw [← q]; exact hd e' he'
theorem keqv_law (rs : List Row) (h : ∀ r ∈ rs, r.slash ≤ 1) : keqv (psL rs) = (wordsL rs).map fun e => (S (pathOf e.1), e.2) := by
  unfold keqv psL
  rw [List.foldl_map]
  have := (keqv_fold (·.word) rs [] h (fun _ he => nomatch he)).1
  simp only [unq_item]
  exact this
theorem words_codes (rs : List Row) (h : ∀ r ∈ rs, r.slash ≤ 1) : rowCodes (wordsL rs) := (keqv_fold (·.word) rs [] h (fun _ he => nomatch he)).2
end Mine
namespace Mine
theorem le_one {s : Nat} (h : s ≤ 1) : s = 0 ∨ s = 1 := by omega
noncomputable def PL (m : Bool) (n : Nat) : List Nat := ((List.range (((figs n).length + stepOf m - 1) / stepOf m)).map (piece (stepOf m) (letS (figs n)))).flatten
theorem pathL_eq (m : Bool) (n s : Nat) : pathL m n s = hostL m ++ PL m n ++ List.replicate s 47 := rfl
theorem chunk_split (st : Nat) (hst : st = 1 ∨ st = 2) (l1 l2 : List Nat) (q : Nat) (h1 : l1.length = q * st) (h2 : 0 < l2.length) (h3 : l2.length ≤ st) :
    ((List.range (((l1 ++ l2).length + st - 1) / st)).map (piece st (l1 ++ l2))).flatten = ((List.range ((l1.length + st - 1) / st)).map (piece st l1)).flatten ++ 47 :: l2 := by
  have e1 : ((l1 ++ l2).length + st - 1) / st = q + 1 := by
    rw [List.length_append, h1]
    rcases hst with rfl | rfl <;> omega
  have e2 : (l1.length + st - 1) / st = q := by
    rw [h1]
    rcases hst with rfl | rfl <;> omega
  have hp : 0 < st := by omega
  rw [e1, e2, List.range_succ, List.map_append, List.flatten_append]
  congr 1
  · congr 1
    apply List.map_congr_left
    intro i hi
    have hi := List.mem_range.mp hi
    unfold piece
    congr 1
    have hle : i * st + st ≤ l1.length := by
      rw [h1, ← Nat.succ_mul]; exact Nat.mul_le_mul_right _ hi
    rw [List.drop_append_of_le_length (by omega), List.take_append_of_le_length (by rw [List.length_drop]; omega)]
  · simp only [List.map_cons, List.map_nil, List.flatten_cons, List.flatten_nil, List.append_nil]
    unfold piece
    rw [← h1, List.drop_append_of_le_length (Nat.le_refl _), List.drop_length, List.nil_append, List.take_of_length_le h3]
noncomputable def cutOf (m : Bool) (n : Nat) : Nat := if m = true ∧ (figs n).length % 2 = 0 then 2 else 1
theorem figs_up (m : Bool) (n : Nat) (h : n ≠ 0) : ∃ ch : List Nat, figs n = figs (n / 16 ^ cutOf m n) ++ ch ∧ ch.length = cutOf m n ∧ (figs (n / 16 ^ cutOf m n)).length % stepOf m = 0 := by
  have e1 := figs_pos h
  have l1 : (figs n).length = (figs (n / 16)).length + 1 := by rw [e1]; simp
  by_cases hc : m = true ∧ (figs n).length % 2 = 0
  · have ec : cutOf m n = 2 := if_pos hc
    obtain ⟨rfl, hk⟩ := hc
    rw [ec]
    have h2 : n / 16 ≠ 0 := by
      intro q; rw [q, figs_zero] at l1; simp at l1; omega
    have e2 := figs_pos h2
    have l2 : (figs (n / 16)).length = (figs (n / 16 / 16)).length + 1 := by rw [e2]; simp
    rw [show n / 16 ^ 2 = n / 16 / 16 from by rw [Nat.div_div_eq_div_mul]]
    refine ⟨[n / 16 % 16, n % 16], by rw [e1, e2]; simp, rfl, ?_⟩
    show _ % 2 = 0
    omega
  · have ec : cutOf m n = 1 := if_neg hc
    rw [ec, Nat.pow_one]
    refine ⟨[n % 16], e1, rfl, ?_⟩
    cases m
    · exact Nat.mod_one _
    · show _ % 2 = 0
      have : ¬ (figs n).length % 2 = 0 := fun q => hc ⟨rfl, q⟩
      omega
theorem PL_up (m : Bool) (n : Nat) (h : n ≠ 0) : ∃ ch : List Nat, PL m n = PL m (n / 16 ^ cutOf m n) ++ 47 :: ch ∧ 47 ∉ ch ∧ ch ≠ [] := by
  obtain ⟨ch, e, hl, hk⟩ := figs_up m n h
  have hst : stepOf m = 1 ∨ stepOf m = 2 := by cases m <;> simp [stepOf]
  have hc : 0 < cutOf m n ∧ cutOf m n ≤ stepOf m := by
    unfold cutOf; split
    · rename_i q; rw [q.1]; exact ⟨by decide, by decide⟩
    · refine ⟨by decide, ?_⟩; cases m <;> decide
  refine ⟨letS ch, ?_, ?_, ?_⟩
  · unfold PL
    have el : (figs n).length = (letS (figs (n / 16 ^ cutOf m n)) ++ letS ch).length := by rw [List.length_append, letS_len, letS_len, ← List.length_append, ← e]
    have es : letS (figs n) = letS (figs (n / 16 ^ cutOf m n)) ++ letS ch := by
      have := congrArg letS e
      rw [this]; simp [letS]
    have el2 : (figs (n / 16 ^ cutOf m n)).length = (letS (figs (n / 16 ^ cutOf m n))).length := (letS_len _).symm
    rw [el, es, el2]
    refine chunk_split (stepOf m) hst _ _ ((figs (n / 16 ^ cutOf m n)).length / stepOf m) ?_ (by rw [letS_len, hl]; exact hc.1) (by rw [letS_len, hl]; exact hc.2)
    rw [letS_len]
    have := Nat.div_add_mod (figs (n / 16 ^ cutOf m n)).length (stepOf m)
    rw [hk, Nat.mul_comm] at this
    omega
  · intro hm
    obtain ⟨d, _, q⟩ := List.mem_map.mp hm
    omega
  · intro q
    have := congrArg List.length q
    rw [letS_len, hl] at this
    simp at this
    omega
theorem PL_inj (m : Bool) {a b : Nat} (h : PL m a = PL m b) : a = b := by
  have : pathL m a 0 = pathL m b 0 := by rw [pathL_eq, pathL_eq, h]
  rw [← num_path m a 0, ← num_path m b 0, this]
theorem PL_zero (m : Bool) : PL m 0 = [] := by unfold PL; rw [figs_zero]; cases m <;> rfl
theorem cov1_iff (m : Bool) (a b : Nat) : PL m a ++ [47] <+: PL m b ++ [47] ↔ a = b ∨ PL m a ++ [47] <+: PL m b := by
  rw [List.prefix_concat_iff]
  constructor
  · rintro (h | h)
    · exact .inl (PL_inj m (List.append_cancel_right h))
    · exact .inr h
  · rintro (rfl | h)
    · exact .inl rfl
    · exact .inr h
theorem pre_mid {x y ch : List Nat} {c : Nat} (hc : c ∉ ch) (h : x ++ [c] <+: y ++ ch) : x ++ [c] <+: y := by
  obtain ⟨t, ht⟩ := h
  rcases List.append_eq_append_iff.mp ht with ⟨as, h1, h2⟩ | ⟨bs, h1, h2⟩
  · exact ⟨as, h1.symm⟩
  · by_cases hb : bs = []
    · subst hb
      rw [List.append_nil] at h1
      rw [h1]; exact List.prefix_rfl
    · exfalso
      have q := congrArg List.getLast? h1
      rw [List.getLast?_append, List.getLast?_append, List.getLast?_eq_some_getLast hb, Option.some_or] at q
      have q2 : c = bs.getLast hb := by simpa using q
      exact hc (by rw [h2, q2]; exact List.mem_append_left _ (List.getLast_mem hb))
theorem cov0_up (m : Bool) (a b : Nat) (hb : b ≠ 0) : PL m a ++ [47] <+: PL m b ↔ PL m a ++ [47] <+: PL m (b / 16 ^ cutOf m b) ++ [47] := by
  obtain ⟨ch, e, h1, _⟩ := PL_up m b hb
  have e' : PL m b = (PL m (b / 16 ^ cutOf m b) ++ [47]) ++ ch := by rw [e]; simp
  rw [e']
  exact ⟨pre_mid h1, fun h => h.trans (List.prefix_append _ _)⟩
theorem codeN_inj {m m' : Bool} {a b s t : Nat} (hs : s ≤ 1) (ht : t ≤ 1) : codeN m a s = codeN m' b t ↔ m = m' ∧ a = b ∧ s = t := by
  unfold codeN
  constructor
  · intro h
    cases m <;> cases m' <;> simp at h ⊢ <;> omega
  · rintro ⟨rfl, rfl, rfl⟩; rfl
theorem wayUp_pos (m : Bool) (n : Nat) (h : n ≠ 0) : wayUp m (figs n).length n = [codeN m (n / 16 ^ cutOf m n) 1, codeN m (n / 16 ^ cutOf m n) 0] ++ wayUp m (figs (n / 16 ^ cutOf m n)).length (n / 16 ^ cutOf m n) := by
  obtain ⟨ch, e, hl, _⟩ := figs_up m n h
  have hk : (figs n).length = (figs (n / 16 ^ cutOf m n)).length + cutOf m n := by
    have := congrArg List.length e
    rw [List.length_append, hl] at this; exact this
  have hn : (figs n).length ≠ 0 := by rw [figs_pos h]; simp
  have : (figs (n / 16 ^ cutOf m n)).length = (figs n).length - cutOf m n := by omega
  rw [this]
  conv => lhs; rw [wayUp, if_neg hn]
  rfl
theorem cut_lt (m : Bool) (n : Nat) (h : n ≠ 0) : n / 16 ^ cutOf m n < n := Nat.div_lt_self (by omega) (by unfold cutOf; split <;> decide)
theorem mem_wayUp (m m' : Bool) (a s : Nat) (hs : s ≤ 1) : ∀ n, codeN m a s ∈ wayUp m' (figs n).length n ↔ m = m' ∧ PL m' a ++ [47] <+: PL m' n := by
  intro n
  induction n using Nat.strongRecOn with
  | ind n ih =>
    by_cases h : n = 0
    · subst h
      rw [figs_zero, wayUp, PL_zero]; simp
    · rw [wayUp_pos m' n h, cov0_up m' a n h, cov1_iff]
      simp only [List.cons_append, List.nil_append, List.mem_cons, ih _ (cut_lt m' n h), codeN_inj hs (Nat.le_refl 1), codeN_inj hs (Nat.zero_le 1)]
      constructor
      · rintro (⟨h1, h2, _⟩ | ⟨h1, h2, _⟩ | ⟨h1, h2⟩)
        · exact ⟨h1, .inl h2⟩
        · exact ⟨h1, .inl h2⟩
        · exact ⟨h1, .inr h2⟩
      · rintro ⟨h1, h2 | h2⟩
        · rcases (le_one hs) with rfl | rfl
          · exact .inr (.inl ⟨h1, h2, rfl⟩)
          · exact .inl ⟨h1, h2, rfl⟩
        · exact .inr (.inr ⟨h1, h2⟩)
theorem mem_wayL (m m' : Bool) (a s b t : Nat) (hs : s ≤ 1) (ht : t ≤ 1) : codeN m a s ∈ wayL m' b t ↔ m = m' ∧ ((a = b ∧ s ≤ t) ∨ PL m' a ++ [47] <+: PL m' b) := by
  unfold wayL
  rw [List.mem_append, mem_wayUp m m' a s hs]
  have : codeN m a s ∈ ([1, 0].filter (fun o => decide (o ≤ t))).map (codeN m' b) ↔ m = m' ∧ a = b ∧ s ≤ t := by
    rw [List.mem_map]
    constructor
    · rintro ⟨o, ho, e⟩
      rw [List.mem_filter] at ho
      have h1 : o ≤ 1 := by have := ho.1; simp at this; omega
      obtain ⟨r1, r2, r3⟩ := (codeN_inj h1 hs).mp e
      exact ⟨r1.symm, r2.symm, by have := ho.2; simp at this; omega⟩
    · rintro ⟨rfl, rfl, h⟩
      exact ⟨s, List.mem_filter.mpr ⟨by simp; omega, by simpa using h⟩, rfl⟩
  rw [this]
  constructor
  · rintro (⟨h1, h2⟩ | ⟨h1, h2⟩)
    · exact ⟨h1, .inl h2⟩
    · exact ⟨h1, .inr h2⟩
  · rintro ⟨h1, h2 | h2⟩
    · exact .inl ⟨h1, h2⟩
    · exact .inr ⟨h1, h2⟩
theorem path_take (m : Bool) (n s : Nat) : (pathL m n s).take 1 = hostL m := by rw [pathL_eq]; cases m <;> simp [hostL]
theorem path_drop (m : Bool) (n s : Nat) : (pathL m n s).drop 1 = PL m n ++ List.replicate s 47 := by rw [pathL_eq]; cases m <;> simp [hostL]
theorem pre_of (m : Bool) (n s : Nat) (hs : s ≤ 1) : (if ((PL m n ++ List.replicate s 47).drop ((PL m n ++ List.replicate s 47).length - 1)) = [47] then PL m n ++ List.replicate s 47 else PL m n ++ List.replicate s 47 ++ [47]) = PL m n ++ [47] := by
  rcases (le_one hs) with rfl | rfl
  · rw [List.replicate_zero, List.append_nil, if_neg]
    intro q
    apply path_last m n
    have e : PL m n = (PL m n).take ((PL m n).length - 1) ++ [47] := by
      conv => lhs; rw [← List.take_append_drop ((PL m n).length - 1) (PL m n), q]
    rw [pathL_eq, List.replicate_zero, List.append_nil, e, List.getLast?_append, List.getLast?_append]; rfl
  · rw [show List.replicate 1 47 = [47] from rfl, if_pos]
    rw [List.length_append]
    show (PL m n ++ [47]).drop (PL m n).length = [47]
    rw [List.drop_left]
theorem host_inj {m m' : Bool} : hostL m = hostL m' ↔ m = m' := by cases m <;> cases m' <;> simp [hostL]
theorem cover (m m' : Bool) (a s b t : Nat) (hs : s ≤ 1) (ht : t ≤ 1) :
    subB ((pathL m a s).take 1) ((pathL m a s).drop 1) ((pathL m' b t).take 1) ((pathL m' b t).drop 1) = decide (codeN m a s ∈ wayL m' b t) := by
  rw [path_take, path_take, path_drop, path_drop]
  unfold subB
  rw [pre_of m a s hs, ← Bool.decide_or, ← Bool.decide_and]
  apply decide_eq_decide.mpr
  rw [mem_wayL m m' a s b t hs ht, host_inj]
  constructor
  · rintro ⟨rfl, h⟩
    refine ⟨rfl, ?_⟩
    rcases h with h | h
    · have e : pathL m a s = pathL m b t := by rw [pathL_eq, pathL_eq, List.append_assoc, List.append_assoc, h]
      have e2 := congrArg decP e
      rw [decP_path m a s hs, decP_path m b t ht] at e2
      obtain ⟨_, h2, h3⟩ := (codeN_inj hs ht).mp e2
      exact .inl ⟨h2, by omega⟩
    · rcases (le_one ht) with rfl | rfl
      · rw [List.replicate_zero, List.append_nil] at h
        exact .inr h
      · rw [show List.replicate 1 47 = [47] from rfl, cov1_iff] at h
        rcases h with h | h
        · exact .inl ⟨h, hs⟩
        · exact .inr h
  · rintro ⟨rfl, h⟩
    refine ⟨rfl, ?_⟩
    rcases h with ⟨rfl, h⟩ | h
    · rcases (by omega : s = t ∨ (s = 0 ∧ t = 1)) with rfl | ⟨rfl, rfl⟩
      · exact .inl rfl
      · exact .inr List.prefix_rfl
    · exact .inr (h.trans (List.prefix_append _ _))
noncomputable def clen (c : Nat) : Nat := (pathOf (c : Int)).length
theorem clen_code (m : Bool) (n s : Nat) (hs : s ≤ 1) : clen (codeN m n s) = 1 + (PL m n).length + s := by
  unfold clen
  rw [pathOf_code m n s hs, pathL_eq]; cases m <;> simp [hostL] <;> omega
theorem wayUp_sorted (m : Bool) : ∀ n, (wayUp m (figs n).length n).Pairwise (fun x y => clen y < clen x) ∧ ∀ c ∈ wayUp m (figs n).length n, clen c < 1 + (PL m n).length := by
  intro n
  induction n using Nat.strongRecOn with
  | ind n ih =>
    by_cases h : n = 0
    · subst h
      rw [figs_zero, wayUp]; simp
    · obtain ⟨i1, i2⟩ := ih _ (cut_lt m n h)
      obtain ⟨ch, e, _, hne⟩ := PL_up m n h
      have hl : (PL m (n / 16 ^ cutOf m n)).length + 2 ≤ (PL m n).length := by
        have := congrArg List.length e
        rw [List.length_append, List.length_cons] at this
        have h3 := List.length_pos_iff.mpr hne
        omega
      rw [wayUp_pos m n h]
      have c1 := clen_code m (n / 16 ^ cutOf m n) 1 (by omega)
      have c0 := clen_code m (n / 16 ^ cutOf m n) 0 (by omega)
      constructor
      · rw [List.cons_append, List.cons_append, List.nil_append, List.pairwise_cons, List.pairwise_cons]
        refine ⟨fun c hc => ?_, fun c hc => ?_, i1⟩
        · rcases List.mem_cons.mp hc with rfl | hc
          · omega
          · have := i2 c hc; omega
        · have := i2 c hc; omega
      · intro c hc
        rw [List.cons_append, List.cons_append, List.nil_append] at hc
        rcases List.mem_cons.mp hc with rfl | hc
        · omega
        rcases List.mem_cons.mp hc with rfl | hc
        · omega
        · have := i2 c hc; omega
theorem wayL_sorted (m : Bool) (n t : Nat) (ht : t ≤ 1) : (wayL m n t).Pairwise (fun x y => clen y < clen x) := by
  obtain ⟨i1, i2⟩ := wayUp_sorted m n
  have c1 := clen_code m n 1 (by omega)
  have c0 := clen_code m n 0 (by omega)
  unfold wayL
  rcases (le_one ht) with rfl | rfl
  · show (codeN m n 0 :: wayUp m (figs n).length n).Pairwise _
    rw [List.pairwise_cons]
    exact ⟨fun c hc => by have := i2 c hc; omega, i1⟩
  · show (codeN m n 1 :: codeN m n 0 :: wayUp m (figs n).length n).Pairwise _
    rw [List.pairwise_cons, List.pairwise_cons]
    refine ⟨fun c hc => ?_, fun c hc => by have := i2 c hc; omega, i1⟩
    rcases List.mem_cons.mp hc with rfl | hc
    · omega
    · have := i2 c hc; omega
theorem inj_of_sorted {α : Type} (f : α → Nat) : ∀ l : List α, l.Pairwise (fun x y => f y < f x) → ∀ x ∈ l, ∀ y ∈ l, f x = f y → x = y
  | [], _, _, hx, _, _, _ => by cases hx
  | a :: r, h, x, hx, y, hy, e => by
    rw [List.pairwise_cons] at h
    rcases List.mem_cons.mp hx with hx | hx <;> rcases List.mem_cons.mp hy with hy | hy
    · rw [hx, hy]
    · have := h.1 y hy; rw [hx] at e; omega
    · have := h.1 x hx; rw [hy] at e; omega
    · exact inj_of_sorted f r h.2 x hx y hy e
/-- the places of the table on the way up, the longest first -/
noncomputable def dueL (ks : List Int) (m : Bool) (n t : Nat) : List Str := ((wayL m n t).map fun c => ((c : Nat) : Int)).filterMap fun c => if c ∈ ks then some (S (pathOf c)) else none
/-- the places of the table that cover -/
noncomputable def foundL (ks : List Int) (m : Bool) (n t : Nat) : List Str := ks.filterMap fun c => if c.toNat ∈ wayL m n t then some (S (pathOf c)) else none
theorem sort_law (ks : List Int) (hk : ∀ c ∈ ks, ∃ m n s, s ≤ 1 ∧ c = (codeN m n s : Nat)) (hn : ks.Nodup) (m : Bool) (n t : Nat) (ht : t ≤ 1) (fs : List Str) (hp : fs.Perm (foundL ks m n t))
    (hs : fs.Pairwise (fun x y => y.length ≤ x.length)) : fs = dueL ks m n t := by
  have w := wayL_sorted m n t ht
  have md : ∀ x, x ∈ dueL ks m n t ↔ ∃ c ∈ wayL m n t, ((c : Nat) : Int) ∈ ks ∧ x = S (pathOf (c : Int)) := by
    intro x
    unfold dueL
    rw [List.mem_filterMap]
    constructor
    · rintro ⟨z, hz, e⟩
      obtain ⟨c, hc, rfl⟩ := List.mem_map.mp hz
      split at e
      · rename_i q; exact ⟨c, hc, q, (Option.some.inj e).symm⟩
      · cases e
    · rintro ⟨c, hc, q, rfl⟩
      exact ⟨_, List.mem_map_of_mem hc, by rw [if_pos q]⟩
  have mf : ∀ x, x ∈ foundL ks m n t ↔ ∃ c ∈ wayL m n t, ((c : Nat) : Int) ∈ ks ∧ x = S (pathOf (c : Int)) := by
    intro x
    unfold foundL
    rw [List.mem_filterMap]
    constructor
    · rintro ⟨c, hc, e⟩
      split at e
      · rename_i q
        obtain ⟨m', n', s', _, rfl⟩ := hk c hc
        exact ⟨_, q, hc, (Option.some.inj e).symm⟩
      · cases e
    · rintro ⟨c, hc, q, rfl⟩
      exact ⟨_, q, by rw [if_pos (by simpa using hc)]⟩
  have sd : (dueL ks m n t).Pairwise (fun x y => y.length < x.length) := by
    unfold dueL
    refine List.Pairwise.filterMap (R := fun x y : Int => (pathOf y).length < (pathOf x).length) _ ?_ (List.Pairwise.map _ (fun _ _ q => q) w)
    intro a b q x hx y hy
    split at hx
    · split at hy
      · rw [← Option.some.inj hx, ← Option.some.inj hy, S_length, S_length]; exact q
      · cases hy
    · cases hx
  refine List.Perm.eq_of_pairwise (le := fun x y => y.length ≤ x.length) ?_ hs (sd.imp fun q => Nat.le_of_lt q) ?_
  · intro x y hx hy h1 h2
    obtain ⟨c, hc, _, rfl⟩ := (mf x).mp (hp.mem_iff.mp hx)
    obtain ⟨d, hd, _, rfl⟩ := (md y).mp hy
    rw [S_length, S_length] at h1 h2
    rw [inj_of_sorted clen _ w c hc d hd (by unfold clen; omega)]
  · refine hp.trans ((List.perm_ext_iff_of_nodup ?_ ?_).mpr fun x => by rw [mf, md])
    · unfold foundL
      refine List.Pairwise.filterMap (R := fun x y : Int => x ∈ ks ∧ y ∈ ks ∧ x ≠ y) _ ?_ ?_
      · rintro a b ⟨ha, hb, q⟩ x hx y hy e
        split at hx
        · split at hy
          · refine q (pathOf_inj (hk a ha) (hk b hb) ?_)
            rw [← Option.some.inj hx, ← Option.some.inj hy] at e
            exact S_inj e
          · cases hy
        · cases hx
      · exact List.Pairwise.imp_of_mem (fun {a b} ha hb q => ⟨ha, hb, q⟩) hn
    · exact sd.imp fun {a b} q e => by rw [e] at q; exact Nat.lt_irrefl _ q
end Mine
namespace Mine
theorem fold_rows (f : Row → List Nat) : ∀ (rs all : List Row) (d : List (Int × List Nat)), (∀ r ∈ rs, r ∈ all) → (∀ e ∈ d, ∃ r ∈ all, e.1 = rowCode r) → ∀ e ∈ rs.foldl (fun d r => put d (rowCode r) (f r)) d, ∃ r ∈ all, e.1 = rowCode r
  | [], _, _, _, hd => hd
  | r :: rs, all, d, hr, hd => by
    rw [List.foldl_cons]
    refine fold_rows f rs all _ (fun q hq => hr q (.tail _ hq)) ?_
    intro e he
    rcases put_keys he with q | ⟨e', he', q⟩
    · exact ⟨r, hr r (.head _), q⟩
    · rw [← q]; exact hd e' he'
theorem words_rows (rs : List Row) : ∀ e ∈ wordsL rs, ∃ r ∈ rs, e.1 = rowCode r := fold_rows (·.word) rs rs [] (fun _ h => h) (fun _ he => nomatch he)
theorem put_fun {κ β γ : Type} [DecidableEq κ] (g : κ → γ) (es : List (κ × β)) (k : κ) (b : β) : put (es.map fun e => (e.1, g e.1)) k (g k) = (put es k b).map fun e => (e.1, g e.1) := by
  have hany : ((es.map fun e => (e.1, g e.1)).any fun e => decide (e.1 = k)) = es.any fun e => decide (e.1 = k) := by
    rw [List.any_map]; rfl
  unfold put
  rw [hany]
  split
  · rw [List.map_map, List.map_map]
    apply List.map_congr_left
    intro e _
    simp only [Function.comp]
    by_cases q : e.1 = k
    · simp [q]
    · simp [q]
  · simp
theorem paths_fold : ∀ (rs : List Row) (d : List (Int × List Nat)), (∀ r ∈ rs, r.slash ≤ 1) →
    rs.foldl (fun d r => put d (rowCode r) (rowPath r)) (d.map fun e => (e.1, pathOf e.1)) = (rs.foldl (fun d r => put d (rowCode r) r.word) d).map fun e => (e.1, pathOf e.1)
  | [], _, _ => rfl
  | r :: rs, d, h => by
    have hs := h r (.head _)
    have e : rowPath r = pathOf (rowCode r) := (pathOf_code r.m r.here r.slash hs).symm
    rw [List.foldl_cons, List.foldl_cons, e, put_fun pathOf d (rowCode r) r.word]
    exact paths_fold rs _ fun q hq => h q (.tail _ hq)
theorem paths_law (rs : List Row) (h : ∀ r ∈ rs, r.slash ≤ 1) : pathsL rs = (wordsL rs).map fun e => (e.1, pathOf e.1) := paths_fold rs [] h
/-- the codes of the table, in order -/
noncomputable def keysL (rs : List Row) : List Int := (wordsL rs).map (·.1)
theorem getK_paths (rs : List Row) (h : ∀ r ∈ rs, r.slash ≤ 1) (c : Int) : getK (pathsL rs) c = if c ∈ keysL rs then some (pathOf c) else none := by
  rw [paths_law rs h]
  unfold getK keysL
  rw [List.find?_map]
  induction wordsL rs with
  | nil => simp
  | cons e r ih =>
    rw [List.find?_cons]
    by_cases q : e.1 = c
    · simp [q]
    · have q' : ¬ c = e.1 := fun z => q z.symm
      simp only [Function.comp, decide_eq_false q, List.map_cons, List.mem_cons, q', false_or] at ih ⊢
      exact ih
theorem due_eq (rs : List Row) (h : ∀ r ∈ rs, r.slash ≤ 1) (m : Bool) (n t : Nat) : (((wayL m n t).map fun c => ((c : Nat) : Int)).filterMap fun c => (getK (pathsL rs) c).map S) = dueL (keysL rs) m n t := by
  unfold dueL
  congr 1
  funext c
  rw [getK_paths rs h]
  split <;> rfl
theorem keys_of_table (rs : List Row) (h : ∀ r ∈ rs, r.slash ≤ 1) : (keqv (psL rs)).map (·.1) = (keysL rs).map fun c => S (pathOf c) := by
  rw [keqv_law rs h, List.map_map]
  unfold keysL
  rw [List.map_map]; rfl
theorem keys_codes (rs : List Row) (h : ∀ r ∈ rs, r.slash ≤ 1) : ∀ c ∈ keysL rs, ∃ m n s, s ≤ 1 ∧ c = (codeN m n s : Nat) := by
  intro c hc
  obtain ⟨e, he, rfl⟩ := List.mem_map.mp hc
  exact words_codes rs h e he
theorem found_eq (rs : List Row) (h : ∀ r ∈ rs, r.slash ≤ 1) (m : Bool) (n t : Nat) (ht : t ≤ 1) : ((keqv (psL rs)).map (·.1)).filter (fun k => subB (k.cps.toList.take 1) (k.cps.toList.drop 1) ((pathL m n t).take 1) ((pathL m n t).drop 1)) = foundL (keysL rs) m n t := by
  rw [keys_of_table rs h]
  unfold foundL
  have key : ∀ ks : List Int, (∀ c ∈ ks, ∃ m n s, s ≤ 1 ∧ c = (codeN m n s : Nat)) →
      (ks.map fun c => S (pathOf c)).filter (fun k => subB (k.cps.toList.take 1) (k.cps.toList.drop 1) ((pathL m n t).take 1) ((pathL m n t).drop 1)) = ks.filterMap fun c => if c.toNat ∈ wayL m n t then some (S (pathOf c)) else none := by
    intro ks
    induction ks with
    | nil => intro _; rfl
    | cons c r ih =>
      intro hk
      have ih := ih fun d hd => hk d (.tail _ hd)
      obtain ⟨m', n', s', hs', rfl⟩ := hk c (.head _)
      have e := pathOf_code m' n' s' hs'
      have cv := cover m' m n' s' n t hs' ht
      rw [List.map_cons, List.filter_cons, List.filterMap_cons, ih, e]
      have e2 : subB ((S (pathL m' n' s')).cps.toList.take 1) ((S (pathL m' n' s')).cps.toList.drop 1) ((pathL m n t).take 1) ((pathL m n t).drop 1) = decide (codeN m' n' s' ∈ wayL m n t) := cv
      rw [e2, Int.toNat_natCast]
      by_cases q : codeN m' n' s' ∈ wayL m n t
      · simp [q]
      · simp [q]
  exact key _ (keys_codes rs h)
theorem keys_rows (rs : List Row) : ∀ c ∈ keysL rs, ∃ r ∈ rs, c = rowCode r := by
  intro c hc
  obtain ⟨e, he, rfl⟩ := List.mem_map.mp hc
  exact words_rows rs e he
theorem keys_len (rs : List Row) : (keysL rs).length ≤ rs.length := by
  unfold keysL
  rw [List.length_map]; exact wordsL_len rs
/-- the places of the table are short and plain -/
theorem key_plain (rs : List Row) (h : ∀ r ∈ rs, okRow r) : ∀ c ∈ keysL rs, (pathOf c).length ≤ 1000 ∧ ∀ x ∈ pathOf c, x < 128 := by
  intro c hc
  obtain ⟨r, hr, rfl⟩ := keys_rows rs c hc
  obtain ⟨h1, h2, _⟩ := h r hr
  have e : pathOf (rowCode r) = pathL r.m r.here r.slash := pathOf_code r.m r.here r.slash h2
  rw [e]
  refine ⟨pathL_len _ _ _ h2 h1, fun x hx => ?_⟩
  have := pathL_chars _ _ _ x hx
  omega
theorem table_plain (rs : List Row) (h : ∀ r ∈ rs, okRow r) : ∀ k ∈ (keqv (psL rs)).map (·.1), k.length ≤ 1000 ∧ ∀ c ∈ k.cps.toList, c < 128 := by
  intro k hk
  rw [keys_of_table rs fun r hr => (h r hr).2.1] at hk
  obtain ⟨c, hc, rfl⟩ := List.mem_map.mp hk
  obtain ⟨h1, h2⟩ := key_plain rs h c hc
  exact ⟨by rw [S_length]; exact h1, fun x hx => h2 x (by simpa using hx)⟩
end Mine
namespace Mine
theorem put_vals {κ β : Type} [DecidableEq κ] {es : List (κ × β)} {k : κ} {b : β} {e : κ × β} (h : e ∈ put es k b) : e.2 = b ∨ ∃ e' ∈ es, e'.2 = e.2 := by
  unfold put at h
  split at h
  · obtain ⟨e', he', rfl⟩ := List.mem_map.mp h
    split
    · exact .inl rfl
    · exact .inr ⟨e', he', rfl⟩
  · rcases List.mem_append.mp h with h | h
    · exact .inr ⟨e, h, rfl⟩
    · rw [List.mem_singleton.mp h]; exact .inl rfl
theorem fold_vals : ∀ (rs all : List Row) (d : List (Int × List Nat)), (∀ r ∈ rs, r ∈ all) → (∀ e ∈ d, ∃ r ∈ all, e.2 = r.word) → ∀ e ∈ rs.foldl (fun d r => put d (rowCode r) r.word) d, ∃ r ∈ all, e.2 = r.word
  | [], _, _, _, hd => hd
  | r :: rs, all, d, hr, hd => by
    rw [List.foldl_cons]
    refine fold_vals rs all _ (fun q hq => hr q (.tail _ hq)) ?_
    intro e he
    rcases put_vals he with q | ⟨e', he', q⟩
    · exact ⟨r, hr r (.head _), q⟩
    · rw [← q]; exact hd e' he'
theorem words_vals (rs : List Row) : ∀ e ∈ wordsL rs, ∃ r ∈ rs, e.2 = r.word := fold_vals rs rs [] (fun _ h => h) (fun _ he => nomatch he)
theorem word_chars : ∀ i < 9, ∀ j < 9, ∀ c ∈ pieceL i ++ pieceL j, c < 128 := by decide +kernel
theorem word_plain (rs : List Row) (h : ∀ r ∈ rs, okRow r) : ∀ e ∈ wordsL rs, ∀ c ∈ e.2, c < 128 := by
  intro e he c hc
  obtain ⟨r, hr, q⟩ := words_vals rs e he
  obtain ⟨_, _, i, j, hi, hj, hw⟩ := h r hr
  rw [q, hw] at hc
  exact word_chars i hi j hj c hc
theorem getK_words {es : List (Int × List Nat)} (hn : (es.map (·.1)).Nodup) : ∀ e ∈ es, getK es e.1 = some e.2 := by
  induction es with
  | nil => intro e he; cases he
  | cons a r ih =>
    rw [List.map_cons, List.nodup_cons] at hn
    intro e he
    unfold getK at *
    rcases List.mem_cons.mp he with rfl | he
    · simp
    · have hne : ¬ a.1 = e.1 := fun q => hn.1 (by rw [q]; exact List.mem_map_of_mem he)
      rw [List.find?_cons, decide_eq_false hne]
      exact ih hn.2 e he
/-- a pair of texts -/
def isPair2 (e : Str × List Nat) (o : Obj) : Prop := ∃ t u, o = pairObj (.str e.1 t) (.str (S e.2) u)
noncomputable def pairD (e : Str × List Nat) : PyData := .tuple [.str e.1, .str (S e.2)]
theorem reads_pair2 {h : Heap} {a : Str × List Nat} {p : Addr × Obj} (r : isPair2 a p.2) (ho : h.get? p.1 = some p.2) : Reads h (.ref p.1) (pairD a) [] := by
  obtain ⟨t, u, e⟩ := r
  refine Reads.tuple (as := []) (ho.trans (congrArg some e)) rfl rfl ?_
  have := ReadsAll.cons (Reads.str (h := h) a.1 t) (ReadsAll.cons (Reads.str (h := h) (S a.2) u) ReadsAll.nil)
  simpa using this
theorem readsAll_pairs {h : Heap} {es : List (Str × List Nat)} {tups : List (Addr × Obj)} (r : TReps isPair2 es tups) (hg : ∀ p ∈ tups, h.get? p.1 = some p.2) : ReadsAll h (tups.map fun p => Value.ref p.1) (es.map pairD) [] := by
  induction r with
  | nil => exact .nil
  | cons r1 _ ih =>
    have := ReadsAll.cons (reads_pair2 r1 (hg _ (.head _))) (ih fun q hq => hg q (.tail _ hq))
    simpa using this
theorem treps_table {w : World} {R : List Nat → Value → Prop} (hR : ∀ b v, R b v → isStrR (S b) v) {es : List (Str × List Nat)} {kt : List (Str × Value)} (d : DReps R es kt) : ∀ {tups : List (Addr × Obj)}, TReps (isPairR (PySem.strKind prog w)) kt tups → TReps isPair2 es tups := by
  induction d with
  | nil => intro tups h; cases h; exact .nil
  | @cons x b v es kvs hr _ ih =>
    intro tups h
    cases h with
    | @cons _ p _ ps h1 h2 =>
      obtain ⟨key, hk, e⟩ := h1
      refine .cons ?_ (ih h2)
      obtain ⟨u, hu⟩ := hR _ _ hr
      have : ∃ t, key = .str x t := by
        cases key <;> simp [PySem.strKind, Value.isStrOf] at hk
        rename_i a t
        exact ⟨t, by rw [hk]⟩
      obtain ⟨t, rfl⟩ := this
      exact ⟨t, u, by rw [e]; dsimp only; rw [hu]⟩
theorem TReps.carry {α β γ : Type} {R : α → Obj → Prop} {R' : β → Obj → Prop} (f : γ → α) (g : γ → β) : ∀ {as : List γ} {ps : List (Addr × Obj)}, TReps R (as.map f) ps → (∀ a ∈ as, ∀ o, R (f a) o → R' (g a) o) → TReps R' (as.map g) ps
  | [], _, .nil, _ => .nil
  | _ :: _, _, .cons h r, H => .cons (H _ (.head _) _ h) (TReps.carry f g r fun a ha o ho => H a (.tail _ ha) o ho)
end Mine
namespace Mine
theorem resetG0 : True := by
  w_top off
  trivial
/-- the parts of the law's body, read off the heap that the head has written -/
structure Parts where
  s0 : Stmt
  s1 : Stmt
  s2 : Stmt
  s3 : Stmt
  s4 : Stmt
  t5 : Expr
  i5 : Expr
  s50 : Stmt
  t51 : Expr
  i51 : Expr
  a1 : Stmt
  a2 : Stmt
  a3 : Stmt
  a4 : Stmt
  lps : Arguments
  lbody : Expr
  lscope : Scope
  lpos : Pos
  o51 : List Stmt
  p51 : Pos
  o5 : List Stmt
  p5 : Pos
  s6 : Stmt
  scope : Scope
  qual : Str
  cdv : Value
noncomputable def mkParts {w : World} {oc : Value} {od : Option Addr} {osl : Array (Option Value)} {name qual : Str} {params : Arguments} {scope : Scope} {dV kV doc pm cdv ct : Value} {an : Option Addr} {s0 s1 s2 s3 s4 s50 s6 a1 a2 a3 : Stmt} {lps : Arguments} {lbody sf : Expr} {sargs cmps : List Expr} {lscope : Scope} {kwn : Option Str} {lpos kwp cpos ppos ipos : Pos} {ops : List CmpOp} {ib ie : List Stmt} {t5 i5 t51 i51 : Expr} {o51 o5 : List Stmt} {p51 p5 : Pos}
    (_ : (hd.heap_39 w.params).lookup 131 = some ⟨oc, od, .func (fnOf name qual params [s0, s1, s2, s3, s4, .For t5 i5 [s50, .For t51 i51 [a1, a2, a3, (.If (.Compare (.Call sf sargs [⟨kwn, .Lambda lps lbody lscope lpos, kwp⟩] cpos) ops cmps ppos) ib ie ipos)] o51 p51] o5 p5, s6] scope dV kV doc pm an cdv ct), osl⟩) : Parts :=
  ⟨s0, s1, s2, s3, s4, t5, i5, s50, t51, i51, a1, a2, a3, (.If (.Compare (.Call sf sargs [⟨kwn, .Lambda lps lbody lscope lpos, kwp⟩] cpos) ops cmps ppos) ib ie ipos), lps, lbody, lscope, lpos, o51, p51, o5, p5, s6, scope, qual, cdv⟩
noncomputable def lawParts (w : World) : Parts := mkParts (w := w) (by k_is)
/-- the name of the law's lambda -/
noncomputable abbrev lamQual : Str := Str.ofString "law.<locals>.<lambda>"
noncomputable abbrev lawEnv (w : World) (L fa : Addr) : Env := envOfC (lawParts w).qual (lawParts w).scope L fa (.ref 130)
end Mine
namespace Mine
theorem resetG1 : True := by
  w_top off
  trivial
theorem calls_new {w : World} {d u : Nat} {C f : Addr} {h : Heap} {R : Heap → Value → Prop}
    {name qual : Str} {params : Arguments} {body : List Stmt} {scope : Scope} {dV kV doc pm cdv ct oc : Value} {an od : Option Addr} {osl : Array (Option Value)} {binds : List (Str × Value)}
    (hm : makesIn (hd.heap_39 w.params) C = true) (hi : findIn (hd.heap_39 w.params) (.ref C) "__init__" = some (some (.ref f))) (hf : isFn (hd.heap_39 w.params) (.ref f) = true)
    (ho : (hd.heap_39 w.params).lookup f = some ⟨oc, od, .func (fnOf name qual params body scope dV kV doc pm an cdv ct), osl⟩) (hcd : codeIn (hd.heap_39 w.params) cdv qual = true)
    (hbind : ∀ s, BindsTo s (fnOf name qual params body scope dV kV doc pm an cdv ct) ⟨[.ref (h.objs.size + 1)], []⟩ binds) (hloc : ∀ y ∈ binds, scope.names.lookup y.1 = some .local)
    (hb : ∀ (dp un : Nat) (fr : Option (List Env)) (gd : Option (List Code)) (s : Shared) (L : Addr), dp + d < recursionLimit → un + u < cLine → Base w h → Fr h L s.heap (fun y => binds.reverse.lookup y) →
      News h L s.heap [(h.objs.size + 1, instObj C h.objs.size), (h.objs.size, W.dictOf [] 0)] →
      wpAny (model prog w) (At dp un fr gd) (execs body (envOf qual scope L f cdv)) (fun fl s' => (match fl with | .ret v => v | _ => .none) = .none ∧ Fin h s R (.ref (h.objs.size + 1)) s') (fun _ _ => False) s)
    (hco : scope.isCoroutine = false) (hgen : scope.isGenerator = false) (hk : scope.kind = .function)
    (hcell : ∀ x ∈ scope.names, x.2 ≠ .cell) : Calls w (d + 5) (u + 20) C [] h R := by
  intro A s Q E hs hh hd' hu hB hQ
  subst hs
  have hB0 := hB
  obtain ⟨X, loose, mean, mg, mb, T⟩ := hB
  refine wpAny_call ?_
  obtain ⟨hp, g, dr, t, os⟩ := s
  refine make_core (makes_of X hm) (looks_findIn X hi) (fun self => bind_fn X self (beq_iff_eq.mp hf)) (.inl rfl) ?_
  have k : ∀ b o, hp.get? b = some o → ((hp.push emptyDict).push (instObj C hp.objs.size)).get? b = some o := fun b o e => Heap.get?_push_of_some _ (Heap.get?_push_of_some _ e)
  have N0 : ∀ h₁ L, (∀ b o, ((hp.push emptyDict).push (instObj C hp.objs.size)).get? b = some o → h₁.get? b = some o) → hp.objs.size + 1 < L → News hp L h₁ [(hp.objs.size + 1, instObj C hp.objs.size), (hp.objs.size, W.dictOf [] 0)] := by
    intro h₁ L hk hL p hp'
    rcases List.mem_cons.mp hp' with rfl | hp'
    · exact ⟨hk _ _ (by heap_get), Nat.ne_of_lt hL, Heap.get?_none_of_le (Nat.le_succ _)⟩
    · rw [List.mem_singleton.mp hp']
      exact ⟨hk _ _ (by heap_get), Nat.ne_of_lt (Nat.lt_of_succ_lt hL), Heap.get?_none_of_le (Nat.le_refl _)⟩
  generalize hA : A.under (.builtin "type.__call__" ⟨[.ref C], []⟩) = A2
  have hA2 : A2.handled = none := by rw [← hA]; exact hh
  have hdep : A2.depth = A.depth + 1 := by rw [← hA]; rfl
  have hun : A2.units = A.units + 1 := by rw [← hA]; rfl
  refine codeAny_call_def (fd := fnOf name qual params body scope dV kV doc pm an cdv ct) (body := body) (binds := binds) (by omega) (k _ _ (X _ _ ho)) rfl (T.nolimit.keeps k) (codeRec_of (Frag.In.keeps X k) hcd) rfl (hbind _) hcell hloc (fun h₁ hns hk₁ => ?_) hco hgen hk
  have e := at_of (A2.deeper (envOf qual scope ((hp.push emptyDict).push (instObj C hp.objs.size)).objs.size f cdv)) hA2
  have hsz : ((hp.push emptyDict).push (instObj C hp.objs.size)).objs.size = hp.objs.size + 2 := by rw [Heap.size_push, Heap.size_push]
  have q := hb (A2.deeper (envOf qual scope ((hp.push emptyDict).push (instObj C hp.objs.size)).objs.size f cdv)).depth (A2.deeper (envOf qual scope ((hp.push emptyDict).push (instObj C hp.objs.size)).objs.size f cdv)).units (A2.deeper (envOf qual scope ((hp.push emptyDict).push (instObj C hp.objs.size)).objs.size f cdv)).frames (A2.deeper (envOf qual scope ((hp.push emptyDict).push (instObj C hp.objs.size)).objs.size f cdv)).guards
    ⟨h₁, g, dr, t + binds.length, os⟩ ((hp.push emptyDict).push (instObj C hp.objs.size)).objs.size (by rw [depth_deeper]; omega) (by rw [units_deeper]; omega) hB0 ⟨hns, fun b o e => hk₁ b o (k b o e), by show hp.objs.size ≤ _; rw [hsz]; omega⟩ (N0 _ _ hk₁ (by rw [hsz]; omega))
  rw [← e] at q
  refine wpAny_mono q (fun fl s' x => ?_) (fun _ _ x => x.elim)
  obtain ⟨e1, h', tk', rfl, hk', r⟩ := x
  exact ⟨e1, hQ _ _ _ hk' r⟩
/-- the attributes of a manager -/
noncomputable abbrev mgrDict (w : World) (t : Tok) (pw : Addr) : Obj := W.dictOf [⟨PyData.keyHash w.params (Str.ofString "passwd"), .str (Str.ofString "passwd") t, .ref pw⟩] 1
theorem new_mgr {w : World} {h : Heap} : Calls w 5 70 74 [] h (fun h' v => ∃ (x dx pw : Addr) (t : Tok), v = .ref x ∧ h'.get? x = some (instObj 74 dx) ∧ h'.get? dx = some (mgrDict w t pw) ∧ h.get? x = none ∧ h.get? dx = none ∧ dx < x) := by
  refine' calls_new (d := 0) (u := 50) (binds := [(Str.ofString "self", .ref (h.objs.size + 1))]) ?k1 ?k2 ?k3 ?k6 ?k7 ?kb ?kB ?_ ?c2 ?c3 ?c4 ?c5
  case k1 => k_is
  case k2 => k_is
  case k3 => k_is
  case k6 => k_is
  case k7 => k_is
  case kb => exact fun _ => BindsTo.of_eq rfl
  case kB => exact locs rfl
  case c2 => exact rfl
  case c3 => exact rfl
  case c4 => exact rfl
  case c5 => decide
  intro dp un fr gd s L hd hu hB F N
  obtain ⟨X, loose, mean, mg, mb, T⟩ := hB
  k_steps
  rename Fr _ _ _ _ => F9
  rename News _ _ _ _ => N9
  have h1 := N9 _ (.tail _ (.head _))
  have h2 := N9 _ (.tail _ (.tail _ (.head _)))
  exact fin_of F9 ⟨_, _, _, _, rfl, h1.1, h2.1, h1.2.2, h2.2.2, Nat.lt_succ_self _⟩
end Mine
namespace Mine
theorem resetG2 : True := by
  w_top off
  trivial
noncomputable abbrev mgrDict2 (w : World) (t : Tok) (pw : Addr) : Obj := W.dictOf [⟨PyData.keyHash w.params (Str.ofString "passwd"), .str (Str.ofString "passwd") t, .ref pw⟩] 1
local macro_rules | `(tactic| walk_at "exec Assign cons ListComp") => `(tactic| k_dflt (refine comp_openA ?_))
local macro_rules | `(tactic| walk_at "call ref") => `(tactic| refine stopHere ?_)
theorem str_is_of {w : World} {x : Str} {v : Value} (h : (PySem.strKind prog w).is x v = true) : ∃ t, v = .str x t := by
  cases v <;> simp [PySem.strKind, Value.isStrOf] at h
  rename_i a t
  exact ⟨t, by rw [h]⟩
/-- does the known place cover the asked one -/
noncomputable def covers (asked : List Nat) (k : Str) : Bool := subB (k.cps.toList.take 1) (k.cps.toList.drop 1) (asked.take 1) (asked.drop 1)
theorem found_ok {w : World} {h : Heap} {L fa x dx td : Addr} {m : Str → Option Value} {rest : List (Addr × Obj)} {dp un : Nat} {fr : Option (List Env)} {gd : Option (List Code)} {s : Shared} {oA oM ot : Obj} {t ta : Tok} {pw : Addr} {asked : List Nat} {kt : List (Str × Value)} {Q : Flow → Shared → Prop}
    (hB : Base w h) (hd : dp + 20 < recursionLimit) (hu : un + 1000 < cLine) (F : Fr h L s.heap m) (N : News h L s.heap ((x, instObj 74 dx) :: (dx, mgrDict2 w t pw) :: (td, ot) :: (L + 1 + 1 + 1 + 1, oA) :: (L + 1 + 1 + 1, oM) :: rest))
    (dt : DObj (PySem.strKind prog w) ot kt) (std : (td == sysModules) = false) (hkt : kt.length ≤ 1000) (eA : oA.data = .cell (some (.str (S asked) ta))) (eM : oM.data = .cell (some (.ref x))) (hks : ∀ e ∈ kt, e.1.length ≤ 1000 ∧ ∀ c ∈ e.1.cps.toList, c < 128)
    (ha1 : asked.length ≤ 1000) (ha2 : ∀ c ∈ asked, c < 128) (vt : Vals m [(Str.ofString "table", .ref td)])
    (hQ : ∀ D h' tk ys, Fr h L h' (fun z => if z = Str.ofString "found" then some (.ref D) else m z) → News h L h' ((D, LCg.lst ys) :: (x, instObj 74 dx) :: (dx, mgrDict2 w t pw) :: (td, ot) :: (L + 1 + 1 + 1 + 1, oA) :: (L + 1 + 1 + 1, oM) :: rest) →
      (∀ p ∈ (x, instObj 74 dx) :: (dx, mgrDict2 w t pw) :: (td, ot) :: (L + 1 + 1 + 1 + 1, oA) :: (L + 1 + 1 + 1, oM) :: rest, p.1 < D) → Reps isStrR ((kt.map (·.1)).filter (covers asked)) ys → Q .next { s with heap := h', toks := tk }) :
    wpAny (model prog w) (At dp un fr gd) (exec (lawParts w).a2 (lawEnv w L fa)) Q (fun _ _ => False) s := by
  have hB0 := hB
  obtain ⟨X, loose, mean, mg, mb, T⟩ := hB
  dsimp only [lawEnv, lawParts, mkParts]
  have F0 := F
  replace F := Fr.shows F vt
  k_steps
  obtain ⟨ep, hat⟩ := KdkAt.of dt
  refine iter_dict (knd := PySem.strKind prog w) rfl F0 N [(td, ot)] std (hat.dictAt (N _ (.tail _ (.tail _ (.head _)))).1) (.inr ⟨_, .head _⟩) ?_
  intro I h2 St eI it st F2 N2 lt
  refine comp_blockA it st F2 N2 (fun p hp => Nat.ne_of_lt (lt p hp)) (fun p hp => by rw [List.mem_singleton.mp hp]; exact .tail _ (.tail _ (.head _))) (by simp [sizeLine_eq]; omega) (by decide) rfl rfl rfl rfl rfl (fun k => if covers asked k = true then some k else none) isStrR ?_ ?_
  · intro k v oI C oC D oD m2 h4 tk4 ha hv hC hx F4 N4 n1 n2 n3 l1 l2
    obtain ⟨tv, rfl⟩ := str_is_of hv
    obtain ⟨e0, he0, hek⟩ := List.mem_map.mp ha
    obtain ⟨hk1, hk2⟩ := hks e0 he0
    rw [hek] at hk1 hk2
    obtain ⟨l, rfl⟩ : ∃ l, k = S l := ⟨_, (S_toList k).symm⟩
    replace hk2 : ∀ c ∈ l, c < 128 := hk2
    rw [S_length] at hk1
    refine wpAny_tests_one ?_
    k_steps
    rename Fr _ _ _ _ => F9
    rename News _ _ _ _ => N9
    rw [show Txt.slice (S l) none (some 1) = S (l.take 1) from slice_to l 1, show Txt.slice (S l) (some 1) none = S (l.drop 1) from slice_from l 1,
      show Txt.slice (S asked) none (some 1) = S (asked.take 1) from slice_to asked 1, show Txt.slice (S asked) (some 1) none = S (asked.drop 1) from slice_from asked 1] at N9
    have tb := N9 _ (.tail _ (.head _))
    have ta := N9 _ (.head _)
    refine use (is_suburi ⟨_, tb.1, rfl, _, rfl⟩ ⟨_, ta.1, rfl, _, rfl⟩ (by rw [List.length_drop]; omega) (by rw [List.length_drop]; omega) (fun c hc => hk2 c (List.mem_of_mem_take hc)) (fun c hc => hk2 c (List.mem_of_mem_drop hc)) (fun c hc => ha2 c (List.mem_of_mem_take hc)) (fun c hc => ha2 c (List.mem_of_mem_drop hc))) hB0 F9 N9 (by omega) (by omega) ?_
    clear F9 N9
    rintro v1 h9 tk9 k9 F9 N9 rfl
    replace N9 := newsTl (newsTl N9)
    have hcv : covers asked (S l) = subB (l.take 1) (l.drop 1) (asked.take 1) (asked.drop 1) := rfl
    rw [← hcv]
    cases hc : covers asked (S l) with
    | true =>
      k_steps
      exact CEnd.mk F9 N9 ⟨_, if_pos hc, _, rfl⟩
    | false =>
      k_steps
      exact CEnd.mk F9 N9 (if_neg (by rw [hc]; decide))
  · intro D h4 tk4 ys F4 N4 l4 hR
    refine hQ D h4 tk4 ys F4 N4 l4 ?_
    rw [← List.filterMap_eq_filter]
    exact hR
end Mine
namespace Mine
theorem resetG3 : True := by
  w_top off
  trivial
local macro_rules | `(tactic| walk_at "mine 0") => `(tactic| skip)
local macro_rules | `(tactic| walk_at "exec Assign cons ListComp") => `(tactic| k_dflt (refine comp_openA ?_))
local macro_rules | `(tactic| walk_at "call ref") => `(tactic| refine stopHere ?_)
theorem way_arith {k c a : Nat} (hc : 1 ≤ c) (hk : c ≤ k) (h : a ≤ 2 * (k - c)) : a + 2 ≤ 2 * k := by omega
theorem wayUp_len (m : Bool) : ∀ k n, (wayUp m k n).length ≤ 2 * k := by
  intro k
  induction k using Nat.strongRecOn with
  | ind k ih =>
    intro n
    rw [wayUp]
    by_cases h : k = 0
    · rw [if_pos h]; exact Nat.zero_le _
    · rw [if_neg h]
      obtain ⟨c, hc⟩ : ∃ c, c = (if m = true ∧ k % 2 = 0 then 2 else 1) := ⟨_, rfl⟩
      have h12 : 1 ≤ c ∧ c ≤ k := by
        by_cases q : m = true ∧ k % 2 = 0
        · rw [if_pos q] at hc; obtain ⟨_, q⟩ := q; omega
        · rw [if_neg q] at hc; clear q; omega
      rw [← hc]
      exact way_arith h12.1 h12.2 (ih (k - c) (Nat.sub_lt (Nat.pos_of_ne_zero h) h12.1) (n / 16 ^ c))
theorem wayL_len (m : Bool) (n s : Nat) (hn : n < 16 ^ 40) : (wayL m n s).length ≤ 100 := by
  have h1 := wayUp_len m (figs n).length n
  have h2 := figs_len_le n hn
  have h3 := List.length_filter_le (fun o => decide (o ≤ s)) [1, 0]
  unfold wayL
  simp only [List.length_append, List.length_map, List.length_cons, List.length_nil] at *
  omega
theorem due_ok {w : World} {h : Heap} {L fa pd : Addr} {m : Str → Option Value} {rest : List (Addr × Obj)} {dp un : Nat} {fr : Option (List Env)} {gd : Option (List Code)} {s : Shared} {oP op : Obj} {kp : List (Int × Value)} {ps : List (Int × List Nat)} {Q : Flow → Shared → Prop} {mm : Bool} {n last : Nat} {t1 t2 t3 : Tok}
    (hB : Base w h) (hd : dp + 20 < recursionLimit) (hu : un + 1000 < cLine) (F : Fr h L s.heap m) (N : News h L s.heap ((pd, op) :: (L + 1 + 1, oP) :: rest))
    (dp' : DObj (PySem.intKind prog w) op kp) (spd : (pd == sysModules) = false) (rp : DReps strL ps kp) (eP : oP.data = .cell (some (.ref pd))) (hl : last ≤ 1) (hn : n < 16 ^ 40)
    (vt : Vals m [(Str.ofString "host", .str (S (hostL mm)) t1), (Str.ofString "number", .int n t2), (Str.ofString "last", .int last t3)])
    (hQ : ∀ D h' tk ys, Fr h L h' (fun z => if z = Str.ofString "due" then some (.ref D) else m z) → News h L h' ((D, LCg.lst ys) :: (pd, op) :: (L + 1 + 1, oP) :: rest) →
      (∀ p ∈ (pd, op) :: (L + 1 + 1, oP) :: rest, p.1 < D) → Reps isStrR (((wayL mm n last).map fun c => ((c : Nat) : Int)).filterMap fun c => (getK ps c).map S) ys → Q .next { s with heap := h', toks := tk }) :
    wpAny (model prog w) (At dp un fr gd) (exec (lawParts w).a3 (lawEnv w L fa)) Q (fun _ _ => False) s := by
  have hB0 := hB
  obtain ⟨X, loose, mean, mg, mb, T⟩ := hB
  dsimp only [lawEnv, lawParts, mkParts]
  have F0 := F
  replace F := Fr.shows F vt
  k_steps
  refine use (law_way (mm := mm) (n := n) (slash := last) hl hn) hB0 F0 N (by omega) (by omega) ?_
  rintro v1 h2 tk2 k2 F2 N2 ⟨a, ys, k, rfl, hra, hanew, hrows⟩
  have N3 := News.add F0 N2 hra hanew
  clear F N2
  have hwl := wayL_len mm n last hn
  refine iter_listN rfl F2 N3 (.head _) hrows ?_
  intro I h3 St eI it st F3 N4 lt
  refine comp_blockA it st F3 N4 (fun p hp => Nat.ne_of_lt (lt p hp)) (fun p hp => by rw [List.mem_singleton.mp hp]; exact .head _) (by simp [sizeLine_eq]; omega) (by decide) rfl rfl rfl rfl rfl (fun c => (getK ps c).map S) isStrR ?_ ?_
  · intro c v oI C oC D oD m2 h4 tk4 ha hv hC hx F4 N5 n1 n2 n3 l1 l2
    obtain ⟨tv, rfl⟩ := hv
    refine wpAny_tests_one ?_
    rcases rp.get c with ⟨g1, g2⟩ | ⟨b, u, g1, g2, g3⟩
    · k_steps
      refine kda_in N5 (by k_mem) dp' spd int_is false (by rw [g2]; rfl) ?_
      dsimp only
      k_steps
      exact CEnd.mk F4 N5 (by rw [g1]; rfl)
    · obtain ⟨tb, rfl⟩ := g3
      k_steps
      refine kda_in N5 (by k_mem) dp' spd int_is true (by rw [g2]; rfl) ?_
      dsimp only
      k_steps
      refine item_N N5 (by k_mem) dp' int_is g2 (fun a e => by cases e) ?_
      dsimp only
      k_steps
      exact CEnd.mk F4 N5 ⟨_, by rw [g1]; rfl, tb, rfl⟩
  · intro D h4 tk4 ys4 F4 N6 l4 hR
    exact hQ D h4 tk4 ys4 F4 (fun p hp => N6 p (by
      rcases List.mem_cons.mp hp with rfl | hp
      · exact .head _
      · exact .tail _ (.tail _ hp))) (fun p hp => l4 p (.tail _ hp)) hR
end Mine
namespace Mine
theorem resetG4 : True := by
  w_top off
  trivial
theorem lam_call {w : World} {A : Around} {s : Shared} {f c' : Addr} {name qual : Str} {params : Arguments} {body : Expr} {scope : Scope} {cl : List (Str × Addr)} {pm ctv v : Value} {binds : List (Str × Value)} {Q : Value → Shared → Prop} {E : Value → Shared → Prop}
    (hB : Base w s.heap) (hh : A.handled = none) (hd : A.depth + 10 < recursionLimit) (hu : A.units + 500 < cLine) (ho : s.heap.get? f = some (kla_obj name qual params body scope cl pm c' ctv)) (hcd : s.heap.CodeRec (.ref c') qual)
    (hbind : bindArgs (kla_fn name qual params body scope cl pm (.ref c') ctv) ⟨[v], []⟩ = pure binds) (hloc : ∀ y ∈ binds, scope.names.lookup y.1 = some .local)
    (h : ∀ dp un fr gd h₁ tk, dp + 5 < recursionLimit → un + 400 < cLine → Fr s.heap s.heap.objs.size h₁ (fun y => binds.reverse.lookup y) →
      wpAny (model prog w) (At dp un fr gd) (eval body (envX qual scope s.heap.objs.size f (.ref c') cl)) (fun v s' => Stop (∃ h' tk', s' = { s with heap := h', toks := tk' } ∧ Keeps s.heap h' ∧ Q v { s with heap := h', toks := tk' })) (fun _ _ => False) { s with heap := h₁, toks := tk })
    (hco : scope.isCoroutine = false) (hgen : scope.isGenerator = false) (hk : scope.kind = .function)
    (hcell : ∀ x ∈ scope.names, x.2 ≠ .cell) : wpAny (model prog w) A (call (.ref f) [v]) Q E s := by
  obtain ⟨X, loose, mean, mg, mb, T⟩ := hB
  refine wpAny_call ?_
  refine kla_callFunE (by omega) ho rfl hco hgen rfl hcd ?_
  rw [hbind]
  refine wpAny_pure (wpAny_newFunctionEnv hcell hloc (fun h₁ hns hsb => ⟨T.nolimit.fresh _ hsb, ?_⟩) hk)
  show codeAny _ _ (.expr body (envX qual scope s.heap.objs.size f (.ref c') cl)) _ _
  have hk₁ : ∀ b o, s.heap.get? b = some o → h₁.get? b = some o := fun b o e => hsb.extBut b o (Nat.ne_of_lt (Heap.lt_size e)) (Heap.get?_push_of_some _ e)
  have e := at_of (A.deeper (envX qual scope s.heap.objs.size f (.ref c') cl)) hh
  have q := h (A.deeper (envX qual scope s.heap.objs.size f (.ref c') cl)).depth (A.deeper (envX qual scope s.heap.objs.size f (.ref c') cl)).units (A.deeper (envX qual scope s.heap.objs.size f (.ref c') cl)).frames (A.deeper (envX qual scope s.heap.objs.size f (.ref c') cl)).guards
    h₁ (s.toks + binds.length) (by rw [depth_deeper]; omega) (by rw [units_deeper]; omega) ⟨hns, hk₁, Nat.le_refl _⟩
  rw [← e] at q
  exact kla_codeExpr (wpAny_mono q (fun v s' hl => by obtain ⟨h', tk', rfl, _, q⟩ := hl; exact q) fun _ _ y => y.elim)
theorem lam_len {w : World} {A : Around} {s : Shared} {f c' : Addr} {pm ctv : Value} {x : Str} {t : Tok} {Q : Value → Shared → Prop} {E : Value → Shared → Prop}
    (hB : Base w s.heap) (hh : A.handled = none) (hd : A.depth + 10 < recursionLimit) (hu : A.units + 500 < cLine) (ho : s.heap.get? f = some (kla_obj (Str.ofString "<lambda>") lamQual (lawParts w).lps (lawParts w).lbody (lawParts w).lscope [] pm c' ctv)) (hcd : s.heap.CodeRec (.ref c') lamQual)
    (hx : x.length ≤ 1000) (h : ∀ h' tk t', Keeps s.heap h' → Q (.int (-(x.length : Int)) t') { s with heap := h', toks := tk }) : wpAny (model prog w) A (call (.ref f) [.str x t]) Q E s := by
  refine' lam_call (binds := [(Str.ofString "path", .str x t)]) hB hh hd hu ho hcd ?k1 ?k2 ?_ ?c2 ?c3 ?c4 ?c5
  case k1 => exact rfl
  case k2 => exact locs rfl
  case c2 => exact rfl
  case c3 => exact rfl
  case c4 => exact rfl
  case c5 => (dsimp only [lawParts, mkParts]; decide)
  intro dp un fr gd h₁ tk hd' hu' F
  obtain ⟨X, loose, mean, mg, mb, T⟩ := hB
  dsimp only [lawParts, mkParts]
  have N : News s.heap s.heap.objs.size h₁ [] := News.nil
  generalize hg : s.heap.objs.size = L at *
  k_steps
  exact Stop.mk ⟨_, _, rfl, F.keep, h _ _ _ F.keep⟩
end Mine
namespace Mine
theorem resetG5 : True := by
  w_top off
  trivial
local macro_rules | `(tactic| walk_at "call ref") => `(tactic| refine stopHere ?_)
local macro_rules | `(tactic| walk_at "call builtin:sorted") => `(tactic| refine stopHere ?_)
local macro_rules | `(tactic| walk_at "eval Lambda") => `(tactic| refine stopHere ?_)
local macro_rules | `(tactic| walk_at "compareOp NotEq ref ref") => `(tactic| refine stopHere ?_)
/-- the table of the lambda's code: empty, or told once -/
def TabOk (pos : Pos) (ps : Array Value) (news : List (Addr × Obj)) : Prop :=
  ps = #[] ∨ ∃ c' oc vs t, ps = #[rawInt pos.line, rawInt pos.col, .ref c'] ∧ (c', oc) ∈ news ∧ oc.data = .fields vs ∧ vs[1]? = some (.str lamQual t)
theorem TabOk.mono {pos : Pos} {ps : Array Value} {A B : List (Addr × Obj)} (h : TabOk pos ps A) (s : ∀ p ∈ A, p ∈ B) : TabOk pos ps B := by
  rcases h with e | ⟨c', oc, vs, t, e, hm, r⟩
  · exact .inl e
  · exact .inr ⟨c', oc, vs, t, e, s _ hm, r⟩
theorem str_of_reps {xs : List Str} {ys : List Value} (h : Reps isStrR xs ys) : ∀ {i : Nat} {v : Value}, ys[i]? = some v → ∃ x t, xs[i]? = some x ∧ v = .str x t := by
  intro i v e
  obtain ⟨x, hx, t, rfl⟩ := h.get e
  exact ⟨x, t, hx, rfl⟩
noncomputable def valStr : Value → Str
  | .str x _ => x
  | _ => Str.empty
theorem reps_of_strs : ∀ {ys : List Value}, (∀ v ∈ ys, ∃ x t, v = .str x t) → Reps isStrR (ys.map valStr) ys
  | [], _ => .nil
  | v :: r, h => by
    obtain ⟨x, t, rfl⟩ := h v (.head _)
    exact .cons ⟨t, rfl⟩ (reps_of_strs fun u hu => h u (.tail _ hu))
/-- what sorted by the length, the longest first, hands back -/
theorem sorted_strs {fs : List Str} {vs out : List Value} (h : Reps isStrR fs vs) (k : KskOut false (fs.map fun x => -(x.length : Int)) vs out) :
    ∃ gs, Reps isStrR gs out ∧ gs.Perm fs ∧ gs.Pairwise (fun x y => y.length ≤ x.length) := by
  obtain ⟨ps, hp, rfl, hs⟩ := k
  have rel : ∀ {fs : List Str} {vs : List Value}, Reps isStrR fs vs → ∀ p ∈ (fs.map fun x => -(x.length : Int)).zip vs, ∃ x t, p.2 = .str x t ∧ p.1 = -(x.length : Int) := by
    intro fs vs h
    induction h with
    | nil => intro p hp; simp at hp
    | @cons a v as vs hr _ ih =>
      intro p hp
      rw [List.map_cons, List.zip_cons_cons] at hp
      rcases List.mem_cons.mp hp with rfl | hp
      · obtain ⟨t, rfl⟩ := hr; exact ⟨_, t, rfl, rfl⟩
      · exact ih p hp
  have snd : ∀ {fs : List Str} {vs : List Value}, Reps isStrR fs vs → ((fs.map fun x => -(x.length : Int)).zip vs).map (fun p => valStr p.2) = fs := by
    intro fs vs h
    induction h with
    | nil => rfl
    | @cons a v as vs hr _ ih =>
      obtain ⟨t, rfl⟩ := hr
      rw [List.map_cons, List.zip_cons_cons, List.map_cons, ih]; rfl
  refine ⟨(ps.map Prod.snd).map valStr, reps_of_strs ?_, ?_, ?_⟩
  · intro v hv
    obtain ⟨p, hp', rfl⟩ := List.mem_map.mp hv
    obtain ⟨x, t, e, _⟩ := rel h p (hp.mem_iff.mp hp')
    exact ⟨x, t, e⟩
  · have := hp.map (fun p => valStr p.2)
    rw [snd h] at this
    rw [List.map_map]; exact this
  · rw [List.map_map, List.pairwise_map]
    refine hs.imp_of_mem fun {p q} hp' hq' hr => ?_
    obtain ⟨x, t, e1, e2⟩ := rel h p (hp.mem_iff.mp hp')
    obtain ⟨y, u, e3, e4⟩ := rel h q (hp.mem_iff.mp hq')
    have hr' : p.1 ≤ q.1 := hr
    show (valStr q.2).length ≤ (valStr p.2).length
    rw [e1, e3]
    show y.length ≤ x.length
    omega
theorem sort_ok {w : World} {h : Heap} {L fa fd dd : Addr} {m : Str → Option Value} {rest : List (Addr × Obj)} {dp un : Nat} {fr : Option (List Env)} {gd : Option (List Code)} {s : Shared} {ysF ysD : List Value} {ps : Array Value} {fs ds : List Str} {Q : Flow → Shared → Prop}
    (hB : Base w h) (hC : CodeHd h 130 128) (hd : dp + 20 < recursionLimit) (hu : un + 1000 < cLine) (F : Fr h L s.heap m) (N : News h L s.heap ((128, tabObj ps) :: (fd, LCg.lst ysF) :: (dd, LCg.lst ysD) :: rest))
    (hne : ∀ p ∈ (fd, LCg.lst ysF) :: (dd, LCg.lst ysD) :: rest, p.1 ≠ 128) (hT : TabOk (lawParts w).lpos ps ((fd, LCg.lst ysF) :: (dd, LCg.lst ysD) :: rest))
    (vt : Vals m [(Str.ofString "found", .ref fd), (Str.ofString "due", .ref dd)]) (hF : Reps isStrR fs ysF) (hD : Reps isStrR ds ysD) (hfl : fs.length < 64) (hft : ∀ x ∈ fs, x.length ≤ 1000)
    (hds : ∀ x ∈ ds, ∃ l, x = S l ∧ ∀ c ∈ l, c < 128) (law : ∀ gs : List Str, gs.Perm fs → gs.Pairwise (fun x y => y.length ≤ x.length) → gs = ds)
    (hQ : ∀ h' tk ps' own, Fr h L h' m → News h L h' ((128, tabObj ps') :: (own ++ (fd, LCg.lst ysF) :: (dd, LCg.lst ysD) :: rest)) → (ps' = ps ∨ TabOk (lawParts w).lpos ps' own) →
      (∀ p ∈ own, ∀ q ∈ (128, tabObj ps) :: (fd, LCg.lst ysF) :: (dd, LCg.lst ysD) :: rest, q.1 < p.1) → Q .next { s with heap := h', toks := tk }) :
    wpAny (model prog w) (At dp un fr gd) (execs [(lawParts w).a4] (lawEnv w L fa)) Q (fun _ _ => False) s := by
  have hB0 := hB
  obtain ⟨X, loose, mean, mg, mb, T⟩ := hB
  -- the rest of the statement, once the lambda is made
  have key : ∀ (f c' : Addr) (pm ctv : Value) (oc : Obj) (vs : Array Value) (t : Tok) (h1 : Heap) (tk1 : Nat) (ps' : Array Value) (own : List (Addr × Obj)) (Q' : Value → Shared → Prop),
      Fr h L h1 m → News h L h1 ((f, kla_obj (Str.ofString "<lambda>") lamQual (lawParts w).lps (lawParts w).lbody (lawParts w).lscope [] pm c' ctv) :: (c', oc) :: (128, tabObj ps') :: (own ++ (fd, LCg.lst ysF) :: (dd, LCg.lst ysD) :: rest)) →
      oc.data = .fields vs → vs[1]? = some (.str lamQual t) → (∀ q ∈ (fd, LCg.lst ysF) :: (dd, LCg.lst ysD) :: rest, q.1 < f) →
      (∀ D h2 tk2 out, Fr h L h2 m → News h L h2 ((128, tabObj ps') :: (own ++ (fd, LCg.lst ysF) :: (dd, LCg.lst ysD) :: rest)) → h2.IsList D out.toArray → Reps isStrR ds out → Q' (.ref D) { s with heap := h2, toks := tk2 }) →
      wpAny (model prog w) (At dp un fr gd) (call (.builtin "sorted") [.ref fd] [(Str.ofString "key", .ref f)]) Q' (fun _ _ => False) { s with heap := h1, toks := tk1 } := by
    intro f c' pm ctv oc vs t h1 tk1 ps' own Q' F1 N1 hoc hvs hlt hq
    have hfd : (fd, LCg.lst ysF) ∈ own ++ (fd, LCg.lst ysF) :: (dd, LCg.lst ysD) :: rest := List.mem_append_right _ (.head _)
    refine ksk_sorted (b := false) (kz := fs.map fun x => -(x.length : Int)) F1 N1 (N1.isList (.tail _ (.tail _ (.tail _ hfd)))) (by rw [List.length_map]; exact hF.length) (by have := hF.length; omega) (ksk_s1 _ _) (fun x => ksk_l1 _ _) (fun x => ksk_t1 _ _) ?_ ?_
    · intro i v k hv hk h2 tk2 own2 F2 N2
      obtain ⟨x, tx, hx, rfl⟩ := str_of_reps hF hv
      rw [List.getElem?_map, hx] at hk
      cases hk
      have hf := (N2 (f, _) (List.mem_append_left _ (.head _))).1
      have hc := (N2 (c', oc) (List.mem_append_left _ (.tail _ (.head _)))).1
      refine lam_len (hB0.keeps F2.keep) rfl (by show dp + 10 < _; omega) (by show un + 1 + 1 + 500 < _; omega) hf ⟨c', oc, vs, t, rfl, hc, hoc, hvs⟩ (hft x (List.mem_of_getElem? hx)) ?_
      intro h3 tk3 t3 k3
      exact KskEnd.intro (Mine.Fr.grow F2 k3) (Mine.News.grow N2 k3) (fun p hp => hp)
    · intro D h2 tk2 out c F2 N2 l2 ko
      obtain ⟨gs, g1, g2, g3⟩ := sorted_strs hF ko
      rw [law gs g2 g3] at g1
      exact hq D h2 tk2 out.toList F2 (newsTl (newsTl (newsTl N2))) (by rw [Array.toArray_toList]; exact ⟨_, (N2 _ (.head _)).1, rfl, c, rfl⟩) g1
  dsimp only [lawEnv, lawParts, mkParts]
  have F0 := F
  replace F := Fr.shows F vt
  k_steps
  refine Stop.mk (kla_eval rfl ?_)
  have hgd : ∀ d ∈ ds.map PyData.str, good d := by
    intro d hd'
    obtain ⟨x, hx, rfl⟩ := List.mem_map.mp hd'
    obtain ⟨l, rfl, hl⟩ := hds x hx
    exact good_str hl
  rcases hT with rfl | ⟨c', oc, vs, t, rfl, hmem, hoc, hvs⟩
  · refine kla_nest F0 N T hC rfl (UpdF.head hne) trivial rfl rfl ?_
    intro f c' oc vs t ctv h1 tk1 F1 N1 hoc hvs l1 l2
    clear F N F0
    have F := Fr.shows F1 vt
    dsimp only at N1
    k_steps
    refine Stop.mk (key f c' ((mg "__name__").getD .none) ctv oc vs t h1 tk1 #[rawInt (lawParts w).lpos.line, rawInt (lawParts w).lpos.col, .ref c'] [(c', oc)] _ F1 (fun p hp => N1 p ?_) hoc hvs (fun q hq => Nat.lt_trans (l1 q (.tail _ hq)) l2) ?_)
    · rcases List.mem_cons.mp hp with rfl | hp
      · exact .head _
      rcases List.mem_cons.mp hp with rfl | hp
      · exact .tail _ (.head _)
      rcases List.mem_cons.mp hp with rfl | hp
      · exact .tail _ (.tail _ (.head _))
      rcases List.mem_cons.mp hp with rfl | hp
      · exact .tail _ (.head _)
      · exact .tail _ (.tail _ (.tail _ hp))
    · intro D h2 tk2 out F2 N2 hD2 hR
      clear F1 F N1
      have F := Fr.shows F2 vt
      k_steps
      refine Stop.mk (ne_same hD2 (N2.isList (.tail _ (.tail _ (.tail _ (.head _))))) (readsAll_strs hR) (readsAll_strs hD) hgd (by show un + 64 < _; omega) ?_)
      k_steps
      refine hQ h2 tk2 _ [(c', oc)] F2 N2 (.inr (.inr ⟨c', oc, vs, t, rfl, .head _, hoc, hvs⟩)) fun p hp q hq => ?_
      rw [List.mem_singleton.mp hp]
      rcases List.mem_cons.mp hq with rfl | hq
      · exact l1 (128, tabObj #[]) (.head _)
      · exact l1 q (.tail _ hq)
  · refine kla_hit (c' := c') F0 N T hC rfl (.head _) (by simp [TriplesOk, rawInt]) (by show codeAmong (lawParts w).lpos _ = _; generalize (lawParts w).lpos = q; simp [codeAmong, rawInt]) rfl ?_
    intro f ctv h1 tk1 F1 N1 l1
    clear F N F0
    have F := Fr.shows F1 vt
    k_steps
    refine Stop.mk (key f c' ((mg "__name__").getD .none) ctv oc vs t h1 tk1 #[rawInt (lawParts w).lpos.line, rawInt (lawParts w).lpos.col, .ref c'] [] _ F1 (fun p hp => N1 p ?_) hoc hvs (fun q hq => l1 q (.tail _ hq)) ?_)
    · rcases List.mem_cons.mp hp with rfl | hp
      · exact .head _
      rcases List.mem_cons.mp hp with rfl | hp
      · exact .tail _ (.tail _ hmem)
      · exact .tail _ hp
    · intro D h2 tk2 out F2 N2 hD2 hR
      clear F1 F N1
      have F := Fr.shows F2 vt
      k_steps
      refine Stop.mk (ne_same hD2 (N2.isList (.tail _ (.tail _ (.head _)))) (readsAll_strs hR) (readsAll_strs hD) hgd (by show un + 64 < _; omega) ?_)
      k_steps
      exact hQ h2 tk2 _ [] F2 N2 (.inl rfl) fun p hp => nomatch hp
end Mine
namespace Mine
theorem resetG6 : True := by
  w_top off
  trivial
local macro_rules | `(tactic| walk_at "call ref") => `(tactic| refine stopHere ?_)
local macro_rules | `(tactic| walk_at "storeName") => `(tactic| refine stopHere ?_)
theorem asked_ok {w : World} {h : Heap} {L fa : Addr} {m : Str → Option Value} {K : List (Addr × Obj)} {dp un : Nat} {fr : Option (List Env)} {gd : Option (List Code)} {s : Shared} {oA : Obj} {vA : Option Value} {ps : Array Value} {Q : Flow → Shared → Prop} {mm : Bool} {n last : Nat} {t1 t2 t3 : Tok}
    (hB : Base w h) (hd : dp + 20 < recursionLimit) (hu : un + 1000 < cLine) (F : Fr h L s.heap m) (N : News h L s.heap ((128, tabObj ps) :: (L + 1 + 1 + 1 + 1, oA) :: K)) (h128 : (128 : Addr) ≠ L + 1 + 1 + 1 + 1) (hK : ∀ p ∈ K, p.1 ≠ L + 1 + 1 + 1 + 1) (eA : oA.data = .cell vA)
    (hl : last ≤ 1) (hn : (figs n).length ≤ 64)
    (vt : Vals m [(Str.ofString "host", .str (S (hostL mm)) t1), (Str.ofString "number", .int n t2), (Str.ofString "last", .int last t3)])
    (hQ : ∀ h' tk oA' t, Fr h L h' m → News h L h' ((128, tabObj ps) :: (L + 1 + 1 + 1 + 1, oA') :: K) → oA'.data = .cell (some (.str (S (pathL mm n last)) t)) → Q .next { s with heap := h', toks := tk }) :
    wpAny (model prog w) (At dp un fr gd) (exec (lawParts w).a1 (lawEnv w L fa)) Q (fun _ _ => False) s := by
  have hB0 := hB
  obtain ⟨X, loose, mean, mg, mb, T⟩ := hB
  dsimp only [lawEnv, lawParts, mkParts]
  have F0 := F
  replace F := Fr.shows F vt
  k_steps
  refine Stop.mk (use (law_path (mm := mm) (n := n) (slash := last) hl hn) hB0 F0 N (by omega) (by omega) ?_)
  rintro v1 h2 tk2 k2 F2 N2 ⟨t, rfl⟩
  k_steps
  refine Stop.mk (storeX_C F2 N2 (by exact rfl) (UpdF.tail h128 (UpdF.head hK)) eA (fun h3 oA' F3 N3 e3 => ?_) (by exact rfl) (by exact rfl))
  exact hQ h3 tk2 oA' t F3 N3 e3
theorem turn_ok {w : World} {h : Heap} {L fa x dx td pd pw : Addr} {t : Tok} {m : Str → Option Value} {K : List (Addr × Obj)} {dp un : Nat} {fr : Option (List Env)} {gd : Option (List Code)} {s : Shared} {oA oM oP ot op : Obj} {vA : Option Value} {ps : Array Value}
    {kt : List (Str × Value)} {kp : List (Int × Value)} {rs : List Row} {Q : Flow → Shared → Prop} {mm : Bool} {n last : Nat} {t1 t2 t3 : Tok}
    (hB : Base w h) (hC : CodeHd h 130 128) (hd : dp + 20 < recursionLimit) (hu : un + 1000 < cLine) (F : Fr h L s.heap m) (N : News h L s.heap ((128, tabObj ps) :: (L + 1 + 1 + 1 + 1, oA) :: K)) (h128 : (128 : Addr) ≠ L + 1 + 1 + 1 + 1) (hK : ∀ p ∈ K, p.1 ≠ 128 ∧ p.1 ≠ L + 1 + 1 + 1 + 1) (eA : oA.data = .cell vA)
    (hT : TabOk (lawParts w).lpos ps K) (mx : (x, instObj 74 dx) ∈ K) (mdx : (dx, mgrDict w t pw) ∈ K) (mtd : (td, ot) ∈ K) (mpd : (pd, op) ∈ K) (mM : (L + 1 + 1 + 1, oM) ∈ K) (mP : (L + 1 + 1, oP) ∈ K)
    (dt : DObj (PySem.strKind prog w) ot kt) (std : (td == sysModules) = false) (rt : DReps (fun b v => isStrR (S b) v) (keqv (psL rs)) kt) (dp' : DObj (PySem.intKind prog w) op kp) (spd : (pd == sysModules) = false) (rp : DReps strL (pathsL rs) kp)
    (eM : oM.data = .cell (some (.ref x))) (eP : oP.data = .cell (some (.ref pd))) (hok : ∀ r ∈ rs, okRow r) (hrs : rs.length ≤ 60) (hnd : (keysL rs).Nodup) (hl : last ≤ 1) (hn : n < 16 ^ 40)
    (vt : Vals m [(Str.ofString "host", .str (S (hostL mm)) t1), (Str.ofString "number", .int n t2), (Str.ofString "last", .int last t3), (Str.ofString "table", .ref td)])
    (hQ : ∀ h' tk m' ps' oA' vA' own, Fr h L h' m' → News h L h' ((128, tabObj ps') :: (L + 1 + 1 + 1 + 1, oA') :: (own ++ K)) → (ps' = ps ∨ TabOk (lawParts w).lpos ps' own) → oA'.data = .cell vA' → (∀ p ∈ own, ∀ q ∈ (128, tabObj ps) :: (L + 1 + 1 + 1 + 1, oA) :: K, q.1 < p.1) →
      Vals m' [(Str.ofString "host", .str (S (hostL mm)) t1), (Str.ofString "table", .ref td)] → Q .next { s with heap := h', toks := tk }) :
    wpAny (model prog w) (At dp un fr gd) (execs [(lawParts w).a1, (lawParts w).a2, (lawParts w).a3, (lawParts w).a4] (lawEnv w L fa)) Q (fun _ _ => False) s := by
  obtain ⟨v1, v2, v3, v4, _⟩ := vt
  have hsl : ∀ r ∈ rs, r.slash ≤ 1 := fun r hr => (hok r hr).2.1
  have hfig : (figs n).length ≤ 64 := by have := figs_len_le n hn; omega
  refine execs_two (asked_ok hB hd hu F N h128 (fun p hp => (hK p hp).2) eA hl hfig ⟨v1, v2, v3, trivial⟩ ?_)
  intro h1 tk1 oA1 ta F1 N1 e1
  dsimp only
  have hpl : (pathL mm n last).length ≤ 1000 := pathL_len mm n last hl hfig
  have hpc : ∀ c ∈ pathL mm n last, c < 128 := fun c hc => by have := pathL_chars mm n last c hc; omega
  have hkt : kt.length ≤ 1000 := by
    have h1 := rt.length
    have h2 := keqv_len (psL rs)
    have h3 : (psL rs).length = rs.length := List.length_map ..
    omega
  have hkeys : kt.map (·.1) = (keqv (psL rs)).map (·.1) := rt.keys
  refine execs_two (found_ok (x := x) (dx := dx) (td := td) (pw := pw) (t := t) (rest := (128, tabObj ps) :: (L + 1 + 1 + 1 + 1, oA1) :: K) hB hd hu F1 (pickN N1 (.tail _ (.tail _ mx)) (pickN N1 (.tail _ (.tail _ mdx)) (pickN N1 (.tail _ (.tail _ mtd)) (pickN N1 (.tail _ (.head _)) (pickN N1 (.tail _ (.tail _ mM)) N1))))) dt std hkt e1 eM ?_ hpl hpc ⟨v4, trivial⟩ ?_)
  · intro e he
    exact table_plain rs hok e.1 (by rw [← hkeys]; exact List.mem_map_of_mem he)
  intro fd h2 tk2 ysF F2 N2 l2 hF
  dsimp only
  have N2' : News h L h2 ((fd, LCg.lst ysF) :: (128, tabObj ps) :: (L + 1 + 1 + 1 + 1, oA1) :: K) := pickN N2 (.head _) (newsTl (newsTl (newsTl (newsTl (newsTl (newsTl N2))))))
  have l2' : ∀ p ∈ (128, tabObj ps) :: (L + 1 + 1 + 1 + 1, oA1) :: K, p.1 < fd := fun p hp => l2 p (.tail _ (.tail _ (.tail _ (.tail _ (.tail _ hp)))))
  refine execs_two (due_ok (pd := pd) (mm := mm) (t1 := t1) (t2 := t2) (t3 := t3) (rest := (fd, LCg.lst ysF) :: (128, tabObj ps) :: (L + 1 + 1 + 1 + 1, oA1) :: K) hB hd hu F2 (pickN N2' (.tail _ (.tail _ (.tail _ mpd))) (pickN N2' (.tail _ (.tail _ (.tail _ mP))) N2')) dp' spd rp eP hl hn ⟨?_, ?_, ?_, trivial⟩ ?_)
  · exact v1
  · exact v2
  · exact v3
  intro dd h3 tk3 ysD F3 N3 l3 hD
  dsimp only
  have N3' : News h L h3 ((128, tabObj ps) :: (fd, LCg.lst ysF) :: (dd, LCg.lst ysD) :: (L + 1 + 1 + 1 + 1, oA1) :: K) := pickN N3 (.tail _ (.tail _ (.tail _ (.tail _ (.head _))))) (pickN N3 (.tail _ (.tail _ (.tail _ (.head _)))) (pickN N3 (.head _) (newsTl (newsTl (newsTl (newsTl (newsTl N3)))))))
  have fsEq : (kt.map (·.1)).filter (covers (pathL mm n last)) = foundL (keysL rs) mm n last := by rw [hkeys]; exact found_eq rs hsl mm n last hl
  rw [fsEq] at hF
  rw [due_eq rs hsl mm n last] at hD
  have l128 : (128 : Addr) < fd := l2' (128, tabObj ps) (.head _)
  have ld : fd < dd := l3 (fd, LCg.lst ysF) (.tail _ (.tail _ (.head _)))
  refine sort_ok (fd := fd) (dd := dd) (rest := (L + 1 + 1 + 1 + 1, oA1) :: K) hB hC hd hu F3 N3' ?_ ?_ ⟨rfl, rfl, trivial⟩ hF hD ?_ ?_ ?_ ?_ ?_
  · intro p hp
    rcases List.mem_cons.mp hp with rfl | hp
    · exact Nat.ne_of_gt l128
    rcases List.mem_cons.mp hp with rfl | hp
    · exact Nat.ne_of_gt (Nat.lt_trans l128 ld)
    rcases List.mem_cons.mp hp with rfl | hp
    · exact Ne.symm h128
    · exact (hK p hp).1
  · rcases hT with e | ⟨c', oc, vs, tq, e, hm, r⟩
    · exact .inl e
    · exact .inr ⟨c', oc, vs, tq, e, .tail _ (.tail _ (.tail _ hm)), r⟩
  · have h1 : (foundL (keysL rs) mm n last).length ≤ (keysL rs).length := List.length_filterMap_le ..
    have h2 := keys_len rs
    omega
  · intro y hy
    obtain ⟨c, hc, e⟩ := List.mem_filterMap.mp hy
    split at e
    · rw [← Option.some.inj e, S_length]; exact (key_plain rs hok c hc).1
    · cases e
  · intro y hy
    obtain ⟨c, _, e⟩ := List.mem_filterMap.mp hy
    split at e
    · rename_i hc
      exact ⟨_, (Option.some.inj e).symm, (key_plain rs hok c hc).2⟩
    · cases e
  · intro gs hp hs
    exact sort_law (keysL rs) (keys_codes rs hsl) hnd mm n last hl gs hp hs
  intro h4 tk4 ps' own F4 N4 T4 l4
  refine hQ h4 tk4 _ ps' oA1 _ own F4 (fun p hp => N4 p ?_) T4 e1 ?_ ⟨v1, v4, trivial⟩
  · rcases List.mem_cons.mp hp with rfl | hp
    · exact .head _
    rcases List.mem_cons.mp hp with rfl | hp
    · exact .tail _ (List.mem_append_right _ (.tail _ (.tail _ (.head _))))
    rcases List.mem_append.mp hp with hp | hp
    · exact .tail _ (List.mem_append_left _ hp)
    · exact .tail _ (List.mem_append_right _ (.tail _ (.tail _ (.tail _ hp))))
  · intro p hp q hq
    rcases List.mem_cons.mp hq with rfl | hq
    · exact l4 p hp _ (.head _)
    rcases List.mem_cons.mp hq with rfl | hq
    · exact l4 p hp (L + 1 + 1 + 1 + 1, oA1) (.tail _ (.tail _ (.tail _ (.head _))))
    · exact l4 p hp q (.tail _ (.tail _ (.tail _ (.tail _ hq))))
end Mine
namespace Mine
theorem resetG7 : True := by
  w_top off
  trivial
local macro_rules | `(tactic| walk_at "pyIter ref") => `(tactic| refine stopHere ?_)
noncomputable def pairTup (p : Nat × Nat) (u v : Tok) : Obj := { cls := .type "tuple", data := .seq [Value.int ((p.1 : Nat) : Int) u, Value.int ((p.2 : Nat) : Int) v].toArray }
/-- what holds between two turns of the inner loop -/
def InnerJ (w : World) (L I td : Addr) (ps : Array Value) (K1 : List (Addr × Obj)) (mm : Bool) (u1 : Tok) (m' : Str → Option Value) (news' : List (Addr × Obj)) : Prop := ∃ ps' oA vA code, news' = (128, tabObj ps') :: (L + 1 + 1 + 1 + 1, oA) :: (code ++ K1) ∧ oA.data = .cell vA ∧ (ps' = ps ∨ TabOk (lawParts w).lpos ps' code) ∧ (∀ p ∈ code, I < p.1) ∧
  Vals m' [(Str.ofString "host", Value.str (S (hostL mm)) u1), (Str.ofString "table", .ref td)]
theorem outer_ok {w : World} {h : Heap} {L fa x dx td pd pw : Addr} {t : Tok} {m : Str → Option Value} {K : List (Addr × Obj)} {dp un : Nat} {fr : Option (List Env)} {gd : Option (List Code)} {s : Shared} {oA oM oP ot op : Obj} {vA : Option Value} {ps : Array Value}
    {kt : List (Str × Value)} {kp : List (Int × Value)} {rs : List Row} {Q : Flow → Shared → Prop} {mm : Bool} {here slash : Nat} {tc : Tok} {c : Int}
    (hB : Base w h) (hC : CodeHd h 130 128) (hd : dp + 20 < recursionLimit) (hu : un + 1000 < cLine) (F : Fr h L s.heap m) (N : News h L s.heap ((128, tabObj ps) :: (L + 1 + 1 + 1 + 1, oA) :: K)) (h128 : (128 : Addr) < L) (hK : ∀ p ∈ K, p.1 ≠ 128 ∧ p.1 ≠ L + 1 + 1 + 1 + 1) (eA : oA.data = .cell vA)
    (hT : TabOk (lawParts w).lpos ps K) (mx : (x, instObj 74 dx) ∈ K) (mdx : (dx, mgrDict w t pw) ∈ K) (mtd : (td, ot) ∈ K) (mpd : (pd, op) ∈ K) (mM : (L + 1 + 1 + 1, oM) ∈ K) (mP : (L + 1 + 1, oP) ∈ K)
    (dt : DObj (PySem.strKind prog w) ot kt) (std : (td == sysModules) = false) (rt : DReps (fun b v => isStrR (S b) v) (keqv (psL rs)) kt) (dp' : DObj (PySem.intKind prog w) op kp) (spd : (pd == sysModules) = false) (rp : DReps strL (pathsL rs) kp)
    (eM : oM.data = .cell (some (.ref x))) (eP : oP.data = .cell (some (.ref pd))) (hok : ∀ r ∈ rs, okRow r) (hrs : rs.length ≤ 60) (hnd : (keysL rs).Nodup) (hc : c = (codeN mm here slash : Nat)) (hl : slash ≤ 1) (hn : here < 16 ^ 11)
    (vt : Vals m [(Str.ofString "code", .int c tc), (Str.ofString "table", .ref td)])
    (hQ : ∀ h' tk m' ps' oA' vA' own, Fr h L h' m' → News h L h' ((128, tabObj ps') :: (L + 1 + 1 + 1 + 1, oA') :: (own ++ K)) → (ps' = ps ∨ TabOk (lawParts w).lpos ps' own) → oA'.data = .cell vA' → (∀ p ∈ own, ∀ q ∈ (128, tabObj ps) :: (L + 1 + 1 + 1 + 1, oA) :: K, q.1 < p.1) →
      Vals m' [(Str.ofString "table", .ref td)] → Q .next { s with heap := h', toks := tk }) :
    wpAny (model prog w) (At dp un fr gd) (execs [(lawParts w).s50, .For (lawParts w).t51 (lawParts w).i51 [(lawParts w).a1, (lawParts w).a2, (lawParts w).a3, (lawParts w).a4] (lawParts w).o51 (lawParts w).p51] (lawEnv w L fa)) Q (fun _ _ => False) s := by
  have hB0 := hB
  obtain ⟨X, loose, mean, mg, mb, T⟩ := hB
  generalize hbd : [(lawParts w).a1, (lawParts w).a2, (lawParts w).a3, (lawParts w).a4] = bd
  generalize hlp : Stmt.For _ _ _ _ _ = lp
  dsimp only [lawEnv, lawParts, mkParts]
  have F0 := F
  replace F := Fr.shows F vt
  have h0 : (0 : Int) ≤ c := by omega
  k_steps
  subst hlp
  refine wpAny_For ?_
  dsimp only [lawParts, mkParts]
  k_steps
  rename_i D3 _ l3 _ _ _ _ D0 _ l0 D1 _ l1 D2 _ l2 ll hh F9 N9 l9
  have c1 := code_mod2 mm here slash
  have e1 : Txt.item (Str.ofString "pm") (c.fmod 2) = S (hostL mm) := by
    rw [hc, show ((codeN mm here slash : Nat) : Int).fmod 2 = ((codeN mm here slash % 2 : Nat) : Int) from fmod_nat _ 2, pm_at _ (Nat.mod_lt _ (by decide)), c1]
    cases mm <;> rfl
  have e2 : c.fdiv 4 = (here : Int) := by
    rw [hc, show ((codeN mm here slash : Nat) : Int).fdiv 4 = ((codeN mm here slash / 4 : Nat) : Int) from fdiv_nat _ 4]
    rw [code_div4 mm hl]
  have e3 : (c.fdiv 2).fmod 2 = (slash : Int) := by
    rw [hc, show ((codeN mm here slash : Nat) : Int).fdiv 2 = ((codeN mm here slash / 2 : Nat) : Int) from fdiv_nat _ 2, show ((codeN mm here slash / 2 : Nat) : Int).fmod 2 = ((codeN mm here slash / 2 % 2 : Nat) : Int) from fmod_nat _ 2]
    rw [code_div2 mm hl]
  have e4 : 16 * (here : Int) + 7 = ((16 * here + 7 : Nat) : Int) := by omega
  rw [e1, e2, e3] at F9
  rw [e1, e2, e3, e4] at N9
  generalize ht1 : s.toks + 1 + 1 + 1 = u1 at F9 N9
  obtain ⟨oll, holl⟩ : ∃ o : Obj, o = W.listOf [Value.ref D0, Value.ref D1, Value.ref D2].toArray 0 := ⟨_, rfl⟩
  obtain ⟨v1, hv1⟩ : ∃ v : Tok, v = tk + 1 + 1 + 1 + 1 + 1 := ⟨_, rfl⟩
  obtain ⟨v2, hv2⟩ : ∃ v : Tok, v = u1 + 1 + 1 + 1 + 1 + 1 + 1 := ⟨_, rfl⟩
  obtain ⟨v3, hv3⟩ : ∃ v : Tok, v = u1 + 1 + 1 := ⟨_, rfl⟩
  have N1 : News h L hh ((128, tabObj ps) :: (L + 1 + 1 + 1 + 1, oA) :: (ll, oll) :: (D2, pairTup (16 * here + 7, slash) v1 v2) :: (D1, pairTup (here, 1) v3 (tk + 1)) :: (D0, pairTup (here, 0) v3 tk) :: K) := by
    subst holl hv1 hv2 hv3
    exact pickN N9 (.tail _ (.tail _ (.tail _ (.tail _ (.tail _ (.head _)))))) (pickN N9 (.tail _ (.tail _ (.tail _ (.tail _ (.tail _ (.tail _ (.head _))))))) (pickN N9 (.head _) (pickN N9 (.tail _ (.head _)) (pickN N9 (.tail _ (.tail _ (.head _))) (pickN N9 (.tail _ (.tail _ (.tail _ (.head _)))) (newsTl (newsTl (newsTl (newsTl (newsTl (newsTl (newsTl N9))))))))))))
  obtain ⟨m9, F1, V9⟩ : ∃ m9, Fr h L hh m9 ∧ Vals m9 [(Str.ofString "host", Value.str (S (hostL mm)) u1), (Str.ofString "table", .ref td)] := ⟨_, F9, rfl, rfl, trivial⟩
  have g0 : 128 < D0 ∧ L + 1 + 1 + 1 + 1 < D0 := ⟨l0.2.1, l0.2.2.1⟩
  have g1 : 128 < D1 ∧ L + 1 + 1 + 1 + 1 < D1 := ⟨l1.2.2.1, l1.2.2.2.1⟩
  have g2 : 128 < D2 ∧ L + 1 + 1 + 1 + 1 < D2 := ⟨l2.2.2.2.1, l2.2.2.2.2.1⟩
  have g3 : 128 < ll ∧ L + 1 + 1 + 1 + 1 < ll := ⟨l9.2.2.2.2.1, l9.2.2.2.2.2.1⟩
  clear F9 N9 hv1 hv2 hv3 ht1 l3 l0 l1 l2 l9
  have lln : W.listOf [Value.ref D0, Value.ref D1, Value.ref D2].toArray 0 = oll := holl.symm
  subst holl
  have hpairs : Reps (fun (p : Nat × Nat) v => ∃ T u v', v = .ref T ∧ (T, pairTup p u v') ∈ [(D2, pairTup (16 * here + 7, slash) v1 v2), (D1, pairTup (here, 1) v3 (tk + 1)), (D0, pairTup (here, 0) v3 tk)]) [(here, 0), (here, 1), (16 * here + 7, slash)] [Value.ref D0, Value.ref D1, Value.ref D2] :=
    .cons ⟨D0, v3, tk, rfl, .tail _ (.tail _ (.head _))⟩ (.cons ⟨D1, v3, tk + 1, rfl, .tail _ (.head _)⟩ (.cons ⟨D2, v1, v2, rfl, .head _⟩ .nil))
  refine Stop.mk (iter_listN rfl F1 N1 (.tail _ (.tail _ (.head _))) hpairs ?_)
  intro I h2 St eI it st F2 N2 lt
  generalize hK1 : (ll, W.listOf [Value.ref D0, Value.ref D1, Value.ref D2].toArray 0) :: (D2, pairTup (16 * here + 7, slash) v1 v2) :: (D1, pairTup (here, 1) v3 (tk + 1)) :: (D0, pairTup (here, 0) v3 tk) :: K = K1 at *
  have inK : ∀ p ∈ K, p ∈ K1 := fun p hp => by rw [← hK1]; exact .tail _ (.tail _ (.tail _ (.tail _ hp)))
  have neK : ∀ p ∈ K1, p.1 ≠ 128 ∧ p.1 ≠ L + 1 + 1 + 1 + 1 := by
    intro p hp
    rw [← hK1] at hp
    rcases List.mem_cons.mp hp with rfl | hp
    · exact ⟨Nat.ne_of_gt g3.1, Nat.ne_of_gt g3.2⟩
    rcases List.mem_cons.mp hp with rfl | hp
    · exact ⟨Nat.ne_of_gt g2.1, Nat.ne_of_gt g2.2⟩
    rcases List.mem_cons.mp hp with rfl | hp
    · exact ⟨Nat.ne_of_gt g1.1, Nat.ne_of_gt g1.2⟩
    rcases List.mem_cons.mp hp with rfl | hp
    · exact ⟨Nat.ne_of_gt g0.1, Nat.ne_of_gt g0.2⟩
    · exact hK p hp
  have hI128 : (128 : Addr) < I := lt (128, tabObj ps) (.head _)
  have hIA : L + 1 + 1 + 1 + 1 < I := lt (L + 1 + 1 + 1 + 1, oA) (.tail _ (.head _))
  dsimp only
  refine for_inv it st F2 N2 (fun p hp => Nat.ne_of_lt (lt p hp)) (fun _ => InnerJ w L I td ps K1 mm u1) ?_ ?_ ?_ ?_
  · rintro done m' news' ⟨ps', oA', vA', code, rfl, _⟩ p hp
    rw [List.mem_singleton.mp hp, ← hK1]
    exact .tail _ (.tail _ (List.mem_append_right _ (.head _)))
  · exact ⟨ps, oA, vA, [], rfl, eA, .inl rfl, (fun p hp => nomatch hp), V9⟩
  · rintro done p rest v oI h3 tk3 m3 news3 hsp ⟨T', u, u', rfl, hmT⟩ F3 N3 off ⟨ps3, oA3, vA3, code, rfl, e3', T3, hcode, vals⟩
    have hmK1 : (T', pairTup p u u') ∈ K1 := by
      rw [← hK1]
      rcases List.mem_cons.mp hmT with q | q
      · rw [q]; exact .tail _ (.head _)
      rcases List.mem_cons.mp q with q | q
      · rw [q]; exact .tail _ (.tail _ (.head _))
      · rw [List.mem_singleton.mp q]; exact .tail _ (.tail _ (.tail _ (.head _)))
    have hp : p.1 < 16 ^ 40 ∧ p.2 ≤ 1 := by
      have hm : p ∈ [(here, 0), (here, 1), (16 * here + 7, slash)] := by rw [hsp]; simp
      have h40 : (16 : Nat) ^ 11 * 16 + 7 < 16 ^ 40 := by decide
      have h41 : (16 : Nat) ^ 11 < 16 ^ 40 := by decide
      rcases List.mem_cons.mp hm with rfl | hm
      · exact ⟨by show here < _; omega, by show (0 : Nat) ≤ 1; omega⟩
      rcases List.mem_cons.mp hm with rfl | hm
      · exact ⟨by show here < _; omega, by show (1 : Nat) ≤ 1; omega⟩
      · rw [List.mem_singleton.mp hm]; exact ⟨by show 16 * here + 7 < _; omega, hl⟩
    obtain ⟨pn, pl⟩ := p
    have N3' : News h L h3 ((T', { cls := .type "tuple", data := .seq #[Value.int ((pn : Nat) : Int) u, Value.int ((pl : Nat) : Int) u'] }) :: (128, tabObj ps3) :: (L + 1 + 1 + 1 + 1, oA3) :: (I, oI) :: (code ++ K1)) := pickN N3 (.tail _ (.tail _ (.tail _ (List.mem_append_right _ hmK1)))) (pickN N3 (.tail _ (.head _)) (pickN N3 (.tail _ (.tail _ (.head _))) (pickN N3 (.head _) (newsTl (newsTl (newsTl N3))))))
    have F := Fr.shows F3 vals
    clear F3 F1 F2 N1 N2 N3
    k_steps
    rename Fr _ _ _ _ => F9
    rename News _ _ _ _ => N9
    subst hbd
    refine turn_ok (mm := mm) (n := pn) (last := pl) (td := td) (x := x) (dx := dx) (pw := pw) (t := t) (pd := pd) (K := (I, oI) :: (code ++ K1)) (rs := rs) hB0 hC hd hu F9 (newsTl N9) (Nat.ne_of_lt (Nat.lt_succ_of_lt (Nat.lt_succ_of_lt (Nat.lt_succ_of_lt (Nat.lt_succ_of_lt h128))))) ?_ e3' ?_ ?_ ?_ ?_ ?_ ?_ ?_ dt std rt dp' spd rp eM eP hok hrs hnd hp.2 hp.1 ⟨rfl, rfl, rfl, rfl, trivial⟩ ?_
    · intro q hq
      rcases List.mem_cons.mp hq with rfl | hq
      · exact ⟨Nat.ne_of_gt hI128, Nat.ne_of_gt hIA⟩
      rcases List.mem_append.mp hq with hq | hq
      · exact ⟨Nat.ne_of_gt (Nat.lt_trans hI128 (hcode q hq)), Nat.ne_of_gt (Nat.lt_trans hIA (hcode q hq))⟩
      · exact neK q hq
    · rcases T3 with e | e
      · rw [e]; exact hT.mono fun q hq => .tail _ (List.mem_append_right _ (inK q hq))
      · exact e.mono fun q hq => .tail _ (List.mem_append_left _ hq)
    · exact .tail _ (List.mem_append_right _ (inK _ mx))
    · exact .tail _ (List.mem_append_right _ (inK _ mdx))
    · exact .tail _ (List.mem_append_right _ (inK _ mtd))
    · exact .tail _ (List.mem_append_right _ (inK _ mpd))
    · exact .tail _ (List.mem_append_right _ (inK _ mM))
    · exact .tail _ (List.mem_append_right _ (inK _ mP))
    · intro h4 tk4 m4 ps4 oA4 vA4 own F4 N4 T4 e4 l4 V4
      dsimp only
      have low : ∀ q ∈ own ++ code, I < q.1 := by
        intro q hq
        rcases List.mem_append.mp hq with hq | hq
        · exact l4 q hq (I, oI) (.tail _ (.tail _ (.head _)))
        · exact hcode q hq
      refine Mid.mk F4 (fun q hq => N4 q ?_) ?_ ⟨ps4, oA4, vA4, own ++ code, rfl, e4, ?_, low, V4⟩
      · rcases List.mem_cons.mp hq with rfl | hq
        · exact .tail _ (.tail _ (List.mem_append_right _ (.head _)))
        rcases List.mem_cons.mp hq with rfl | hq
        · exact .head _
        rcases List.mem_cons.mp hq with rfl | hq
        · exact .tail _ (.head _)
        rcases List.mem_append.mp hq with hq | hq
        · rcases List.mem_append.mp hq with hq | hq
          · exact .tail _ (.tail _ (List.mem_append_left _ hq))
          · exact .tail _ (.tail _ (List.mem_append_right _ (.tail _ (List.mem_append_left _ hq))))
        · exact .tail _ (.tail _ (List.mem_append_right _ (.tail _ (List.mem_append_right _ hq))))
      · intro q hq
        rcases List.mem_cons.mp hq with rfl | hq
        · exact Nat.ne_of_lt hI128
        rcases List.mem_cons.mp hq with rfl | hq
        · exact Nat.ne_of_lt hIA
        rcases List.mem_append.mp hq with hq | hq
        · exact Nat.ne_of_gt (low q hq)
        · exact Nat.ne_of_lt (lt q (.tail _ (.tail _ hq)))
      · rcases T4 with e | e
        · rw [e]
          rcases T3 with e | e
          · exact .inl e
          · exact .inr (e.mono fun q hq => List.mem_append_right _ hq)
        · exact .inr (e.mono fun q hq => List.mem_append_left _ hq)
  · rintro h3 tk3 m3 news3 F3 N3 ⟨ps3, oA3, vA3, code, rfl, e3', T3, hcode, vals⟩
    refine wpAny_execs_nil (hQ h3 tk3 m3 ps3 oA3 vA3 code F3 (fun q hq => N3 q ?_) T3 e3' ?_ ⟨vals.2.1, trivial⟩)
    · rcases List.mem_cons.mp hq with rfl | hq
      · exact .head _
      rcases List.mem_cons.mp hq with rfl | hq
      · exact .tail _ (.head _)
      rcases List.mem_append.mp hq with hq | hq
      · exact .tail _ (.tail _ (List.mem_append_left _ hq))
      · exact .tail _ (.tail _ (List.mem_append_right _ (inK _ hq)))
    · intro p hp q hq
      refine Nat.lt_trans (lt q ?_) (hcode p hp)
      rcases List.mem_cons.mp hq with rfl | hq
      · exact .head _
      rcases List.mem_cons.mp hq with rfl | hq
      · exact .tail _ (.head _)
      · exact .tail _ (.tail _ (inK _ hq))
end Mine
namespace Mine
theorem resetG8 : True := by
  w_top off
  trivial
local macro_rules | `(tactic| walk_at "mine 0") => `(tactic| skip)
local macro_rules | `(tactic| walk_at "pyIter ref") => `(tactic| refine stopHere ?_)
theorem int_is_of {w : World} {x : Int} {v : Value} (h : (PySem.intKind prog w).is x v = true) : ∃ t, v = .int x t := by
  cases v <;> simp [PySem.intKind, Value.isInt] at h
  rename_i a t
  exact ⟨t, by rw [h]⟩
/-- what holds between two turns of the outer loop -/
def OuterJ (w : World) (L I td : Addr) (ps : Array Value) (K : List (Addr × Obj)) (m' : Str → Option Value) (news' : List (Addr × Obj)) : Prop := ∃ ps' oA vA code, news' = (128, tabObj ps') :: (L + 1 + 1 + 1 + 1, oA) :: (code ++ K) ∧ oA.data = .cell vA ∧ (ps' = ps ∨ TabOk (lawParts w).lpos ps' code) ∧ (∀ p ∈ code, I < p.1) ∧
  Vals m' [(Str.ofString "table", .ref td)]
theorem loop_ok {w : World} {h : Heap} {L fa x dx td pd wd pw : Addr} {t : Tok} {m : Str → Option Value} {K : List (Addr × Obj)} {dp un : Nat} {fr : Option (List Env)} {gd : Option (List Code)} {s : Shared} {oA oM oP oW ot op ow : Obj} {vA : Option Value} {ps : Array Value}
    {kt : List (Str × Value)} {kp kw : List (Int × Value)} {rs : List Row} {Q : Flow → Shared → Prop}
    (hB : Base w h) (hC : CodeHd h 130 128) (hd : dp + 20 < recursionLimit) (hu : un + 1000 < cLine) (F : Fr h L s.heap m) (N : News h L s.heap ((128, tabObj ps) :: (L + 1 + 1 + 1 + 1, oA) :: K)) (h128 : (128 : Addr) < L) (hK : ∀ p ∈ K, p.1 ≠ 128 ∧ p.1 ≠ L + 1 + 1 + 1 + 1) (eA : oA.data = .cell vA)
    (hT : TabOk (lawParts w).lpos ps K) (mx : (x, instObj 74 dx) ∈ K) (mdx : (dx, mgrDict w t pw) ∈ K) (mtd : (td, ot) ∈ K) (mpd : (pd, op) ∈ K) (mwd : (wd, ow) ∈ K) (mM : (L + 1 + 1 + 1, oM) ∈ K) (mP : (L + 1 + 1, oP) ∈ K) (mW : (L + 1, oW) ∈ K)
    (dt : DObj (PySem.strKind prog w) ot kt) (std : (td == sysModules) = false) (rt : DReps (fun b v => isStrR (S b) v) (keqv (psL rs)) kt) (dp' : DObj (PySem.intKind prog w) op kp) (spd : (pd == sysModules) = false) (rp : DReps strL (pathsL rs) kp)
    (dw : DObj (PySem.intKind prog w) ow kw) (swd : (wd == sysModules) = false) (rw' : DReps strL (wordsL rs) kw)
    (eM : oM.data = .cell (some (.ref x))) (eP : oP.data = .cell (some (.ref pd))) (eW : oW.data = .cell (some (.ref wd))) (hok : ∀ r ∈ rs, okRow r ∧ r.here < 16 ^ 11) (hrs : rs.length ≤ 60)
    (vt : Vals m [(Str.ofString "table", .ref td)])
    (hQ : ∀ h' tk m' ps', Fr h L h' m' → News h L h' [(128, tabObj ps')] → Q (.ret (.bool true)) { s with heap := h', toks := tk }) :
    wpAny (model prog w) (At dp un fr gd) (execs [.For (lawParts w).t5 (lawParts w).i5 [(lawParts w).s50, .For (lawParts w).t51 (lawParts w).i51 [(lawParts w).a1, (lawParts w).a2, (lawParts w).a3, (lawParts w).a4] (lawParts w).o51 (lawParts w).p51] (lawParts w).o5 (lawParts w).p5, (lawParts w).s6] (lawEnv w L fa)) Q (fun _ _ => False) s := by
  have hB0 := hB
  obtain ⟨X, loose, mean, mg, mb, T⟩ := hB
  generalize hbd : [(lawParts w).s50, Stmt.For (lawParts w).t51 (lawParts w).i51 [(lawParts w).a1, (lawParts w).a2, (lawParts w).a3, (lawParts w).a4] (lawParts w).o51 (lawParts w).p51] = bd
  dsimp only [lawEnv, lawParts, mkParts]
  have N1 : News h L s.heap ((L + 1, oW) :: (128, tabObj ps) :: (L + 1 + 1 + 1 + 1, oA) :: K) := pickN N (.tail _ (.tail _ mW)) N
  have F0 := F
  refine execs_two (wpAny_For ?_)
  k_steps
  obtain ⟨ep, hat⟩ := KdkAt.of dw
  refine Stop.mk (iter_dict (knd := PySem.intKind prog w) rfl F0 N [(wd, ow)] swd (hat.dictAt (N _ (.tail _ (.tail _ mwd))).1) (.inr ⟨_, .head _⟩) ?_)
  intro I h2 St eI it st F2 N2 lt
  have hkeys : kw.map (·.1) = keysL rs := rw'.keys
  have hnd : (keysL rs).Nodup := by rw [← hkeys]; exact dw.nodup
  have hI128 : (128 : Addr) < I := lt (128, tabObj ps) (.head _)
  have hIA : L + 1 + 1 + 1 + 1 < I := lt (L + 1 + 1 + 1 + 1, oA) (.tail _ (.head _))
  have hIK : ∀ p ∈ K, p.1 < I := fun p hp => lt p (.tail _ (.tail _ hp))
  refine for_inv it st F2 N2 (fun p hp => Nat.ne_of_lt (lt p hp)) (fun _ => OuterJ w L I td ps K) ?_ ?_ ?_ ?_
  · rintro done m' news' ⟨ps', oA', vA', code, rfl, _⟩ p hp
    rw [List.mem_singleton.mp hp]
    exact .tail _ (.tail _ (List.mem_append_right _ mwd))
  · exact ⟨ps, oA, vA, [], rfl, eA, .inl rfl, (fun p hp => nomatch hp), vt⟩
  · rintro done c rest v oI h3 tk3 m3 news3 hsp hv F3 N3 off ⟨ps3, oA3, vA3, code, rfl, e3', T3, hcode, vals⟩
    obtain ⟨tc, rfl⟩ := int_is_of hv
    have hc : c ∈ keysL rs := by rw [← hkeys, hsp]; simp
    obtain ⟨r, hr, hcr⟩ := keys_rows rs c hc
    obtain ⟨hokr, hhere⟩ := hok r hr
    have N3' : News h L h3 ((128, tabObj ps3) :: (L + 1 + 1 + 1 + 1, oA3) :: (I, oI) :: (code ++ K)) := pickN N3 (.tail _ (.head _)) (pickN N3 (.tail _ (.tail _ (.head _))) (pickN N3 (.head _) (newsTl (newsTl (newsTl N3)))))
    have F := Fr.shows F3 vals
    clear F3 F0 F2 N1 N2 N3
    k_steps
    rename Fr _ _ _ _ => F9
    rename News _ _ _ _ => N9
    subst hbd
    refine outer_ok (mm := r.m) (here := r.here) (slash := r.slash) (td := td) (x := x) (dx := dx) (pw := pw) (t := t) (pd := pd) (K := (I, oI) :: (code ++ K)) (rs := rs) hB0 hC hd hu F9 N9 h128 ?_ e3' ?_ ?_ ?_ ?_ ?_ ?_ ?_ dt std rt dp' spd rp eM eP (fun r hr => (hok r hr).1) hrs hnd hcr hokr.2.1 hhere ⟨rfl, rfl, trivial⟩ ?_
    · intro q hq
      rcases List.mem_cons.mp hq with rfl | hq
      · exact ⟨Nat.ne_of_gt hI128, Nat.ne_of_gt hIA⟩
      rcases List.mem_append.mp hq with hq | hq
      · exact ⟨Nat.ne_of_gt (Nat.lt_trans hI128 (hcode q hq)), Nat.ne_of_gt (Nat.lt_trans hIA (hcode q hq))⟩
      · exact hK q hq
    · rcases T3 with e | e
      · rw [e]; exact hT.mono fun q hq => .tail _ (List.mem_append_right _ hq)
      · exact e.mono fun q hq => .tail _ (List.mem_append_left _ hq)
    · exact .tail _ (List.mem_append_right _ mx)
    · exact .tail _ (List.mem_append_right _ mdx)
    · exact .tail _ (List.mem_append_right _ mtd)
    · exact .tail _ (List.mem_append_right _ mpd)
    · exact .tail _ (List.mem_append_right _ mM)
    · exact .tail _ (List.mem_append_right _ mP)
    · intro h4 tk4 m4 ps4 oA4 vA4 own F4 N4 T4 e4 l4 V4
      dsimp only
      have low : ∀ q ∈ own ++ code, I < q.1 := by
        intro q hq
        rcases List.mem_append.mp hq with hq | hq
        · exact l4 q hq (I, oI) (.tail _ (.tail _ (.head _)))
        · exact hcode q hq
      refine Mid.mk F4 (fun q hq => N4 q ?_) ?_ ⟨ps4, oA4, vA4, own ++ code, rfl, e4, ?_, low, V4⟩
      · rcases List.mem_cons.mp hq with rfl | hq
        · exact .tail _ (.tail _ (List.mem_append_right _ (.head _)))
        rcases List.mem_cons.mp hq with rfl | hq
        · exact .head _
        rcases List.mem_cons.mp hq with rfl | hq
        · exact .tail _ (.head _)
        rcases List.mem_append.mp hq with hq | hq
        · rcases List.mem_append.mp hq with hq | hq
          · exact .tail _ (.tail _ (List.mem_append_left _ hq))
          · exact .tail _ (.tail _ (List.mem_append_right _ (.tail _ (List.mem_append_left _ hq))))
        · exact .tail _ (.tail _ (List.mem_append_right _ (.tail _ (List.mem_append_right _ hq))))
      · intro q hq
        rcases List.mem_cons.mp hq with rfl | hq
        · exact Nat.ne_of_lt hI128
        rcases List.mem_cons.mp hq with rfl | hq
        · exact Nat.ne_of_lt hIA
        rcases List.mem_append.mp hq with hq | hq
        · exact Nat.ne_of_gt (low q hq)
        · exact Nat.ne_of_lt (hIK q hq)
      · rcases T4 with e | e
        · rw [e]
          rcases T3 with e | e
          · exact .inl e
          · exact .inr (e.mono fun q hq => List.mem_append_right _ hq)
        · exact .inr (e.mono fun q hq => List.mem_append_left _ hq)
  · rintro h3 tk3 m3 news3 F3 N3 ⟨ps3, oA3, vA3, code, rfl, e3', T3, hcode, vals⟩
    clear F0 F2 N1 N2
    dsimp only
    k_steps
    exact hQ h3 tk3 m3 ps3 F3 (fun q hq => N3 q (by rw [List.mem_singleton.mp hq]; exact .head _))
end Mine
namespace Mine
theorem resetG9 : True := by
  w_top off
  trivial
local macro_rules | `(tactic| walk_at "eval ListComp") => `(tactic| k_dflt (refine comp_open ?_))
local macro_rules | `(tactic| walk_at "pyIter ref") => `(tactic| refine stopHere ?_)
local macro_rules | `(tactic| walk_at "getMethod ref") => `(tactic| refine stopHere ?_)
local macro_rules | `(tactic| walk_at "call ref") => `(tactic| refine stopHere ?_)
local macro_rules | `(tactic| walk_at "call type:list") => `(tactic| refine stopHere ?_)
local macro_rules | `(tactic| walk_at "subscriptTail") => `(tactic| refine stopHere ?_)
local macro_rules | `(tactic| walk_at "compareOp NotEq ref ref") => `(tactic| refine stopHere ?_)
theorem int_is_of9 {w : World} {x : Int} {v : Value} (h : (PySem.intKind prog w).is x v = true) : ∃ t, v = .int x t := by
  cases v <;> simp [PySem.intKind, Value.isInt] at h
  rename_i a t
  exact ⟨t, by rw [h]⟩
theorem value_paths {rs : List Row} {kp : List (Int × Value)} (hsl : ∀ r ∈ rs, r.slash ≤ 1) (rp : DReps strL (pathsL rs) kp) {c : Int} (hc : c ∈ keysL rs) : ∃ t, valueAt kp c = some (.str (S (pathOf c)) t) := by
  have e := getK_paths rs hsl c
  rw [if_pos hc] at e
  rcases rp.get c with ⟨g1, _⟩ | ⟨b, v, g1, g2, t, g3⟩
  · rw [e] at g1; cases g1
  · rw [e] at g1; cases g1; exact ⟨t, by rw [g2, g3]⟩
theorem value_words {rs : List Row} {kw : List (Int × Value)} (hn : (keysL rs).Nodup) (rw' : DReps strL (wordsL rs) kw) {c : Int} (hc : c ∈ keysL rs) : ∃ b t, getK (wordsL rs) c = some b ∧ valueAt kw c = some (.str (S b) t) := by
  obtain ⟨e, he, rfl⟩ := List.mem_map.mp hc
  have e1 := getK_words hn e he
  rcases rw'.get e.1 with ⟨g1, _⟩ | ⟨b, v, g1, g2, t, g3⟩
  · rw [e1] at g1; cases g1
  · exact ⟨b, t, g1, by rw [g2, g3]⟩
theorem items_ok {w : World} {h : Heap} {L fa td pd wd : Addr} {m : Str → Option Value} {rest : List (Addr × Obj)} {dp un : Nat} {fr : Option (List Env)} {gd : Option (List Code)} {s : Shared} {oP oW ot op ow : Obj}
    {kt : List (Str × Value)} {kp kw : List (Int × Value)} {rs : List Row} {Q : Flow → Shared → Prop}
    (hB : Base w h) (hd : dp + 20 < recursionLimit) (hu : un + 1000 < cLine) (F : Fr h L s.heap m) (N : News h L s.heap ((td, ot) :: (pd, op) :: (wd, ow) :: (L + 1 + 1, oP) :: (L + 1, oW) :: rest))
    (dt : DObj (PySem.strKind prog w) ot kt) (std : (td == sysModules) = false) (rt : DReps (fun b v => isStrR (S b) v) (keqv (psL rs)) kt) (dp' : DObj (PySem.intKind prog w) op kp) (spd : (pd == sysModules) = false) (rp : DReps strL (pathsL rs) kp)
    (dw : DObj (PySem.intKind prog w) ow kw) (swd : (wd == sysModules) = false) (rw' : DReps strL (wordsL rs) kw) (eP : oP.data = .cell (some (.ref pd))) (eW : oW.data = .cell (some (.ref wd))) (hok : ∀ r ∈ rs, okRow r) (hrs : rs.length ≤ 60)
    (vt : Vals m [(Str.ofString "table", .ref td)])
    (hQ : ∀ h' tk, Fr h L h' m → News h L h' ((td, ot) :: (pd, op) :: (wd, ow) :: (L + 1 + 1, oP) :: (L + 1, oW) :: rest) → Q .next { s with heap := h', toks := tk }) :
    wpAny (model prog w) (At dp un fr gd) (exec (lawParts w).s2 (lawEnv w L fa)) Q (fun _ _ => False) s := by
  have hB0 := hB
  obtain ⟨X, loose, mean, mg, mb, T⟩ := hB
  have hsl : ∀ r ∈ rs, r.slash ≤ 1 := fun r hr => (hok r hr).2.1
  have hkeys : kw.map (·.1) = keysL rs := rw'.keys
  have hnd : (keysL rs).Nodup := by rw [← hkeys]; exact dw.nodup
  have hkt : kt.length ≤ 1000 := by
    have h1 := rt.length
    have h2 := keqv_len (psL rs)
    have h3 : (psL rs).length = rs.length := List.length_map ..
    omega
  have hkw : kw.length ≤ 1000 := by have h1 := rw'.length; have h2 := wordsL_len rs; omega
  dsimp only [lawEnv, lawParts, mkParts]
  have F0 := F
  replace F := Fr.shows F vt
  k_steps
  refine Stop.mk (kdl_method (knd := PySem.strKind _ _) PySem.F.slot_dict_items PySem.F.type_dict_items N (by k_mem : (td, ot) ∈ _) dt ?_)
  dsimp only
  k_steps
  clear F N
  rename Fr _ _ _ _ => F7
  rename News _ _ _ _ => N7
  refine Stop.mk (list_itemsN (d := td) rfl F7 N7 (.head _) (by k_mem : (td, ot) ∈ _) dt (by omega) ?_)
  intro B1 h8 tk8 c8 tups1 lB F8 N8 hB1 hT1
  have N9 : News h L h8 ((B1, W.listOf (tups1.map fun p => Value.ref p.1).toArray c8) :: (td, ot) :: (pd, op) :: (wd, ow) :: (L + 1 + 1, oP) :: (L + 1, oW) :: (rest ++ tups1)) := pickN N8 (.head _) (newsTl (newsTl N8))
  clear F7 N7 N8
  have F := F8
  k_steps
  obtain ⟨ep, hat⟩ := KdkAt.of dw
  refine Stop.mk (iter_dict (knd := PySem.intKind prog w) rfl F8 N9 [(wd, ow)] swd (hat.dictAt (N9 _ (by k_mem : (wd, ow) ∈ _)).1) (.inr ⟨_, .head _⟩) ?_)
  intro I h9 St eI it st F10 N10 lt
  refine comp_blockT it st F10 N10 (fun p hp => Nat.ne_of_lt (lt p hp)) (fun p hp => by rw [List.mem_singleton.mp hp]; k_mem) (by simp [sizeLine_eq]; omega) (by decide) rfl rfl (fun c o => ∃ b, getK (wordsL rs) c = some b ∧ isPair2 (S (pathOf c), b) o) ?_ ?_
  · intro c v oI C oC D oD m2 tups h11 tk11 ha hv hC hx F11 N11 n1 n2 n3 l1 l2 l3
    obtain ⟨tc, rfl⟩ := int_is_of9 hv
    obtain ⟨tp, gp⟩ := value_paths hsl rp (hkeys ▸ ha)
    obtain ⟨b, tw, gb, gw⟩ := value_words hnd rw' (hkeys ▸ ha)
    dsimp only [List.cons_append] at N11
    clear F10 F8 N9 N10
    k_steps
    rename News _ _ _ _ => N12
    refine Stop.mk (item_N N12 (by k_mem : (pd, op) ∈ _) dp' int_is gp (fun a e => by cases e) ?_)
    dsimp only
    k_steps
    rename News _ _ _ _ => N13
    refine Stop.mk (item_N N13 (by k_mem : (wd, ow) ∈ _) dw int_is gw (fun a e => by cases e) ?_)
    dsimp only
    k_steps
    rename Fr _ _ _ _ => F14
    rename News _ _ _ _ => N14
    rename_i l14
    exact Stop.mk ⟨_, _, _, _, rfl, rfl, F14, N14, l14.1, l14.2.1, b, gb, _, _, rfl⟩
  · intro D h11 tk11 tups F11 N11 l1 l2 hT2
    dsimp only [List.cons_append] at N11
    have hd1 : (keqv (psL rs)).map pairD = (wordsL rs).map fun e => pairD (S (pathOf e.1), e.2) := by rw [keqv_law rs hsl, List.map_map]; rfl
    have r1 : ReadsAll h11 (tups1.map fun p => Value.ref p.1) ((wordsL rs).map fun e => pairD (S (pathOf e.1), e.2)) [] := by
      rw [← hd1]
      exact readsAll_pairs (treps_table (fun _ _ q => q) rt hT1) fun p hp => (N11 p (.tail _ (.tail _ (List.mem_append_left _ (.tail _ (.tail _ (.tail _ (.tail _ (.tail _ (List.mem_append_right _ hp)))))))))).1
    have r2 : ReadsAll h11 (tups.map fun p => Value.ref p.1) ((wordsL rs).map fun e => pairD (S (pathOf e.1), e.2)) [] := by
      have e : kw.map (·.1) = (wordsL rs).map (·.1) := rw'.keys
      rw [e] at hT2
      have hT3 := TReps.carry (R' := isPair2) (fun (e : Int × List Nat) => e.1) (fun (e : Int × List Nat) => (S (pathOf e.1), e.2)) hT2 (by
        rintro e he o ⟨b, gb, q⟩
        rw [getK_words hnd e he] at gb
        cases gb; exact q)
      have := readsAll_pairs hT3 fun p hp => (N11 p (.tail _ (.tail _ (.tail _ (.tail _ (.tail _ (.tail _ (.tail _ (List.mem_append_right _ hp))))))))).1
      rw [List.map_map] at this
      exact this
    have hg : ∀ d ∈ (wordsL rs).map (fun e => pairD (S (pathOf e.1), e.2)), good d := by
      intro d hd'
      obtain ⟨e, he, rfl⟩ := List.mem_map.mp hd'
      exact good_pair (key_plain rs hok e.1 (List.mem_map_of_mem he)).2 (word_plain rs hok e he)
    refine ne_same ⟨_, (N11 (B1, _) (.tail _ (.head _))).1, rfl, _, rfl⟩ ⟨_, (N11 (D, _) (.head _)).1, rfl, _, rfl⟩ r1 r2 hg (by show un + 64 < _; omega) ?_
    clear F10 F8 N9 N10
    k_steps
    have F12 : Fr h L h11 m := by
      have e := look_eq vt
      unfold look at e
      rw [e] at F11; exact F11
    exact hQ _ _ F12 (pickN N11 (.tail _ (.tail _ (.head _))) (pickN N11 (.tail _ (.tail _ (.tail _ (.head _)))) (pickN N11 (.tail _ (.tail _ (.tail _ (.tail _ (.head _))))) (pickN N11 (.tail _ (.tail _ (.tail _ (.tail _ (.tail _ (.head _)))))) (pickN N11 (.tail _ (.tail _ (.tail _ (.tail _ (.tail _ (.tail _ (.head _))))))) (fun p hp => N11 p (.tail _ (.tail _ (List.mem_append_left _ (.tail _ (.tail _ (.tail _ (.tail _ (.tail _ (List.mem_append_left _ hp)))))))))))))))
end Mine
namespace Mine
theorem resetG10 : True := by
  w_top off
  trivial
local macro_rules | `(tactic| walk_at "eval ListComp") => `(tactic| k_dflt (refine comp_open ?_))
local macro_rules | `(tactic| walk_at "pyIter ref") => `(tactic| refine stopHere ?_)
local macro_rules | `(tactic| walk_at "call ref") => `(tactic| refine stopHere ?_)
local macro_rules | `(tactic| walk_at "compareOp NotEq ref ref") => `(tactic| refine stopHere ?_)
theorem fm_map {α β : Type} {f : α → Option β} {g : α → β} : ∀ l : List α, (∀ a ∈ l, f a = some (g a)) → l.filterMap f = l.map g
  | [], _ => rfl
  | a :: r, h => by rw [List.filterMap_cons, h a (.head _), List.map_cons, fm_map r fun b hb => h b (.tail _ hb)]
theorem key_ap (rs : List Row) (h : ∀ r ∈ rs, okRow r) : ∀ c ∈ keysL rs, (∀ x ∈ (pathOf c).drop 1, isAP x) ∧ ((numL ((pathOf c).drop 1) : Nat) : Int) = c.fdiv 4 := by
  intro c hc
  obtain ⟨r, hr, rfl⟩ := keys_rows rs c hc
  obtain ⟨h1, h2, _⟩ := h r hr
  have e : pathOf (rowCode r) = pathL r.m r.here r.slash := pathOf_code r.m r.here r.slash h2
  rw [e]
  constructor
  · intro x hx
    obtain ⟨t, e2, h3⟩ := pathL_tail_chars r.m r.here r.slash
    rw [e2] at hx
    have : (hostL r.m ++ t).drop 1 = t := by cases r.m <;> rfl
    rw [this] at hx
    exact h3 x hx
  · rw [num_path]
    show _ = ((codeN r.m r.here r.slash : Nat) : Int).fdiv 4
    rw [show ((codeN r.m r.here r.slash : Nat) : Int).fdiv 4 = ((codeN r.m r.here r.slash / 4 : Nat) : Int) from fdiv_nat _ 4]
    rw [code_div4 r.m h2]
theorem nums_ok {w : World} {h : Heap} {L fa td wd : Addr} {m : Str → Option Value} {rest : List (Addr × Obj)} {dp un : Nat} {fr : Option (List Env)} {gd : Option (List Code)} {s : Shared} {oW ot ow : Obj}
    {kt : List (Str × Value)} {kw : List (Int × Value)} {rs : List Row} {Q : Flow → Shared → Prop}
    (hB : Base w h) (hd : dp + 20 < recursionLimit) (hu : un + 1000 < cLine) (F : Fr h L s.heap m) (N : News h L s.heap ((td, ot) :: (wd, ow) :: (L + 1, oW) :: rest))
    (dt : DObj (PySem.strKind prog w) ot kt) (std : (td == sysModules) = false) (rt : DReps (fun b v => isStrR (S b) v) (keqv (psL rs)) kt)
    (dw : DObj (PySem.intKind prog w) ow kw) (swd : (wd == sysModules) = false) (rw' : DReps strL (wordsL rs) kw) (eW : oW.data = .cell (some (.ref wd))) (hok : ∀ r ∈ rs, okRow r) (hrs : rs.length ≤ 60)
    (vt : Vals m [(Str.ofString "table", .ref td)])
    (hQ : ∀ h' tk, Fr h L h' m → News h L h' ((td, ot) :: (wd, ow) :: (L + 1, oW) :: rest) → Q .next { s with heap := h', toks := tk }) :
    wpAny (model prog w) (At dp un fr gd) (exec (lawParts w).s3 (lawEnv w L fa)) Q (fun _ _ => False) s := by
  have hB0 := hB
  obtain ⟨X, loose, mean, mg, mb, T⟩ := hB
  have hsl : ∀ r ∈ rs, r.slash ≤ 1 := fun r hr => (hok r hr).2.1
  have hkeys : kw.map (·.1) = keysL rs := rw'.keys
  have hkeyt : kt.map (·.1) = (keysL rs).map fun c => S (pathOf c) := by rw [← keys_of_table rs hsl]; exact rt.keys
  have hkl : (keysL rs).length ≤ 60 := by have := keys_len rs; omega
  dsimp only [lawEnv, lawParts, mkParts]
  have F0 := F
  replace F := Fr.shows F vt
  k_steps
  obtain ⟨ep, hat⟩ := KdkAt.of dt
  refine Stop.mk (iter_dict (knd := PySem.strKind prog w) rfl F N [(td, ot)] std (hat.dictAt (N _ (.head _)).1) (.inr ⟨_, .head _⟩) ?_)
  intro I h2 St eI it st F2 N2 lt
  refine comp_block it st F2 N2 (fun p hp => Nat.ne_of_lt (lt p hp)) (fun p hp => by rw [List.mem_singleton.mp hp]; exact .head _) (by rw [hkeyt, List.length_map, sizeLine_eq]; omega) (by decide) rfl rfl (fun k => some ((numL (k.cps.toList.drop 1) : Nat) : Int)) isIntR ?_ ?_
  · intro k v oI C oC D oD m2 h4 tk4 ha hv hC hx F4 N4 n1 n2 n3 l1 l2
    obtain ⟨tv, rfl⟩ := str_is_of hv
    rw [hkeyt] at ha
    obtain ⟨c, hc, rfl⟩ := List.mem_map.mp ha
    refine wpAny_tests_nil ?_
    simp only [if_true]
    clear F F2 N N2
    k_steps
    refine Stop.mk (use (law_number (l := pathOf c) (key_plain rs hok c hc).1 (key_ap rs hok c hc).1) hB0 F4 N4 (by omega) (by omega) ?_)
    rintro v1 h5 tk5 k5 F5 N5 ⟨t5, rfl⟩
    k_steps
    exact CEnd.mk F5 N5 ⟨_, rfl, t5, rfl⟩
  intro D h4 tk4 ys F4 N4 l4 hR
  dsimp only
  clear F N F2 N2
  k_steps
  obtain ⟨ep2, hat2⟩ := KdkAt.of dw
  refine Stop.mk (iter_dict (knd := PySem.intKind prog w) rfl F4 N4 [(wd, ow)] swd (hat2.dictAt (N4 _ (.tail _ (.tail _ (.head _)))).1) (.inr ⟨_, .head _⟩) ?_)
  intro I2 h5 St5 eI5 it5 st5 F5 N5 lt5
  refine comp_block it5 st5 F5 N5 (fun p hp => Nat.ne_of_lt (lt5 p hp)) (fun p hp => by rw [List.mem_singleton.mp hp]; exact .tail _ (.tail _ (.head _))) (by rw [hkeys, sizeLine_eq]; omega) (by decide) rfl rfl (fun c => some (c.fdiv 4)) isIntR ?_ ?_
  · intro c v oI C oC D2 oD m2 h6 tk6 ha hv hC hx F6 N6 n1 n2 n3 l1 l2
    obtain ⟨tv, rfl⟩ := int_is_of9 hv
    refine wpAny_tests_nil ?_
    simp only [if_true]
    clear F4 F5 N4 N5
    k_steps
    exact CEnd.mk F6 N6 ⟨_, rfl, _, rfl⟩
  intro D2 h6 tk6 ys2 F6 N6 l6 hR2
  dsimp only
  have e1 : (kt.map (·.1)).filterMap (fun k : Str => some ((numL (k.cps.toList.drop 1) : Nat) : Int)) = (keysL rs).map fun c => c.fdiv 4 := by
    rw [hkeyt, List.filterMap_map]
    exact fm_map _ fun c hc => congrArg some (key_ap rs hok c hc).2
  have e2 : (kw.map (·.1)).filterMap (fun c : Int => some (c.fdiv 4)) = (keysL rs).map fun c => c.fdiv 4 := by
    rw [hkeys]; exact fm_map _ fun _ _ => rfl
  rw [e1] at hR
  rw [e2] at hR2
  clear F4 F5 N4 N5
  refine ne_same (N6.isList (.tail _ (.head _))) (N6.isList (.head _)) (readsAll_ints hR) (readsAll_ints hR2) (fun d hd' => by obtain ⟨i, _, rfl⟩ := List.mem_map.mp hd'; exact good_int i) (by show un + 64 < _; omega) ?_
  k_steps
  have F12 : Fr h L h6 m := by
    have e := look_eq vt
    unfold look at e
    rw [e] at F6; exact F6
  exact hQ _ _ F12 fun p hp => N6 p (.tail _ (.tail _ hp))
end Mine
namespace Mine
theorem resetG11 : True := by
  w_top off
  trivial
local macro_rules | `(tactic| walk_at "call ref") => `(tactic| refine stopHere ?_)
local macro_rules | `(tactic| walk_at "storeName") => `(tactic| refine stopHere ?_)
theorem mgr_ok {w : World} {h : Heap} {L fa : Addr} {m : Str → Option Value} {K : List (Addr × Obj)} {dp un : Nat} {fr : Option (List Env)} {gd : Option (List Code)} {s : Shared} {oM : Obj} {vM : Option Value} {Q : Flow → Shared → Prop}
    (hB : Base w h) (hd : dp + 20 < recursionLimit) (hu : un + 1000 < cLine) (F : Fr h L s.heap m) (N : News h L s.heap ((L + 1 + 1 + 1, oM) :: K)) (hK : ∀ p ∈ K, p.1 ≠ L + 1 + 1 + 1) (eM : oM.data = .cell vM)
    (hQ : ∀ h' tk x dx pw t oM', Fr h L h' m → News h L h' ((x, instObj 74 dx) :: (dx, mgrDict w t pw) :: (L + 1 + 1 + 1, oM') :: K) → oM'.data = .cell (some (.ref x)) → (∀ p ∈ (L + 1 + 1 + 1, oM) :: K, x ≠ p.1 ∧ dx ≠ p.1) → Q .next { s with heap := h', toks := tk }) :
    wpAny (model prog w) (At dp un fr gd) (exec (lawParts w).s4 (lawEnv w L fa)) Q (fun _ _ => False) s := by
  have hB0 := hB
  obtain ⟨X, loose, mean, mg, mb, T⟩ := hB
  dsimp only [lawEnv, lawParts, mkParts]
  k_steps
  refine use new_mgr hB0 F N (by omega) (by omega) ?_
  rintro v1 h2 tk2 k2 F2 N2 ⟨x, dx, pw, t, rfl, hx, hdx, nx, ndx, ldx⟩
  have e1 : ∀ p ∈ (L + 1 + 1 + 1, oM) :: K, x ≠ p.1 ∧ dx ≠ p.1 := fun p hp => ⟨ne_of_new nx (N p hp).1, ne_of_new ndx (N p hp).1⟩
  have N3 := News.add F (News.add F N2 hdx ndx) hx nx
  have hxM := (e1 _ (.head _)).1
  have hdM := (e1 _ (.head _)).2
  clear F N N2
  k_steps
  refine Stop.mk (storeX_C F2 N3 (by exact rfl) (UpdF.tail hxM (UpdF.tail hdM (UpdF.head hK))) eM (fun h3 oM' F3 N4 e3 => ?_) (by exact rfl) (by exact rfl))
  exact hQ h3 tk2 x dx pw t oM' F3 N4 e3 e1
end Mine
namespace Mine
local macro_rules | `(tactic| walk_at "eval Call") => `(tactic| (k_here; (with_reducible show wpAny _ _ (eval (Expr.Call (Expr.Name _ _) _ [] _) _) _ _ _); k_dflt (refine Call_ ?_)))
local macro_rules | `(tactic| walk_at "exec If") => `(tactic| refine stopHere ?_)
local macro_rules | `(tactic| walk_at "mine") => `(tactic| skip)
theorem at_bounds (e : Env) : ∃ dp un fr gd, callerA.deeper e = At dp un fr gd ∧ dp + 20 < recursionLimit ∧ un + 1000 < cLine :=
  ⟨_, _, _, _, at_of _ rfl, (by show 1 + claimMargin + 1 + 20 < _; decide +kernel), (by show 4 + _ + 1000 < _; decide +kernel)⟩
theorem far1 {L td wd pd : Addr} {ot ow op o1 o2 o4 ob : Obj} (h1 : td ≠ L + 1 + 1 + 1) (h2 : wd ≠ L + 1 + 1 + 1) (h3 : pd ≠ L + 1 + 1 + 1) (l : (128 : Addr) < L) :
    ∀ p ∈ [(td, ot), (wd, ow), (L + 1, o1), (pd, op), (L + 1 + 1, o2), ((128 : Addr), ob), (L + 1 + 1 + 1 + 1, o4)], p.1 ≠ L + 1 + 1 + 1 := by
  intro p hp
  simp only [List.mem_cons, List.not_mem_nil, or_false] at hp
  rcases hp with rfl | rfl | rfl | rfl | rfl | rfl | rfl
  · exact h1
  · exact h2
  · exact Nat.ne_of_lt (Nat.lt_succ_of_lt (Nat.lt_succ_self _))
  · exact h3
  · exact Nat.ne_of_lt (Nat.lt_succ_self _)
  · exact Nat.ne_of_lt (Nat.lt_succ_of_lt (Nat.lt_succ_of_lt (Nat.lt_succ_of_lt l)))
  · exact Nat.ne_of_gt (Nat.lt_succ_self _)
theorem far2 {L td wd pd x dx : Addr} {ot ow op o1 o2 o3 ox odx : Obj} (h1 : td ≠ 128 ∧ td ≠ L + 1 + 1 + 1 + 1) (h2 : wd ≠ 128 ∧ wd ≠ L + 1 + 1 + 1 + 1) (h3 : pd ≠ 128 ∧ pd ≠ L + 1 + 1 + 1 + 1) (hx : x ≠ 128 ∧ dx ≠ 128) (hx' : x ≠ L + 1 + 1 + 1 + 1 ∧ dx ≠ L + 1 + 1 + 1 + 1) (l : (128 : Addr) < L) :
    ∀ p ∈ [(x, ox), (dx, odx), (L + 1 + 1 + 1, o3), (td, ot), (wd, ow), (L + 1, o1), (pd, op), (L + 1 + 1, o2)], p.1 ≠ 128 ∧ p.1 ≠ L + 1 + 1 + 1 + 1 := by
  intro p hp
  simp only [List.mem_cons, List.not_mem_nil, or_false] at hp
  rcases hp with rfl | rfl | rfl | rfl | rfl | rfl | rfl | rfl
  · exact ⟨hx.1, hx'.1⟩
  · exact ⟨hx.2, hx'.2⟩
  · exact ⟨Nat.ne_of_gt (Nat.lt_succ_of_lt (Nat.lt_succ_of_lt (Nat.lt_succ_of_lt l))), Nat.ne_of_lt (Nat.lt_succ_self _)⟩
  · exact h1
  · exact h2
  · exact ⟨Nat.ne_of_gt (Nat.lt_succ_of_lt l), Nat.ne_of_lt (Nat.lt_succ_of_lt (Nat.lt_succ_of_lt (Nat.lt_succ_self _)))⟩
  · exact h3
  · exact ⟨Nat.ne_of_gt (Nat.lt_succ_of_lt (Nat.lt_succ_of_lt l)), Nat.ne_of_lt (Nat.lt_succ_of_lt (Nat.lt_succ_self _))⟩
theorem foo : PySem.Challenge.rw_pe0124_01.Holds := Mine.hd (by
  w_strict (k_go0; (all_goals try k_fold)
            rename IntsAre _ _ => hI
            rename News _ _ _ _ => N
            rename Fr _ _ _ _ => F
            rename Top topProg _ _ _ _ _ => T
            rename Below _ _ _ _ => K
            rename Frag.In _ _ => X
            have hB0 : Base _ _ := ⟨X, _, _, _, _, T⟩
            refine no_raise ?_
            obtain ⟨dp, un, fr, gd, hA, hdp, hun⟩ := at_bounds (envOfC _ _ _ _ _)
            rw [hA]
            rename_i w s0 s1 mg mb G Y fa o pm doc ho hg X1 V1 T1 B1 TE TW hcd ns hs1 hlay hL1 hr1 hl2 _ _ sa vals _ hL2 ra w1 r0 hr2 hlen0 _ hDf h1 tk1 o4 o3 o2 o1 e4 e3 e2 e1 X0 l0
            k_steps
            have hlen : ns.length ≤ 63 := by omega
            generalize hLL : s1.heap.objs.size = L at *
            generalize hhh : ghostOf s1.heap [(130, 128)] = h at *
            refine use (law_rows (isList_keeps F.keep lifted) hI hlen) hB0 F N (by omega) (by omega) ?_
            rintro v1 h2 tk2 k2 F2 N2 ⟨a, ys, n, rfl, hra, hanew, hrows⟩
            dsimp only
            clear F N
            k_steps
            refine use (law_told hra hrows (rows_ok ns) (by have := rows_len ns; omega)) hB0 F2 N2 (by omega) (by omega) ?_
            rintro v1 h3 tk3 k3 F3 N3 ⟨t, wd, pd, il, ow, op, kw, kp, ys3, n3, rfl, htup, hwd, hpd, hil, nwd, npd, nil, lwp, lpi, swd, spd, dw, rw', dp', rp, hit⟩
            dsimp only
            have N4 := News.add F2 (News.add F2 (News.add F2 N3 hwd nwd) hpd npd) hil nil
            have htup' : IsTup h3 t #[Value.ref wd, Value.ref pd, Value.ref il] := htup
            have q4 := (N2 _ (.head _)).1
            have q3 := (N2 _ (.tail _ (.head _))).1
            have q2 := (N2 _ (.tail _ (.tail _ (.head _)))).1
            have q1 := (N2 _ (.tail _ (.tail _ (.tail _ (.head _))))).1
            have q0 := (N2 _ (.tail _ (.tail _ (.tail _ (.tail _ (.head _)))))).1
            have b1 := ne_of_new nwd q1
            have b2 := ne_of_new nwd q2
            have b3 := ne_of_new nwd q3
            have b4 := ne_of_new nwd q4
            have b5 := ne_of_new npd q1
            have b6 := ne_of_new npd q2
            have b7 := ne_of_new npd q3
            have b8 := ne_of_new npd q4
            have b9 := ne_of_new nil q1
            have b10 := ne_of_new nil q2
            have b11 := ne_of_new nil q3
            have b12 := ne_of_new nil q4
            have c1 : wd ≠ 128 := ne_of_new nwd q0
            have c2 : pd ≠ 128 := ne_of_new npd q0
            have c3 : il ≠ 128 := ne_of_new nil q0
            clear F2 N2 N3 q0 q1 q2 q3 q4
            k_steps
            rename Fr _ _ _ _ => F
            rename News _ _ _ _ => N
            have hil' := (N (il, W.listOf ys3.toArray n3) (by k_mem)).1
            refine join_list ⟨_, hil', rfl, _, rfl⟩ (reps_S hit) (items_sum ns) ?_
            intro tj kj
            dsimp only
            rw [join_S]
            k_steps
            refine use (parse_http (joined_len ns)) hB0 F N (by omega) (by omega) ?_
            rintro v1 h4 tk4 k4 F4 N4 ⟨la, ys4, n4, rfl, hla, nla, hparts⟩
            dsimp only
            k_steps
            refine use (parse_keqv hla (reps_row2 hparts (http_law ns)) (ps_ok ns) (by have := rows_len ns; simp only [psL, List.length_map]; omega)) hB0 F4 N4 (by omega) (by omega) ?_
            rintro v1 h5 tk5 k5 F5 N5 ⟨td, ot, kt, rfl, htd, ntd, std, dt, rt⟩
            dsimp only
            have N6 := News.add F4 N5 htd ntd
            have d1 := ne_of_new ntd (N4 _ (by k_mem : (wd, ow) ∈ _)).1
            have d2 := ne_of_new ntd (N4 _ (by k_mem : (pd, op) ∈ _)).1
            have d4 := ne_of_new ntd (N4 _ (by k_mem : (128, _) ∈ _)).1
            have d5 := ne_of_new ntd (N4 _ (by k_mem : (L + 1 + 1 + 1 + 1, o4) ∈ _)).1
            have d6 := ne_of_new ntd (N4 _ (by k_mem : (L + 1 + 1 + 1, o3) ∈ _)).1
            clear F4 N4 N5 F N
            k_steps
            rename Fr _ _ _ _ => F7
            rename News _ _ _ _ => N7
            rename _ = Data.cell (some (Value.ref pd)) => eP
            rename _ = Data.cell (some (Value.ref wd)) => eW
            have hokr : ∀ r ∈ rowsL ns, okRow r := rows_ok ns
            have hrl : (rowsL ns).length ≤ 60 := by have := rows_len ns; omega
            have lA : (128 : Addr) < L := l0
            have vt : ∃ m7, Fr h L _ m7 ∧ Vals m7 [(Str.ofString "table", .ref td)] := ⟨_, F7, rfl, trivial⟩
            obtain ⟨m7, F8, V8⟩ := vt
            have N8 := pickN N7 (.head _) (pickN N7 (.tail _ (.tail _ (.head _))) (pickN N7 (.tail _ (.tail _ (.tail _ (.head _)))) (pickN N7 (.tail _ (.tail _ (.tail _ (.tail _ (.tail _ (.tail _ (.head _))))))) (pickN N7 (.tail _ (.tail _ (.tail _ (.tail _ (.tail _ (.tail _ (.tail _ (.head _)))))))) (pickN N7 (.tail _ (.tail _ (.tail _ (.tail _ (.tail _ (.tail _ (.tail _ (.tail _ (.head _))))))))) (pickN N7 (.tail _ (.tail _ (.tail _ (.tail _ (.head _))))) (pickN N7 (.tail _ (.tail _ (.tail _ (.tail _ (.tail _ (.head _)))))) News.nil)))))))
            refine Stop.mk (items_ok (td := td) (pd := pd) (wd := wd) (rs := rowsL ns) (rest := [(128, tabObj #[]), (L + 1 + 1 + 1 + 1, o4), (L + 1 + 1 + 1, o3)]) hB0 hdp hun F8 N8 dt std rt dp' spd rp dw swd rw' eP eW hokr hrl V8 ?_)
            intro h9 tk9 F9 N9
            dsimp only
            clear F7 N7 N8 F8
            refine execs_two (nums_ok (td := td) (wd := wd) (rs := rowsL ns) (rest := (pd, op) :: (L + 1 + 1, _) :: [(128, tabObj #[]), (L + 1 + 1 + 1 + 1, o4), (L + 1 + 1 + 1, o3)]) hB0 hdp hun F9 (pickN N9 (.head _) (pickN N9 (.tail _ (.tail _ (.head _))) (pickN N9 (.tail _ (.tail _ (.tail _ (.tail _ (.head _))))) (pickN N9 (.tail _ (.head _)) (pickN N9 (.tail _ (.tail _ (.tail _ (.head _)))) (pickN N9 (.tail _ (.tail _ (.tail _ (.tail _ (.tail _ (.head _)))))) (pickN N9 (.tail _ (.tail _ (.tail _ (.tail _ (.tail _ (.tail _ (.head _))))))) (pickN N9 (.tail _ (.tail _ (.tail _ (.tail _ (.tail _ (.tail _ (.tail _ (.head _)))))))) News.nil)))))))) dt std rt dw swd rw' eW hokr hrl V8 ?_)
            intro h10 tk10 F10 N10
            dsimp only
            clear F9 N9
            refine execs_two (mgr_ok (K := (td, ot) :: (wd, ow) :: (L + 1, _) :: (pd, op) :: (L + 1 + 1, _) :: [(128, tabObj #[]), (L + 1 + 1 + 1 + 1, o4)]) hB0 hdp hun F10 (pickN N10 (.tail _ (.tail _ (.tail _ (.tail _ (.tail _ (.tail _ (.tail _ (.head _)))))))) (pickN N10 (.head _) (pickN N10 (.tail _ (.head _)) (pickN N10 (.tail _ (.tail _ (.head _))) (pickN N10 (.tail _ (.tail _ (.tail _ (.head _)))) (pickN N10 (.tail _ (.tail _ (.tail _ (.tail _ (.head _))))) (pickN N10 (.tail _ (.tail _ (.tail _ (.tail _ (.tail _ (.head _)))))) (pickN N10 (.tail _ (.tail _ (.tail _ (.tail _ (.tail _ (.tail _ (.head _))))))) News.nil)))))))) ?_ e3 ?_)
            · exact far1 d6 b3 b7 lA
            intro h11 tk11 x dx pw t11 oM F11 N11 eM hx
            dsimp only
            clear F10 N10
            refine loop_ok (td := td) (pd := pd) (wd := wd) (x := x) (dx := dx) (pw := pw) (t := t11) (rs := rowsL ns) (K := (x, instObj 74 dx) :: (dx, mgrDict w t11 pw) :: (L + 1 + 1 + 1, oM) :: (td, ot) :: (wd, ow) :: (L + 1, _) :: (pd, op) :: (L + 1 + 1, _) :: []) hB0 codeHd hdp hun F11 (pickN N11 (.tail _ (.tail _ (.tail _ (.tail _ (.tail _ (.tail _ (.tail _ (.tail _ (.head _))))))))) (pickN N11 (.tail _ (.tail _ (.tail _ (.tail _ (.tail _ (.tail _ (.tail _ (.tail _ (.tail _ (.head _)))))))))) (pickN N11 (.head _) (pickN N11 (.tail _ (.head _)) (pickN N11 (.tail _ (.tail _ (.head _))) (pickN N11 (.tail _ (.tail _ (.tail _ (.head _)))) (pickN N11 (.tail _ (.tail _ (.tail _ (.tail _ (.head _))))) (pickN N11 (.tail _ (.tail _ (.tail _ (.tail _ (.tail _ (.head _)))))) (pickN N11 (.tail _ (.tail _ (.tail _ (.tail _ (.tail _ (.tail _ (.head _))))))) (pickN N11 (.tail _ (.tail _ (.tail _ (.tail _ (.tail _ (.tail _ (.tail _ (.head _)))))))) News.nil)))))))))) lA ?_ e4 (.inl rfl) (by k_mem) (by k_mem) (by k_mem) (by k_mem) (by k_mem) (by k_mem) (by k_mem) (by k_mem) dt std rt dp' spd rp dw swd rw' eM eP eW (fun r hr => ⟨hokr r hr, rows_here ns r hr⟩) hrl V8 ?_
            · exact far2 ⟨d4, d5⟩ ⟨c1, b4⟩ ⟨c2, b8⟩ (hx (128, tabObj #[]) (by k_mem)) (hx (L + 1 + 1 + 1 + 1, o4) (by k_mem)) lA
            intro h12 tk12 m12 ps12 F12 N12
            clear F11 N11
            k_steps))
end Mine
theorem PySem.Challenge.cw_pe0124_01_holds : PySem.Challenge.rw_pe0124_01.Holds := by
  exact Mine.foo
